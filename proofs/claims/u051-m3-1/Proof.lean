import JvmDerived
import JvmDerived.Pilot.@@N@@Statement
import JvmDerived.Pilot.@@N@@Code
set_option linter.unusedVariables false
set_option linter.unusedSimpArgs false
namespace Jvm.RoadKit
open Sem ClassFile Op Lib Jvm.Stand Jvm.Free Jvm.LawKit
section New
variable {p : Program} {l : Launch} {e : Env} {R : Room} {s : State} {m : MethodId} {args : Array Value} {below : List Frame} {meth : Method} {c : Code} {T : State} {locs : List Loc} {cells slots : Nat}
theorem retI (X : Stand p l e R s m args below meth c T locs cells slots) (hx : p.tables.exec = Jvm.exec) {pc : Nat} {Ls : Array Slot} {z : Int32} {rest : List Value} (hret : meth.sig.returnType = some .int) (hd : decode c.code pc = .ok (.ireturn, 1)) {fs : List Frame}
    (hl : ∀ (f : JFrame) (acts : List Action), f.method = m → f.locked = none → f.entered = [] → (doReturn e (T.setTop f) acts (some (.int z))).1 = T.setFrames fs) : Steps p.tables e below (T.setTop (mkF m pc Ls (.int z :: rest))) (T.setFrames fs) := by
  have hm' : T.vm.method? m = some meth := X.method'
  have hn : narrow .int (.int z) = .int z := rfl
  show Steps p.tables e below (T.setTop { method := m, pc := pc, locals := Ls, stack := _ :: rest, locked := none }) _
  jvm_step X.here [X.here.top, hx, hd, hm', hret, hn]
  first | (intro acts; rw [hl _ acts rfl rfl rfl]) | rw [hl _ _ rfl rfl rfl]
  exact Steps.refl _
end New
end Jvm.RoadKit
namespace Jvm.Pilot.@@N@@
open Jvm Jvm.ClassFile Sem Op Lib Jvm.Free Jvm.Stand Jvm.LawKit Jvm.RoadKit Bundle Jvm.Pilot.@@N@@.Jvm.D
/-- what is left of a walk: from the frame f of T the run comes to its end, where Qe holds -/
def own_Rest (p : Program) (e : Env) (below : List Frame) (Qe : Outcome → State → Prop) (T : State) (f : JFrame) : Prop :=
  ∃ s₂ o, Steps p.tables e below (T.setTop f) s₂ ∧ s₂.status = .running ∧ Ended s₂ below o ∧ Qe o s₂
abbrev own_S (p : Program) (e : Env) (below : List Frame) (T : State) (f : JFrame) (t : State) : Prop := Steps p.tables e below (T.setTop f) t
abbrev own_G (p : Program) (e : Env) (below : List Frame) (T : State) (f : JFrame) (T0 : State) (f0 : JFrame) : Prop := ∀ t, own_S p e below T f t → own_S p e below T0 f0 t
theorem own_by {p : Program} {e : Env} {below : List Frame} {Qe : Outcome → State → Prop} {T T' : State} {f f' : JFrame}
    (h : ∀ t, Steps p.tables e below (T'.setTop f') t → Steps p.tables e below (T.setTop f) t) (k : own_Rest p e below Qe T' f') : own_Rest p e below Qe T f := by
  obtain ⟨s₂, o, h1, h2⟩ := k
  exact ⟨s₂, o, h _ h1, h2⟩
theorem own_at {p : Program} {e : Env} {below : List Frame} {Qe : Outcome → State → Prop} {T : State} {f f' : JFrame}
    (h : ∀ {t}, Steps p.tables e below (T.setTop f') t → Steps p.tables e below (T.setTop f) t) (k : own_Rest p e below Qe T f') :
    ∃ s₂ o, Steps p.tables e below (T.setTop f) s₂ ∧ s₂.status = .running ∧ Ended s₂ below o ∧ Qe o s₂ := by
  obtain ⟨s₂, o, h1, h2⟩ := k
  exact ⟨s₂, o, h h1, h2⟩
theorem own_w {a0 : Array Value} {Z : State} (hw : ∀ d ∈ tables_1, d.before a0 Z = true) {d : Jvm.Cond} (i : Nat) (h : tables_1[i]? = some d) : d.before a0 Z = true := hw d (List.mem_of_getElem? h)
theorem own_cat1 {v : Value} (h : v.isRef = true) : v.category = 1 := by cases v <;> simp_all [Value.isRef, Value.category]
theorem own_catr (a : Addr) : (Value.ref a).category = 1 := rfl
theorem own_catn : Value.null.category = 1 := rfl
theorem own_c255 (x : Int32) : ¬ (x &&& (255 : Int32)).toUInt32.toUInt16.toUInt32.toInt32 < 0 ∧ ¬ (255 : Int32) < (x &&& (255 : Int32)).toUInt32.toUInt16.toUInt32.toInt32 := by
  have h1 := c_mask x 255 8 (by decide) (by decide)
  have h2 := c_i2c (x &&& (255 : Int32))
  simp only [Int32.lt_iff_toInt_lt, Int32.reduceToInt]
  omega
theorem own_narc {z : Int32} (h : ¬ z < 0 ∧ ¬ (255 : Int32) < z) : nar .char z = z := by
  have h2 := c_i2c z
  obtain ⟨h3, h4⟩ := h
  simp only [Int32.lt_iff_toInt_lt, Int32.reduceToInt] at h3 h4
  have e : (nar .char z).toInt = z.toInt := by
    show z.toUInt32.toUInt16.toUInt32.toInt32.toInt = z.toInt
    omega
  exact Int32.toInt_inj.mp e
theorem own_nrb {z : Int32} (h : z = 0 ∨ z = 1) : narrow .boolean (.int z) = .int z := by rcases h with rfl | rfl <;> rfl
theorem own_ftb {z : Int32} (h : z = 0 ∨ z = 1) : fits .boolean (.int z) = true := by rcases h with rfl | rfl <;> rfl
theorem own_eqi {t : Term} {n : Int32} {args : Array Value} {Z : State} (h : (Jvm.Cond.eq t (.int n)).value args Z none Z [] = some true) : t.eval args Z none [] Z = some (.int n) := by
  obtain ⟨x, y, h1, h2, h3, -⟩ := cmp_v (Or.inl h)
  have e : y = .int n := (Option.some.inj h2).symm
  subst e
  cases x <;> simp [Kin, Value.isRef] at h3
  rename_i z
  have : z = n := by simpa [Cond.value, h1, Term.eval] using h
  rw [h1, this]
theorem own_fld {t : Term} {n : Int32} {args : Array Value} {Z : State} {a : Addr} {C f d : String} (ev : t.eval args Z none [] Z = some (.ref a)) (h : (Jvm.Cond.eq (.field t C f d) (.int n)).value args Z none Z [] = some true) : Fld Z Z.heap a C f d (.int n) :=
  Fld.start ((fld_at ev).symm.trans (own_eqi h))
theorem own_nb {z : Int32} (h : z = 0 ∨ z = 1) : nar .boolean z = z := by rcases h with rfl | rfl <;> rfl
set_option maxRecDepth 65536
set_option maxHeartbeats 40000000
abbrev own_ARIUUUU (x0 : Addr) (x1 : Int32) : Array Slot := #[.val (.ref x0), .val (.int x1), .unset, .unset, .unset, .unset]
abbrev own_ARIIUUU (x0 : Addr) (x1 : Int32) (x2 : Int32) : Array Slot := #[.val (.ref x0), .val (.int x1), .val (.int x2), .unset, .unset, .unset]
abbrev own_ARIIIUU (x0 : Addr) (x1 : Int32) (x2 : Int32) (x3 : Int32) : Array Slot := #[.val (.ref x0), .val (.int x1), .val (.int x2), .val (.int x3), .unset, .unset]
abbrev own_ARIIIIU (x0 : Addr) (x1 : Int32) (x2 : Int32) (x3 : Int32) (x4 : Int32) : Array Slot := #[.val (.ref x0), .val (.int x1), .val (.int x2), .val (.int x3), .val (.int x4), .unset]
abbrev own_ARIIIII (x0 : Addr) (x1 : Int32) (x2 : Int32) (x3 : Int32) (x4 : Int32) (x5 : Int32) : Array Slot := #[.val (.ref x0), .val (.int x1), .val (.int x2), .val (.int x3), .val (.int x4), .val (.int x5)]
abbrev own_ARIRIIU (x0 : Addr) (x1 : Int32) (x2 : Addr) (x3 : Int32) (x4 : Int32) : Array Slot := #[.val (.ref x0), .val (.int x1), .val (.ref x2), .val (.int x3), .val (.int x4), .unset]
abbrev own_ARIRIII (x0 : Addr) (x1 : Int32) (x2 : Addr) (x3 : Int32) (x4 : Int32) (x5 : Int32) : Array Slot := #[.val (.ref x0), .val (.int x1), .val (.ref x2), .val (.int x3), .val (.int x4), .val (.int x5)]
abbrev own_ARIRII (x0 : Addr) (x1 : Int32) (x2 : Addr) (x3 : Int32) (x4 : Int32) : Array Slot := #[.val (.ref x0), .val (.int x1), .val (.ref x2), .val (.int x3), .val (.int x4)]
abbrev own_ARIIUU (x0 : Addr) (x1 : Int32) (x2 : Int32) : Array Slot := #[.val (.ref x0), .val (.int x1), .val (.int x2), .unset, .unset]
abbrev own_ARIIIU (x0 : Addr) (x1 : Int32) (x2 : Int32) (x3 : Int32) : Array Slot := #[.val (.ref x0), .val (.int x1), .val (.int x2), .val (.int x3), .unset]
abbrev own_ARIIIR (x0 : Addr) (x1 : Int32) (x2 : Int32) (x3 : Int32) (x4 : Addr) : Array Slot := #[.val (.ref x0), .val (.int x1), .val (.int x2), .val (.int x3), .val (.ref x4)]
abbrev own_ARRNUU (x0 : Addr) (x1 : Addr) : Array Slot := #[.val (.ref x0), .val (.ref x1), .val .null, .unset, .unset]
abbrev own_ARRNRU (x0 : Addr) (x1 : Addr) (x3 : Addr) : Array Slot := #[.val (.ref x0), .val (.ref x1), .val .null, .val (.ref x3), .unset]
abbrev own_ARRNRI (x0 : Addr) (x1 : Addr) (x3 : Addr) (x4 : Int32) : Array Slot := #[.val (.ref x0), .val (.ref x1), .val .null, .val (.ref x3), .val (.int x4)]
abbrev own_ARIRIIUU (x0 : Addr) (x1 : Int32) (x2 : Addr) (x3 : Int32) (x4 : Int32) : Array Slot := #[.val (.ref x0), .val (.int x1), .val (.ref x2), .val (.int x3), .val (.int x4), .unset, .unset]
abbrev own_ARIRIIIU (x0 : Addr) (x1 : Int32) (x2 : Addr) (x3 : Int32) (x4 : Int32) (x5 : Int32) : Array Slot := #[.val (.ref x0), .val (.int x1), .val (.ref x2), .val (.int x3), .val (.int x4), .val (.int x5), .unset]
abbrev own_ARIRIIIS (x0 : Addr) (x1 : Int32) (x2 : Addr) (x3 : Int32) (x4 : Int32) (x5 : Int32) (x6 : Slot) : Array Slot := #[.val (.ref x0), .val (.int x1), .val (.ref x2), .val (.int x3), .val (.int x4), .val (.int x5), x6]
abbrev own_ARIRIIII (x0 : Addr) (x1 : Int32) (x2 : Addr) (x3 : Int32) (x4 : Int32) (x5 : Int32) (x6 : Int32) : Array Slot := #[.val (.ref x0), .val (.int x1), .val (.ref x2), .val (.int x3), .val (.int x4), .val (.int x5), .val (.int x6)]
abbrev own_ARIIRU (x0 : Addr) (x1 : Int32) (x2 : Int32) (x3 : Addr) : Array Slot := #[.val (.ref x0), .val (.int x1), .val (.int x2), .val (.ref x3), .unset]
abbrev own_ARIIRI (x0 : Addr) (x1 : Int32) (x2 : Int32) (x3 : Addr) (x4 : Int32) : Array Slot := #[.val (.ref x0), .val (.int x1), .val (.int x2), .val (.ref x3), .val (.int x4)]
abbrev own_ARIIRUU (x0 : Addr) (x1 : Int32) (x2 : Int32) (x3 : Addr) : Array Slot := #[.val (.ref x0), .val (.int x1), .val (.int x2), .val (.ref x3), .unset, .unset]
abbrev own_ARIIRIU (x0 : Addr) (x1 : Int32) (x2 : Int32) (x3 : Addr) (x4 : Int32) : Array Slot := #[.val (.ref x0), .val (.int x1), .val (.int x2), .val (.ref x3), .val (.int x4), .unset]
abbrev own_ARIIRIR (x0 : Addr) (x1 : Int32) (x2 : Int32) (x3 : Addr) (x4 : Int32) (x5 : Addr) : Array Slot := #[.val (.ref x0), .val (.int x1), .val (.int x2), .val (.ref x3), .val (.int x4), .val (.ref x5)]
abbrev own_ARRIINU (x0 : Addr) (x1 : Addr) (x2 : Int32) (x3 : Int32) : Array Slot := #[.val (.ref x0), .val (.ref x1), .val (.int x2), .val (.int x3), .val .null, .unset]
abbrev own_ARRIINR (x0 : Addr) (x1 : Addr) (x2 : Int32) (x3 : Int32) (x5 : Addr) : Array Slot := #[.val (.ref x0), .val (.ref x1), .val (.int x2), .val (.int x3), .val .null, .val (.ref x5)]
abbrev own_ARRIS (x0 : Addr) (x1 : Addr) (x2 : Int32) (x3 : Slot) : Array Slot := #[.val (.ref x0), .val (.ref x1), .val (.int x2), x3]
abbrev own_AIIIIUUUUUUUUU (x0 : Int32) (x1 : Int32) (x2 : Int32) (x3 : Int32) : Array Slot := #[.val (.int x0), .val (.int x1), .val (.int x2), .val (.int x3), .unset, .unset, .unset, .unset, .unset, .unset, .unset, .unset, .unset]
abbrev own_AIIIIIUUUUUUUU (x0 : Int32) (x1 : Int32) (x2 : Int32) (x3 : Int32) (x4 : Int32) : Array Slot := #[.val (.int x0), .val (.int x1), .val (.int x2), .val (.int x3), .val (.int x4), .unset, .unset, .unset, .unset, .unset, .unset, .unset, .unset]
abbrev own_AIIIIIIUUUUUUU (x0 : Int32) (x1 : Int32) (x2 : Int32) (x3 : Int32) (x4 : Int32) (x5 : Int32) : Array Slot := #[.val (.int x0), .val (.int x1), .val (.int x2), .val (.int x3), .val (.int x4), .val (.int x5), .unset, .unset, .unset, .unset, .unset, .unset, .unset]
abbrev own_AIIIIIIIUUUUUU (x0 : Int32) (x1 : Int32) (x2 : Int32) (x3 : Int32) (x4 : Int32) (x5 : Int32) (x6 : Int32) : Array Slot := #[.val (.int x0), .val (.int x1), .val (.int x2), .val (.int x3), .val (.int x4), .val (.int x5), .val (.int x6), .unset, .unset, .unset, .unset, .unset, .unset]
abbrev own_AIIIIIIIIUUUUU (x0 : Int32) (x1 : Int32) (x2 : Int32) (x3 : Int32) (x4 : Int32) (x5 : Int32) (x6 : Int32) (x7 : Int32) : Array Slot := #[.val (.int x0), .val (.int x1), .val (.int x2), .val (.int x3), .val (.int x4), .val (.int x5), .val (.int x6), .val (.int x7), .unset, .unset, .unset, .unset, .unset]
abbrev own_AIIIIIIIIRUUUU (x0 : Int32) (x1 : Int32) (x2 : Int32) (x3 : Int32) (x4 : Int32) (x5 : Int32) (x6 : Int32) (x7 : Int32) (x8 : Addr) : Array Slot := #[.val (.int x0), .val (.int x1), .val (.int x2), .val (.int x3), .val (.int x4), .val (.int x5), .val (.int x6), .val (.int x7), .val (.ref x8), .unset, .unset, .unset, .unset]
abbrev own_AIIIIIIIIRRUUU (x0 : Int32) (x1 : Int32) (x2 : Int32) (x3 : Int32) (x4 : Int32) (x5 : Int32) (x6 : Int32) (x7 : Int32) (x8 : Addr) (x9 : Addr) : Array Slot := #[.val (.int x0), .val (.int x1), .val (.int x2), .val (.int x3), .val (.int x4), .val (.int x5), .val (.int x6), .val (.int x7), .val (.ref x8), .val (.ref x9), .unset, .unset, .unset]
abbrev own_AIIIIIIIIRRIUU (x0 : Int32) (x1 : Int32) (x2 : Int32) (x3 : Int32) (x4 : Int32) (x5 : Int32) (x6 : Int32) (x7 : Int32) (x8 : Addr) (x9 : Addr) (x10 : Int32) : Array Slot := #[.val (.int x0), .val (.int x1), .val (.int x2), .val (.int x3), .val (.int x4), .val (.int x5), .val (.int x6), .val (.int x7), .val (.ref x8), .val (.ref x9), .val (.int x10), .unset, .unset]
abbrev own_AIIIIIIIIRRIIU (x0 : Int32) (x1 : Int32) (x2 : Int32) (x3 : Int32) (x4 : Int32) (x5 : Int32) (x6 : Int32) (x7 : Int32) (x8 : Addr) (x9 : Addr) (x10 : Int32) (x11 : Int32) : Array Slot := #[.val (.int x0), .val (.int x1), .val (.int x2), .val (.int x3), .val (.int x4), .val (.int x5), .val (.int x6), .val (.int x7), .val (.ref x8), .val (.ref x9), .val (.int x10), .val (.int x11), .unset]
abbrev own_AIIIIIIIIRRIII (x0 : Int32) (x1 : Int32) (x2 : Int32) (x3 : Int32) (x4 : Int32) (x5 : Int32) (x6 : Int32) (x7 : Int32) (x8 : Addr) (x9 : Addr) (x10 : Int32) (x11 : Int32) (x12 : Int32) : Array Slot := #[.val (.int x0), .val (.int x1), .val (.int x2), .val (.int x3), .val (.int x4), .val (.int x5), .val (.int x6), .val (.int x7), .val (.ref x8), .val (.ref x9), .val (.int x10), .val (.int x11), .val (.int x12)]
abbrev own_n0 : MethodName := (⟨"java/lang/Math", "max", "(II)I"⟩ : MethodName)
abbrev own_n1 : MethodName := (⟨"jdk/internal/util/ArraysSupport", "newLength", "(III)I"⟩ : MethodName)
abbrev own_n2 : MethodName := (⟨"java/lang/Math", "min", "(II)I"⟩ : MethodName)
abbrev own_n3 : MethodName := (⟨"java/lang/AbstractStringBuilder", "newCapacity", "(I)I"⟩ : MethodName)
abbrev own_n4 : MethodName := (⟨"java/lang/AbstractStringBuilder", "ensureCapacityInternal", "(I)V"⟩ : MethodName)
abbrev own_n5 : MethodName := (⟨"java/util/Arrays", "copyOf", "([BI)[B"⟩ : MethodName)
abbrev own_n6 : MethodName := (⟨"java/lang/StringUTF16", "newBytesLength", "(I)I"⟩ : MethodName)
abbrev own_n7 : MethodName := (⟨"jdk/internal/util/Preconditions", "checkIndex", "(IILjava/util/function/BiFunction;)I"⟩ : MethodName)
abbrev own_n8 : MethodName := (⟨"java/lang/StringUTF16", "length", "([B)I"⟩ : MethodName)
abbrev own_n9 : MethodName := (⟨"java/lang/String", "checkIndex", "(II)V"⟩ : MethodName)
abbrev own_n10 : MethodName := (⟨"java/lang/StringUTF16", "checkIndex", "(I[B)V"⟩ : MethodName)
abbrev own_n11 : MethodName := (⟨"java/lang/StringUTF16", "putChar", "([BII)V"⟩ : MethodName)
abbrev own_n12 : MethodName := (⟨"jdk/internal/util/Preconditions", "checkFromIndexSize", "(IIILjava/util/function/BiFunction;)I"⟩ : MethodName)
abbrev own_n13 : MethodName := (⟨"java/lang/String", "checkBoundsOffCount", "(III)I"⟩ : MethodName)
abbrev own_n14 : MethodName := (⟨"java/lang/StringUTF16", "checkBoundsOffCount", "(II[B)V"⟩ : MethodName)
abbrev own_n15 : MethodName := (⟨"java/lang/StringUTF16", "inflate", "([BI[BII)V"⟩ : MethodName)
abbrev own_n16 : MethodName := (⟨"java/lang/AbstractStringBuilder", "isLatin1", "()Z"⟩ : MethodName)
abbrev own_n17 : MethodName := (⟨"java/lang/StringUTF16", "newBytesFor", "(I)[B"⟩ : MethodName)
abbrev own_n18 : MethodName := (⟨"java/lang/StringLatin1", "inflate", "([BI[BII)V"⟩ : MethodName)
abbrev own_n19 : MethodName := (⟨"java/lang/StringLatin1", "canEncode", "(C)Z"⟩ : MethodName)
abbrev own_n20 : MethodName := (⟨"java/lang/AbstractStringBuilder", "inflate", "()V"⟩ : MethodName)
abbrev own_n21 : MethodName := (⟨"java/lang/StringUTF16", "putCharSB", "([BII)V"⟩ : MethodName)
abbrev own_n22 : MethodName := (⟨"java/lang/AbstractStringBuilder", "append", "(C)Ljava/lang/AbstractStringBuilder;"⟩ : MethodName)
abbrev own_n23 : MethodName := (⟨"java/lang/String", "coder", "()B"⟩ : MethodName)
abbrev own_n24 : MethodName := (⟨"java/lang/StringUTF16", "getChar", "([BI)C"⟩ : MethodName)
abbrev own_n25 : MethodName := (⟨"java/lang/String", "isLatin1", "()Z"⟩ : MethodName)
abbrev own_n26 : MethodName := (⟨"java/lang/StringLatin1", "charAt", "([BI)C"⟩ : MethodName)
abbrev own_n27 : MethodName := (⟨"java/lang/StringUTF16", "charAt", "([BI)C"⟩ : MethodName)
abbrev own_n28 : MethodName := (⟨"java/lang/AbstractStringBuilder", "inflateIfNeededFor", "(Ljava/lang/String;)V"⟩ : MethodName)
abbrev own_n29 : MethodName := (⟨"java/lang/String", "getBytes", "([BIB)V"⟩ : MethodName)
abbrev own_n30 : MethodName := (⟨"java/lang/String", "length", "()I"⟩ : MethodName)
abbrev own_n31 : MethodName := (⟨"java/lang/AbstractStringBuilder", "putStringAt", "(ILjava/lang/String;)V"⟩ : MethodName)
abbrev own_n32 : MethodName := (⟨"java/lang/AbstractStringBuilder", "append", "(Ljava/lang/String;)Ljava/lang/AbstractStringBuilder;"⟩ : MethodName)
abbrev own_n33 : MethodName := (⟨"java/util/Arrays", "checkLength", "(II)V"⟩ : MethodName)
abbrev own_n34 : MethodName := (⟨"java/util/Arrays", "copyOfRangeByte", "([BII)[B"⟩ : MethodName)
abbrev own_n35 : MethodName := (⟨"java/lang/AbstractStringBuilder", "length", "()I"⟩ : MethodName)
abbrev own_n36 : MethodName := (⟨"java/lang/AbstractStringBuilder", "getValue", "()[B"⟩ : MethodName)
abbrev own_n37 : MethodName := (⟨"java/lang/StringBuilder", "length", "()I"⟩ : MethodName)
abbrev own_n38 : MethodName := (⟨"java/util/Arrays", "copyOfRange", "([BII)[B"⟩ : MethodName)
abbrev own_n39 : MethodName := (⟨"java/lang/String", "<init>", "(Ljava/lang/AbstractStringBuilder;Ljava/lang/Void;)V"⟩ : MethodName)
abbrev own_n40 : MethodName := (⟨"java/lang/String", "<init>", "(Ljava/lang/StringBuilder;)V"⟩ : MethodName)
abbrev own_n41 : MethodName := (⟨"java/lang/AbstractStringBuilder", "<init>", "(I)V"⟩ : MethodName)
abbrev own_n42 : MethodName := (⟨"java/lang/StringUTF16", "compress", "([CI[BII)I"⟩ : MethodName)
abbrev own_n43 : MethodName := (⟨"java/lang/StringUTF16", "toBytes", "([CII)[B"⟩ : MethodName)
abbrev own_n44 : MethodName := (⟨"java/lang/StringUTF16", "compress", "([CII)[B"⟩ : MethodName)
abbrev own_n45 : MethodName := (⟨"java/lang/StringUTF16", "coderFromArrayLen", "([BI)B"⟩ : MethodName)
abbrev own_n46 : MethodName := (⟨"java/lang/String", "<init>", "([CIILjava/lang/Void;)V"⟩ : MethodName)
abbrev own_n47 : MethodName := (⟨"java/lang/String", "charAt", "(I)C"⟩ : MethodName)
abbrev own_n48 : MethodName := (⟨"com/example/catchment/catchment/JsonStringPinLaw", "hex", "(I)C"⟩ : MethodName)
abbrev own_n49 : MethodName := (⟨"java/lang/StringBuilder", "<init>", "(I)V"⟩ : MethodName)
abbrev own_n50 : MethodName := (⟨"java/lang/StringBuilder", "append", "(C)Ljava/lang/StringBuilder;"⟩ : MethodName)
abbrev own_n51 : MethodName := (⟨"java/lang/StringBuilder", "append", "(Ljava/lang/String;)Ljava/lang/StringBuilder;"⟩ : MethodName)
abbrev own_n52 : MethodName := (⟨"java/lang/StringBuilder", "toString", "()Ljava/lang/String;"⟩ : MethodName)
abbrev own_n53 : MethodName := (⟨"java/lang/String", "<init>", "([C)V"⟩ : MethodName)
abbrev own_n54 : MethodName := (⟨"com/example/catchment/catchment/Json", "string", "(Ljava/lang/String;)Ljava/lang/String;"⟩ : MethodName)
abbrev own_n55 : MethodName := (⟨"com/example/catchment/catchment/JsonStringPinLaw", "enc", "(C)I"⟩ : MethodName)
abbrev own_n56 : MethodName := (⟨"com/example/catchment/catchment/JsonStringPinLaw", "at", "(Ljava/lang/String;IC)Z"⟩ : MethodName)
def own_one (x : Slot) : Prop := x ≠ .second ∧ ∀ old, x = .val old → old.category ≠ 2
theorem own_one0 : own_one .unset := ⟨(fun q => nomatch q), (fun _ q => nomatch q)⟩
theorem own_one1 {v : Value} (h : v.category = 1) : own_one (.val v) := ⟨(fun q => nomatch q), fun old q => by cases q; rw [h]; decide⟩
theorem own_sto {l l' : Array Slot} {i : Nat} {x : Slot} {v : Value} (hx : l[i]? = some x) (o : own_one x) (hc : v.category = 1) (hl : l.setIfInBounds i (.val v) = l') : storeLocals l i v = some l' := by
  have hi : i < l.size := (Array.getElem?_eq_some_iff.mp hx).1
  have hs : storeSelf l i v = some l' := by simp [storeSelf, setAt, hi, hc, hl]
  cases x with
  | second => exact absurd rfl o.1
  | unset => simp [storeLocals, hx, hs]
  | val old => simp [storeLocals, hx, hs, o.2 old rfl]
theorem own_nadd {a b : Int32} {m n : Nat} (h1 : a = Int32.ofNat m) (h2 : b = Int32.ofNat n) : a + b = Int32.ofNat (m + n) := by rw [h1, h2, Int32.ofNat_add]
theorem own_nsub {a b : Int32} {m n : Nat} (h1 : a = Int32.ofNat m) (h2 : b = Int32.ofNat n) (h : n ≤ m) : a - b = Int32.ofNat (m - n) := by
  have e : Int32.ofNat m = Int32.ofNat (m - n) + Int32.ofNat n := by rw [← Int32.ofNat_add, Nat.sub_add_cancel h]
  rw [h1, h2, e]; exact Int32.add_sub_cancel _ _
theorem own_nlt {a b : Int32} {m n : Nat} (h1 : a = Int32.ofNat m) (h2 : b = Int32.ofNat n) (hm : m < 2147483648) (hn : n < 2147483648) : a < b ↔ m < n := by
  subst h1; subst h2
  rw [Int32.lt_iff_toInt_lt, Int32.toInt_ofNat_small hm, Int32.toInt_ofNat_small hn]; omega
theorem own_neq {a b : Int32} {m n : Nat} (h1 : a = Int32.ofNat m) (h2 : b = Int32.ofNat n) (hm : m < 2147483648) (hn : n < 2147483648) : a = b ↔ m = n := by
  subst h1; subst h2
  refine ⟨fun h => ?_, fun h => by rw [h]⟩
  have := congrArg Int32.toInt h
  rw [Int32.toInt_ofNat_small hm, Int32.toInt_ofNat_small hn] at this; omega
theorem own_nshr0 (c : Int32) : c >>> ((0 : Int32) &&& 31) = c := by
  have e : ((0 : Int32) &&& 31) = 0 := by decide
  rw [e]
  apply Int32.toBitVec_inj.mp
  rw [Int32.toBitVec_shiftRight]
  have e1 : ((0 : Int32).toBitVec.smod 32) = 0#32 := by decide
  rw [e1, BitVec.sshiftRight_eq']
  exact BitVec.sshiftRight_zero
theorem own_nshl0 (c : Int32) : c <<< ((0 : Int32) &&& 31) = c := by
  have e : ((0 : Int32) &&& 31) = 0 := by decide
  rw [e]
  apply Int32.toBitVec_inj.mp
  rw [Int32.toBitVec_shiftLeft]
  have e1 : ((0 : Int32).toBitVec.smod 32) = 0#32 := by decide
  rw [e1, BitVec.shiftLeft_eq']
  exact BitVec.shiftLeft_zero _
theorem own_nshl1 {a : Int32} {m : Nat} (h : a = Int32.ofNat m) : a <<< ((1 : Int32) &&& 31) = Int32.ofNat (2 * m) := by
  subst h
  have e : ((1 : Int32) &&& 31) = 1 := by decide
  rw [e]
  apply Int32.toBitVec_inj.mp
  rw [Int32.toBitVec_shiftLeft]
  have e1 : ((1 : Int32).toBitVec.smod 32) = 1#32 := by decide
  rw [e1, BitVec.shiftLeft_eq']
  apply BitVec.eq_of_toNat_eq
  show ((BitVec.ofNat 32 m) <<< 1).toNat = (BitVec.ofNat 32 (2 * m)).toNat
  rw [BitVec.toNat_shiftLeft, BitVec.toNat_ofNat, BitVec.toNat_ofNat, Nat.shiftLeft_eq]
  omega
theorem own_nshr1 {a : Int32} {m : Nat} (h : a = Int32.ofNat m) (q : m < 2147483648) : a >>> ((1 : Int32) &&& 31) = Int32.ofNat (m / 2) := by
  subst h
  have e : ((1 : Int32) &&& 31) = 1 := by decide
  rw [e]
  apply Int32.toBitVec_inj.mp
  rw [Int32.toBitVec_shiftRight]
  have e1 : ((1 : Int32).toBitVec.smod 32) = 1#32 := by decide
  have hm : (BitVec.ofNat 32 m).toNat = m := by rw [BitVec.toNat_ofNat, Nat.mod_eq_of_lt (by omega)]
  rw [e1, BitVec.sshiftRight_eq']
  apply BitVec.eq_of_toNat_eq
  show ((BitVec.ofNat 32 m).sshiftRight 1).toNat = (BitVec.ofNat 32 (m / 2)).toNat
  rw [BitVec.toNat_sshiftRight_of_msb_false (by rw [BitVec.msb_eq_false_iff_two_mul_lt, hm]; omega), hm, BitVec.toNat_ofNat, Nat.shiftRight_eq_div_pow]
  omega
theorem own_nor {a b : Int32} {m n : Nat} (h1 : a = Int32.ofNat m) (h2 : b = Int32.ofNat n) : a ||| b = Int32.ofNat (m ||| n) := by
  subst h1; subst h2
  apply Int32.toBitVec_inj.mp
  rw [Int32.toBitVec_or]
  apply BitVec.eq_of_toNat_eq
  show (BitVec.ofNat 32 m ||| BitVec.ofNat 32 n).toNat = (BitVec.ofNat 32 (m ||| n)).toNat
  rw [BitVec.toNat_or, BitVec.toNat_ofNat, BitVec.toNat_ofNat, BitVec.toNat_ofNat]
  exact (Nat.or_mod_two_pow).symm
theorem own_ntc {a : Int32} {m : Nat} (h : a = Int32.ofNat m) (q : m < 2147483648) : a.toNatClampNeg = m := by
  subst h; simp only [Int32.toNatClampNeg, Int32.toInt_ofNat_small q]; omega
theorem own_nge {a : Int32} {m : Nat} (h : a = Int32.ofNat m) (q : m < 2147483648) : ¬ a < 0 := by
  subst h; rw [Int32.lt_iff_toInt_lt, Int32.toInt_ofNat_small q]; simp only [Int32.reduceToInt]; omega
def own_hx (d : Int32) : Int32 := if d < 10 then d + 48 else d + 87
def own_esc (c : Int32) : List Int32 := if c = 34 then [92, c] else if c = 92 then [92, c] else if c < 32 then [92, 117, 48, 48, own_hx (c >>> ((4 : Int32) &&& 31)), own_hx (c &&& (15 : Int32))] else [c]
theorem own_ctl {c : Int32} (h0 : ¬ c < 0) (h1 : c < 32) : ∃ k : Fin 32, c = Int32.ofNat k.val := by
  rw [Int32.lt_iff_toInt_lt] at h0 h1
  have e0 : (0 : Int32).toInt = 0 := rfl
  have e1 : (32 : Int32).toInt = 32 := rfl
  exact ⟨⟨c.toInt.toNat, by omega⟩, Int32.toInt_inj.mp (by rw [Int32.toInt_ofNat_small (by show c.toInt.toNat < _; omega)]; show c.toInt = (c.toInt.toNat : Int); omega)⟩
def own_hexj (d : Int32) : Int32 := if d < 10 then ((48 : Int32) + d).toUInt32.toUInt16.toUInt32.toInt32 else (((97 : Int32) + d) - (10 : Int32)).toUInt32.toUInt16.toUInt32.toInt32
theorem own_hx1 : ∀ k : Fin 32, own_hexj (Int32.ofNat k.val / 16) = own_hx ((Int32.ofNat k.val) >>> ((4 : Int32) &&& 31)) := by decide +kernel
theorem own_hx2 : ∀ k : Fin 32, own_hexj (Int32.ofNat k.val % 16) = own_hx ((Int32.ofNat k.val) &&& (15 : Int32)) := by decide +kernel
def own_lo (c : Int32) : Int32 := (c >>> ((0 : Int32) &&& 31)).toInt8.toInt32
def own_hi (c : Int32) : Int32 := (c >>> ((8 : Int32) &&& 31)).toInt8.toInt32
def own_c0 (cs : List Int32) : List Value := cs.map (fun c => .int c.toInt8.toInt32)
def own_c1 (cs : List Int32) : List Value := cs.flatMap (fun c => [.int (own_lo c), .int (own_hi c)])
def own_cod (cd : Int32) (cs : List Int32) : List Value := if cd = 0 then own_c0 cs else own_c1 cs
theorem own_cod0 (cs : List Int32) : own_cod 0 cs = own_c0 cs := rfl
theorem own_cod1 (cs : List Int32) : own_cod 1 cs = own_c1 cs := rfl
theorem own_c0_len (cs : List Int32) : (own_c0 cs).length = cs.length := by simp [own_c0]
theorem own_c1_len (cs : List Int32) : (own_c1 cs).length = 2 * cs.length := by
  induction cs with
  | nil => rfl
  | cons c cs ih => simp [own_c1, List.flatMap_cons] at ih ⊢; omega
theorem own_c0_app (cs ds : List Int32) : own_c0 (cs ++ ds) = own_c0 cs ++ own_c0 ds := by simp [own_c0]
theorem own_c1_app (cs ds : List Int32) : own_c1 (cs ++ ds) = own_c1 cs ++ own_c1 ds := by simp [own_c1]
theorem own_c1_snoc (cs : List Int32) (c : Int32) : own_c1 (cs ++ [c]) = own_c1 cs ++ [.int (own_lo c), .int (own_hi c)] := by simp [own_c1]
theorem own_c0_snoc (cs : List Int32) (c : Int32) : own_c0 (cs ++ [c]) = own_c0 cs ++ [.int c.toInt8.toInt32] := by simp [own_c0]
theorem own_c0_at {cs : List Int32} {i : Nat} {c : Int32} (h : cs[i]? = some c) (d : Value) : (own_c0 cs).getD i d = .int c.toInt8.toInt32 := by simp [own_c0, h]
theorem own_c1_at : ∀ {cs : List Int32} {i : Nat} {c : Int32} (_ : cs[i]? = some c) (d : Value), (own_c1 cs).getD (2 * i) d = .int (own_lo c) ∧ (own_c1 cs).getD (2 * i + 1) d = .int (own_hi c)
  | [], _, _, h, _ => by simp at h
  | x :: cs, 0, c, h, d => by simp at h; subst h; simp [own_c1]
  | x :: cs, i + 1, c, h, d => by
    have ih := own_c1_at (cs := cs) (i := i) (c := c) (by simpa using h) d
    have e : own_c1 (x :: cs) = [.int (own_lo x), .int (own_hi x)] ++ own_c1 cs := by simp [own_c1]
    rw [e]
    constructor
    · rw [show 2 * (i + 1) = 2 * i + 2 from by omega]; simpa using ih.1
    · rw [show 2 * (i + 1) + 1 = (2 * i + 1) + 2 from by omega]; simpa using ih.2
/-- a list, longer by defaults -/
theorem own_padr (vs : List Value) (d : Value) (n : Nat) : ∀ i, (vs ++ List.replicate n d).getD i d = vs.getD i d := fun i => by
  simp only [List.getD_eq_getElem?_getD]
  by_cases q : i < vs.length
  · rw [List.getElem?_append_left q]
  · rw [List.getElem?_append_right (Nat.le_of_not_lt q), List.getElem?_eq_none (Nat.le_of_not_lt q), List.getElem?_replicate]; split <;> rfl
theorem own_padr' (vs : List Value) (d : Value) (n : Nat) : ∀ i, vs.getD i d = (vs ++ List.replicate n d).getD i d := fun i => (own_padr vs d n i).symm
/-- a whole copy into a longer array of defaults -/
theorem own_cpy (vs : List Value) (d : Value) (N M : Nat) (h : vs.length ≤ N) (q : N ≤ M) : ∀ i, vs.getD i d = ((List.replicate M d).take 0 ++ ((List.range N).map fun i => vs.getD (0 + i) d) ++ (List.replicate M d).drop (0 + N)).getD i d := fun i => by
  simp only [List.take_zero, List.nil_append, Nat.zero_add, List.drop_replicate]
  rw [own_padr]
  simp only [List.getD_eq_getElem?_getD]
  by_cases r : i < N
  · rw [List.getElem?_map, List.getElem?_range r]; simp
  · rw [List.getElem?_eq_none (l := vs) (by omega), List.getElem?_eq_none (by rw [List.length_map, List.length_range]; omega)]
theorem own_rng (vs : List Value) (d : Value) : vs = (List.range vs.length).map fun i => vs.getD (0 + i) d := by
  apply List.ext_getElem?
  intro i
  by_cases r : i < vs.length
  · rw [List.getElem?_map, List.getElem?_range r]; simp [List.getD_eq_getElem?_getD, List.getElem?_eq_getElem r]
  · rw [List.getElem?_eq_none (by omega), List.getElem?_eq_none (by simp; omega)]
/-- a copy to the end -/
theorem own_cpe (vs us : List Value) (d : Value) : (vs ++ List.replicate us.length d).take vs.length ++ us ++ (vs ++ List.replicate us.length d).drop (vs.length + us.length) = vs ++ us := by
  rw [List.take_left, List.drop_eq_nil_of_le (by simp)]; simp
/-- a prefix -/
theorem own_pre (vs : List Value) (d : Value) (n : Nat) (h : vs.length = n) : (List.replicate n d).take 0 ++ vs ++ (List.replicate n d).drop (0 + n) = vs := by
  simp
theorem own_set2 (vs : List Value) (a b d : Value) (i : Nat) (h : vs.length = 2 * i) : ((vs ++ List.replicate 2 d).set (2 * i) a).set (2 * i + 1) b = vs ++ [a, b] := by
  rw [← h]
  simp [List.set_append, List.replicate]
theorem own_set1 (vs : List Value) (a d : Value) (i : Nat) (h : vs.length = i) : (vs ++ List.replicate 1 d).set i a = vs ++ [a] := by
  rw [← h]
  simp [List.set_append, List.replicate]
/-- what stands in an Int32's 32 places, as a natural -/
theorem own_bv {a b : Int32} (h : a.toBitVec.toNat = b.toBitVec.toNat) : a = b := Int32.toBitVec_inj.mp (BitVec.eq_of_toNat_eq h)
theorem own_b255 (x : Int32) : (x.toInt8.toInt32 &&& (255 : Int32)).toBitVec.toNat = x.toBitVec.toNat % 256 := by
  have hx := x.toBitVec.isLt
  have e : (x.toInt8.toInt32).toBitVec = (x.toBitVec.signExtend 8).signExtend 32 := by rw [Int8.toBitVec_toInt32, Int32.toBitVec_toInt8]
  rw [Int32.toBitVec_and, e, BitVec.toNat_and]
  have q : ((x.toBitVec.signExtend 8).signExtend 32).toNat % 256 = x.toBitVec.toNat % 256 := by
    simp only [BitVec.toNat_signExtend, BitVec.toNat_setWidth]
    split <;> split <;> omega
  exact (Nat.and_two_pow_sub_one_eq_mod _ 8).trans q
theorem own_nn {c : Int32} (h : ¬ c < 0 ∧ ¬ (65535 : Int32) < c) : c.toBitVec.toNat < 65536 := by
  obtain ⟨h0, h1⟩ := h
  rw [Int32.lt_iff_toInt_lt] at h0 h1
  have e0 : (0 : Int32).toInt = 0 := rfl
  have e1 : (65535 : Int32).toInt = 65535 := rfl
  have e : c.toInt = c.toBitVec.toInt := rfl
  have l := c.toBitVec.isLt
  rw [e, BitVec.toInt_eq_toNat_cond] at h0 h1
  split at h0 <;> simp_all <;> omega
theorem own_shr8 {c : Int32} (h : ¬ c < 0 ∧ ¬ (65535 : Int32) < c) : (c >>> ((8 : Int32) &&& 31)).toBitVec.toNat = c.toBitVec.toNat / 256 := by
  have l := own_nn h
  rw [show ((8 : Int32) &&& 31) = 8 from by decide, Int32.toBitVec_shiftRight, show ((8 : Int32).toBitVec.smod 32) = 8#32 from by decide, BitVec.sshiftRight_eq', BitVec.toNat_sshiftRight_of_msb_false (by rw [BitVec.msb_eq_false_iff_two_mul_lt]; omega)]
  show c.toBitVec.toNat >>> 8 = _
  rw [Nat.shiftRight_eq_div_pow]
theorem own_i2cn (x : Int32) : (x.toUInt32.toUInt16.toUInt32.toInt32).toBitVec.toNat = x.toBitVec.toNat % 65536 := by
  have l := x.toBitVec.isLt
  show (((x.toBitVec.setWidth 16).setWidth 32)).toNat = _
  rw [BitVec.toNat_setWidth, BitVec.toNat_setWidth]; omega
theorem own_pair {c : Int32} (h : ¬ c < 0 ∧ ¬ (65535 : Int32) < c) : (((own_lo c &&& (255 : Int32)) <<< ((0 : Int32) &&& 31)) ||| ((own_hi c &&& (255 : Int32)) <<< ((8 : Int32) &&& 31))).toUInt32.toUInt16.toUInt32.toInt32 = c := by
  have l := own_nn h
  apply own_bv
  rw [own_i2cn, own_nshl0]
  have a1 : (own_lo c &&& (255 : Int32)).toBitVec.toNat = c.toBitVec.toNat % 256 := by rw [own_lo, own_b255, own_nshr0]
  have a2 : (own_hi c &&& (255 : Int32)).toBitVec.toNat = c.toBitVec.toNat / 256 := by rw [own_hi, own_b255, own_shr8 h]; omega
  have a3 : ((own_hi c &&& (255 : Int32)) <<< ((8 : Int32) &&& 31)).toBitVec.toNat = c.toBitVec.toNat / 256 * 256 := by
    rw [show ((8 : Int32) &&& 31) = 8 from by decide, Int32.toBitVec_shiftLeft, show ((8 : Int32).toBitVec.smod 32) = 8#32 from by decide, BitVec.shiftLeft_eq', BitVec.toNat_shiftLeft, a2, Nat.shiftLeft_eq]
    show c.toBitVec.toNat / 256 * 2 ^ 8 % 2 ^ 32 = _
    omega
  rw [Int32.toBitVec_or, BitVec.toNat_or, a1, a3, Nat.or_comm]
  have q := Nat.shiftLeft_add_eq_or_of_lt (b := c.toBitVec.toNat % 256) (i := 8) (by omega) (c.toBitVec.toNat / 256)
  rw [Nat.shiftLeft_eq] at q
  rw [show c.toBitVec.toNat / 256 * 256 ||| c.toBitVec.toNat % 256 = c.toBitVec.toNat / 256 * 2 ^ 8 ||| c.toBitVec.toNat % 256 from rfl, ← q]
  omega
theorem own_nar16 {c : Int32} (h : ¬ c < 0 ∧ ¬ (65535 : Int32) < c) : c.toUInt32.toUInt16.toUInt32.toInt32 = c := by
  have l := own_nn h; apply own_bv; rw [own_i2cn]; omega
theorem own_selp {s : State} {args : Array Value} {K : String} {y z : MethodName} (hp : s.PrivateAt y) (hi : (Jvm.Cond.instanceMethod y).before args s = true) (hs : (Jvm.Cond.selects K z z).before args s = true) (hz : z.cls = y.cls) (hy : y.cls ≠ "java/lang/invoke/MethodHandle" ∧ y.cls ≠ "java/lang/invoke/VarHandle") : (Jvm.Cond.selects y.cls y y).before args s = true := by
  obtain ⟨c, r, m, q1, q2, q3, q4, mk, q5, q6⟩ := Cond.selects_spec hs
  exact selects_self_of_private (hz ▸ findClass_of_methodNamed q3) q5 q6 hp hi hy
theorem own_sameM {s : State} {args : Array Value} {K : String} {y z : MethodName} (hi : (Jvm.Cond.instanceMethod y).before args s = true) (hs : (Jvm.Cond.selects K z z).before args s = true) (hz : z.cls = y.cls) (hy : y.cls ≠ "java/lang/invoke/MethodHandle" ∧ y.cls ≠ "java/lang/invoke/VarHandle") : (Jvm.Cond.sameMethod y.cls y.cls y.name y.desc).before args s = true := by
  obtain ⟨m, meth, hn, -⟩ := Cond.instanceMethod_spec hi
  obtain ⟨c, r, m2, q1, q2, q3, q4, mk, q5, q6⟩ := Cond.selects_spec hs
  have f1 := State.methodFound?_of_named hn hy
  have f2 : s.vm.findClass y.cls = some m2.cls := hz ▸ findClass_of_methodNamed q3
  have hn2 : s.methodNamed? ⟨y.cls, y.name, y.desc⟩ = some m := hn
  simp [Cond.before, Cond.holds, Cond.value, f1, f2, hn2, q5, q6]
def own_B (Z : State) (h : Heap) (b vb : Addr) (kb : ClassId) (N : Nat) (cd : Int32) (cs : List Int32) : Prop := Exa Z h b "java/lang/StringBuilder" ∧ Fld Z h b "java/lang/AbstractStringBuilder" "value" "[B" (.ref vb) ∧ Fld Z h b "java/lang/AbstractStringBuilder" "coder" "B" (.int cd) ∧ Fld Z h b "java/lang/AbstractStringBuilder" "maybeLatin1" "Z" (.int (0 : Int32)) ∧ Fld Z h b "java/lang/AbstractStringBuilder" "count" "I" (.int (Int32.ofNat cs.length)) ∧ Exa Z h vb "[B" ∧ Arv Z h vb kb .byte (Int32.ofNat (N)) (own_cod cd cs) (.int (0 : Int32))
theorem own_npos {a b : Int32} {m n : Nat} (h1 : a = Int32.ofNat m) (h2 : b = Int32.ofNat n) (hm : m < 1000) (hn : n < 1000) (h : (0 : Int32) < a - b) : n < m := by
  refine Classical.byContradiction fun q => ?_
  subst h1; subst h2
  have e := own_nsub (a := Int32.ofNat n) (b := Int32.ofNat m) rfl rfl (by omega)
  have e2 : Int32.ofNat m - Int32.ofNat n = - Int32.ofNat (n - m) := by rw [← e, Int32.neg_sub]
  rw [e2, Int32.lt_iff_toInt_lt, Int32.toInt_neg, Int32.toInt_ofNat_small (by omega), Int.bmod_eq_of_le (by omega) (by omega)] at h
  have e0 : (0 : Int32).toInt = 0 := rfl
  omega
theorem own_nnpos {a b : Int32} {m n : Nat} (h1 : a = Int32.ofNat m) (h2 : b = Int32.ofNat n) (hm : m < 1000) (hn : n < 1000) (h : ¬ (0 : Int32) < a - b) : m ≤ n := by
  refine Classical.byContradiction fun q => h ?_
  rw [own_nsub h1 h2 (by omega), Int32.lt_iff_toInt_lt, Int32.toInt_ofNat_small (by omega)]
  have e0 : (0 : Int32).toInt = 0 := rfl
  omega
theorem own_safe0 {Z : State} {EL : List (String × Nat)} {vm : Vm} {h : Heap} {x : Addr} {a0 : Array Value} {k : Nat} (hal : Z.vm.Alike vm) (E : Exa Z h x "java/lang/String") (F : Fld Z h x "java/lang/String" "value" "[B" .null) (wi : (Jvm.Cond.instantiable "java/lang/String" k).before a0 Z = true) : Safe Z EL vm h x := fun B => by
  obtain ⟨p, -, u, a, -, q, -, G, rfl | rfl⟩ := B
  · obtain ⟨cell, cf, kk, i, f, e1, e2, e3, -, -, -, e7⟩ := F
    cases (show h[q.sa]? = some q.sC from G.ha).symm.trans e1
    obtain ⟨cS, ⟨⟨-, -, -, ⟨c1, k1, i1, f1, -⟩, -, -, -, v1, -⟩, -⟩, -⟩ := G
    obtain ⟨k3, w3, -⟩ := State.fieldFound?_setVm (s := Z) hal e2
    have w4 := (show (Wst Z vm h).fieldFound? _ _ _ = _ from w3).symm.trans f1
    simp only [Option.some.injEq, Prod.mk.injEq] at w4
    rw [← w4.2.2.2, e7] at v1
    cases v1
  · obtain ⟨cell, kk, e1, e2, e3, -, -⟩ := E
    cases (show h[q.sd]? = some q.SA from G.hd).symm.trans e1
    obtain ⟨cS, -, -, f, -⟩ := G
    rw [show (Wst Z vm h).vm = vm from rfl, hal.findClass] at f
    obtain ⟨k1, q1, q2⟩ := Vm.findClass_spec f
    obtain ⟨k2, q3, q4⟩ := Vm.findClass_spec e2
    cases q1.symm.trans q3
    exact absurd (q2.symm.trans q4) (by decide)
def own_ST (Z : State) (gz : Int32) (gf : Value) : Prop := Sta Z Z.heap "java/lang/String" "COMPACT_STRINGS" "Z" (.int gz) ∧ ¬ (gz = (0 : Int32)) ∧ Sta Z Z.heap "jdk/internal/util/Preconditions" "SIOOBE_FORMATTER" "Ljava/util/function/BiFunction;" gf ∧ gf.isRef = true ∧ Sta Z Z.heap "java/lang/StringUTF16" "$assertionsDisabled" "Z" (.int (1 : Int32)) ∧ Sta Z Z.heap "java/lang/StringUTF16" "HI_BYTE_SHIFT" "I" (.int (0 : Int32)) ∧ Sta Z Z.heap "java/lang/StringUTF16" "LO_BYTE_SHIFT" "I" (.int (8 : Int32))
theorem own_nmax {a b : Int32} {m n : Nat} (h1 : a = Int32.ofNat m) (h2 : b = Int32.ofNat n) (hm : m < 2147483648) (hn : n < 2147483648) : (if a < b then b else a) = Int32.ofNat (max m n) := by
  by_cases q : a < b
  · rw [if_pos q, h2]; have := (own_nlt h1 h2 hm hn).mp q; rw [Nat.max_eq_right (by omega)]
  · rw [if_neg q, h1]; have := (not_congr (own_nlt h1 h2 hm hn)).mp q; rw [Nat.max_eq_left (by omega)]
theorem own_nmin {a b : Int32} {m n : Nat} (h1 : a = Int32.ofNat m) (h2 : b = Int32.ofNat n) (hm : m < 2147483648) (hn : n < 2147483648) : (if b < a then b else a) = Int32.ofNat (min m n) := by
  by_cases q : b < a
  · rw [if_pos q, h2]; have := (own_nlt h2 h1 hn hm).mp q; rw [Nat.min_eq_right (by omega)]
  · rw [if_neg q, h1]; have := (not_congr (own_nlt h2 h1 hn hm)).mp q; rw [Nat.min_eq_left (by omega)]
theorem own_norge {a b c : Int32} {m n k : Nat} (h1 : a = Int32.ofNat m) (h2 : b = Int32.ofNat n) (h3 : c = Int32.ofNat k) (q1 : m < 1001) (q2 : n < 1001) (q3 : k < 1001) : ¬ (a ||| b) ||| c < 0 := by
  have e := own_nor (own_nor h1 h2) h3
  have l1 : m ||| n < 2 ^ 10 := Nat.or_lt_two_pow (by omega) (by omega)
  have l2 : (m ||| n) ||| k < 2 ^ 10 := Nat.or_lt_two_pow l1 (by omega)
  exact own_nge e (by omega)
theorem own_i2b2 (x : Int32) : x.toInt8.toInt32.toInt8.toInt32 = x.toInt8.toInt32 := by
  have a := c_i2b x; have b := c_i2b x.toInt8.toInt32
  exact Int32.toInt_inj.mp (by omega)
theorem own_mask {c : Int32} (h : ¬ c < 0 ∧ ¬ (255 : Int32) < c) : c.toInt8.toInt32 &&& (255 : Int32) = c := by
  obtain ⟨h0, h1⟩ := h
  have t : ∀ k : Fin 256, (Int32.ofNat k.val).toInt8.toInt32 &&& (255 : Int32) = Int32.ofNat k.val := by decide +kernel
  rw [Int32.lt_iff_toInt_lt] at h0 h1
  have e0 : (0 : Int32).toInt = 0 := rfl
  have e1 : (255 : Int32).toInt = 255 := rfl
  obtain ⟨k, hk⟩ : ∃ k : Nat, c.toInt = k := ⟨c.toInt.toNat, by omega⟩
  have hx : c = Int32.ofNat k := Int32.toInt_inj.mp (by rw [hk, Int32.toInt_ofNat_small (by omega)])
  rw [hx]
  exact t ⟨k, by omega⟩
def own_lat (cs : List Int32) : Prop := ∀ x ∈ cs, ¬ x < 0 ∧ ¬ (255 : Int32) < x
theorem own_lat_snoc {cs : List Int32} {c : Int32} (h : own_lat cs) (q : ¬ c < 0 ∧ ¬ (255 : Int32) < c) : own_lat (cs ++ [c]) := fun x hx => by
  rcases List.mem_append.mp hx with hx | hx
  · exact h x hx
  · rw [List.mem_singleton.mp hx]; exact q
def own_T (Z : State) (h : Heap) (a t : Addr) (kb : ClassId) (N : Nat) (cd : Int32) (cs : List Int32) : Prop := Exa Z h a "java/lang/String" ∧ Fld Z h a "java/lang/String" "value" "[B" (.ref t) ∧ Fld Z h a "java/lang/String" "coder" "B" (.int cd) ∧ Arv Z h t kb .byte (Int32.ofNat N) (own_cod cd cs) (.int (0 : Int32)) ∧ (cd = (0 : Int32) ∨ cd = (1 : Int32)) ∧ ((cd = (0 : Int32) → N = cs.length ∧ own_lat cs) ∧ (cd = (1 : Int32) → N = 2 * cs.length)) ∧ (∀ x ∈ cs, ¬ x < 0 ∧ ¬ (65535 : Int32) < x) ∧ cs.length ≤ 100
theorem own_up1 {ch : Int32} (h : ¬ ch < 0 ∧ ¬ (255 : Int32) < ch) : ¬ ch < 0 ∧ ¬ (65535 : Int32) < ch := ⟨h.1, fun q => h.2 (by rw [Int32.lt_iff_toInt_lt] at q ⊢; have e1 : (65535 : Int32).toInt = 65535 := rfl; have e2 : (255 : Int32).toInt = 255 := rfl; omega)⟩
theorem own_cpe4 (cs ds : List Int32) (d : Value) (n : Nat) (hn : ds.length = n) : (own_c0 cs ++ List.replicate n d).take cs.length ++ own_c0 ds ++ (own_c0 cs ++ List.replicate n d).drop (cs.length + n) = own_c0 (cs ++ ds) := by
  subst hn
  have e := own_cpe (own_c0 cs) (own_c0 ds) d
  rw [own_c0_len, own_c0_len] at e
  rw [e, own_c0_app]
theorem own_lat4 : own_lat [92, 117, 48, 48] := by unfold own_lat; decide
theorem own_lat_app {cs ds : List Int32} (h : own_lat cs) (q : own_lat ds) : own_lat (cs ++ ds) := fun x hx => (List.mem_append.mp hx).elim (h x) (q x)
theorem own_nf {s : State} {args : Array Value} {K : String} {y z : MethodName} (hs : (Jvm.Cond.selects K z z).before args s = true) (hz : z.cls = y.cls) : NotFace s y := fun r0 h0 => by
  obtain ⟨c, r, m, q1, q2, q3, q4, mk, q5, q6⟩ := Cond.selects_spec hs
  have a := findClass_of_methodNamed h0
  have b := findClass_of_methodNamed q3
  rw [hz] at b
  have e := Option.some.inj (a.symm.trans b)
  exact ⟨mk, by rw [e]; exact q5, q6⟩
theorem own_B.keep {Z : State} {h h' : Heap} {b vb : Addr} {kb : ClassId} {N : Nat} {cd : Int32} {cs : List Int32} {ws : List Addr} (B : own_B Z h b vb kb N cd cs) (K : Keep h h' ws) (n1 : b ∉ ws) (n2 : vb ∉ ws) : own_B Z h' b vb kb N cd cs := by
  obtain ⟨q1, q2, q3, q4, q5, q6, q7⟩ := B
  exact ⟨q1.keep K, q2.keep K n1, q3.keep K n1, q4.keep K n1, q5.keep K n1, q6.keep K, q7.keep K n2⟩
theorem own_T.keep {Z : State} {h h' : Heap} {a t : Addr} {kb : ClassId} {N : Nat} {cd : Int32} {cs : List Int32} {ws : List Addr} (T : own_T Z h a t kb N cd cs) (K : Keep h h' ws) (n1 : a ∉ ws) (n2 : t ∉ ws) : own_T Z h' a t kb N cd cs := by
  obtain ⟨q1, q2, q3, q4, r⟩ := T
  exact ⟨q1.keep K, q2.keep K n1, q3.keep K n1, q4.keep K n2, r⟩
theorem own_chat {cs : List Int32} {i : Nat} {c : Int32} (h : cs[i]? = some c) (d : Value) : (cs.map Value.int).getD i d = .int c := by simp [h]
theorem own_first : ∀ {cs : List Int32} (_ : ∀ x ∈ cs, ¬ x < 0 ∧ ¬ (65535 : Int32) < x) (_ : ¬ own_lat cs), ∃ ls c post, cs = ls ++ c :: post ∧ own_lat ls ∧ (255 : Int32) < c
  | [], _, h => absurd (fun _ q => nomatch q) h
  | x :: cs, g, h => by
    by_cases q : (255 : Int32) < x
    · exact ⟨[], x, cs, rfl, (fun _ r => nomatch r), q⟩
    · have h' : ¬ own_lat cs := fun r => h fun y hy => (List.mem_cons.mp hy).elim (fun e => e ▸ ⟨(g x List.mem_cons_self).1, q⟩) (r y)
      obtain ⟨ls, c, post, e, l, b⟩ := own_first (fun y hy => g y (List.mem_cons_of_mem _ hy)) h'
      exact ⟨x :: ls, c, post, by rw [e]; rfl, (fun y hy => (List.mem_cons.mp hy).elim (fun e => e ▸ ⟨(g x List.mem_cons_self).1, q⟩) (l y)), b⟩
theorem own_cfl0 {a b : Int32} (h : a = b) : ((a - b).toUInt32 >>> ((31 : Int32) &&& 31).toUInt32).toInt32.toInt8.toInt32 = (0 : Int32) := by
  subst h; rw [Int32.sub_self]; decide
theorem own_cfl1 {a b : Int32} {m : Nat} (h1 : a = Int32.ofNat m) (h2 : b = Int32.ofNat (2 * m)) (q : 0 < m) (r : m ≤ 3) : ((a - b).toUInt32 >>> ((31 : Int32) &&& 31).toUInt32).toInt32.toInt8.toInt32 = (1 : Int32) := by
  subst h1; subst h2
  rcases (by omega : m = 1 ∨ m = 2 ∨ m = 3) with rfl | rfl | rfl <;> decide
def own_encj (c : Int32) : Int32 := if c = (34 : Int32) then (2 : Int32) else if c = (92 : Int32) then (2 : Int32) else if c < (32 : Int32) then (6 : Int32) else (1 : Int32)
theorem own_i2c2 (x : Int32) : (x.toUInt32.toUInt16.toUInt32.toInt32).toUInt32.toUInt16.toUInt32.toInt32 = x.toUInt32.toUInt16.toUInt32.toInt32 := by
  apply own_bv; rw [own_i2cn, own_i2cn]; omega
theorem own_hexn (d : Int32) : nar .char (own_hexj d) = own_hexj d := by
  unfold own_hexj; split <;> exact own_i2c2 _
theorem own_hxe {c : Int32} (h0 : ¬ c < 0) (h1 : c < 32) : own_hexj (c / 16) = own_hx (c >>> ((4 : Int32) &&& 31)) ∧ own_hexj (c % 16) = own_hx (c &&& (15 : Int32)) := by
  obtain ⟨k, rfl⟩ := own_ctl h0 h1
  exact ⟨own_hx1 k, own_hx2 k⟩
def own_HX (Z : State) (wH : Addr) : Prop := ∃ cl : Cell, Arr Z Z.heap wH cl .char ∧ cl.slots.size = 16 ∧ ∀ k : Nat, k < 16 → cl.slots[k]? = some (.int (own_hx (Int32.ofNat k)))
theorem own_ix4 {c : Int32} (h0 : ¬ c < 0) (h1 : c < 32) : (∃ q : Nat, q < 16 ∧ c >>> ((4 : Int32) &&& 31) = Int32.ofNat q) ∧ ∃ q : Nat, q < 16 ∧ c &&& (15 : Int32) = Int32.ofNat q := by
  have t : ∀ k : Fin 32, (∃ q : Fin 16, (Int32.ofNat k.val) >>> ((4 : Int32) &&& 31) = Int32.ofNat q.val) ∧ ∃ q : Fin 16, (Int32.ofNat k.val) &&& (15 : Int32) = Int32.ofNat q.val := by decide +kernel
  obtain ⟨k, rfl⟩ := own_ctl h0 h1
  obtain ⟨⟨q, hq⟩, r, hr⟩ := t k
  exact ⟨⟨q.val, q.isLt, hq⟩, r.val, r.isLt, hr⟩
theorem own_hx16 : ∀ q : Nat, q < 16 → ¬ own_hx (Int32.ofNat q) < 0 ∧ ¬ (255 : Int32) < own_hx (Int32.ofNat q) := by
  have t : ∀ q : Fin 16, ¬ own_hx (Int32.ofNat q.val) < 0 ∧ ¬ (255 : Int32) < own_hx (Int32.ofNat q.val) := by decide +kernel
  exact fun q h => t ⟨q, h⟩
theorem own_esc_len (c : Int32) : (own_esc c).length ≤ 6 := by unfold own_esc; repeat' split
                                                               all_goals simp
theorem own_fl (cs : List Int32) : (cs.flatMap own_esc).length ≤ 6 * cs.length := by
  induction cs with
  | nil => simp
  | cons c cs ih => have := own_esc_len c; simp [List.flatMap_cons] at ih ⊢; omega
theorem own_esc16 {c : Int32} (h : ¬ c < 0 ∧ ¬ (65535 : Int32) < c) : ∀ x ∈ own_esc c, ¬ x < 0 ∧ ¬ (65535 : Int32) < x := by
  unfold own_esc
  by_cases q1 : c = 34
  · rw [if_pos q1]; intro x hx; simp only [List.mem_cons, List.not_mem_nil, or_false] at hx; rcases hx with rfl | rfl; · decide
    · exact h
  rw [if_neg q1]
  by_cases q2 : c = 92
  · rw [if_pos q2]; intro x hx; simp only [List.mem_cons, List.not_mem_nil, or_false] at hx; rcases hx with rfl | rfl; · decide
    · exact h
  rw [if_neg q2]
  by_cases q3 : c < 32
  · rw [if_pos q3]; intro x hx
    obtain ⟨⟨q, hq, e1⟩, r, hr, e2⟩ := own_ix4 h.1 q3
    simp only [List.mem_cons, List.not_mem_nil, or_false] at hx
    rcases hx with rfl | rfl | rfl | rfl | rfl | rfl
    · decide
    · decide
    · decide
    · decide
    · rw [e1]; exact own_up1 (own_hx16 q hq)
    · rw [e2]; exact own_up1 (own_hx16 r hr)
  · rw [if_neg q3]; intro x hx; rw [List.mem_singleton.mp hx]; exact h
def own_json (cs : List Int32) : List Int32 := [34] ++ cs.flatMap own_esc ++ [34]
theorem own_json16 {cs : List Int32} (h : ∀ x ∈ cs, ¬ x < 0 ∧ ¬ (65535 : Int32) < x) : ∀ x ∈ own_json cs, ¬ x < 0 ∧ ¬ (65535 : Int32) < x := fun x hx => by
  unfold own_json at hx
  rcases List.mem_append.mp hx with hx | hx
  · rcases List.mem_append.mp hx with hx | hx
    · rw [List.mem_singleton.mp hx]; decide
    · obtain ⟨c, hc, hx⟩ := List.mem_flatMap.mp hx; exact own_esc16 (h c hc) x hx
  · rw [List.mem_singleton.mp hx]; decide
abbrev own_b26 := jdk_29_method_65_code
theorem d26_0 : decode own_b26 0 = .ok (.iload_n 0, 1) := by decide +kernel
theorem d26_1 : decode own_b26 1 = .ok (.iload_n 1, 1) := by decide +kernel
theorem d26_2 : decode own_b26 2 = .ok (.if_icmp .lt 7, 3) := by decide +kernel
theorem d26_5 : decode own_b26 5 = .ok (.iload_n 0, 1) := by decide +kernel
theorem d26_6 : decode own_b26 6 = .ok (.goto 4, 3) := by decide +kernel
theorem d26_9 : decode own_b26 9 = .ok (.iload_n 1, 1) := by decide +kernel
theorem d26_10 : decode own_b26 10 = .ok (.ireturn, 1) := by decide +kernel
theorem pn_26 : plainFor (⟨"java/lang/Math", "max", "(II)I"⟩ : MethodName) = true := by first | exact plainFor_of_name (by first | (simp [plainName, overriddenIn]; done) | decide +kernel) | decide +kernel | exact Jvm.Free.JP.mathPlain rfl (by decide +kernel)
theorem ef_26 (m : MethodId) (p0 : Int32) (p1 : Int32) : entryFrame m #[(.int p0), (.int p1)] 2 = mkF m 0 #[.val (.int p0), .val (.int p1)] [] := by first | (simp [entryFrame, mkF, argsToLocals, Value.category]; done) | rfl
abbrev own_r26 : Room := { frames := 0, cells := 0, slots := 0, locals := 0 }
def Q26 (Z : State) (p0 : Int32) (p1 : Int32) (h0 : Heap) (n0 : Nat) (v : Option Value) (h : Heap) (L : List Loc) : Prop := v = some (.int (if p0 < p1 then p1 else p0)) ∧ Fr n0 L ∧ h = h0
theorem rm26 (l : Launch) (Z : State) (a0 : Array Value) (hw : ∀ d ∈ tables_1, d.before a0 Z = true) (ws : List Jvm.Cond) (p0 : Int32) (p1 : Int32) (h0 : Heap) (n0 : Nat) (Z0 : n0 ≤ h0.size) :
    MetFree l own_n0 (head1 (Jvm.Cond.code own_n0 jdk_29_method_65_code 2 (some .int) :: ws) own_r26) (fun a U => a = #[(.int p0), (.int p1)] ∧ Z.Warmed39 U.vm ∧ U.heap = h0) (fun _ _ _ _ _ => True) (fun _ U o U' => ∃ v L, o = .returned v ∧ Q26 Z p0 p1 h0 n0 v U'.heap L ∧ FrameEnd U o U' L own_r26.cells own_r26.slots) := by
  refine MetFree.of_bodySF pn_26 hisR ?_
  intro p e s m args below meth c s₁ Bd hml0 hP hK
  obtain ⟨rfl, hZ, hh⟩ := hP
  have hx := Bd.exec
  have hby := Bd.bytes
  have hml : c.maxLocals = 2 := hml0
  have hown : s.vm.findClass "java/lang/Math" = some m.cls := findClass_of_methodNamed Bd.named
  have hnm := (name_of_methodNamed Bd.named Bd.method).1
  have X0 : Stand p l e own_r26 s m #[(.int p0), (.int p1)] below meth c s₁ [] 0 0 := Stand.of_body Bd
  have e0 : s₁.heap = h0 := by rw [← hh, Bd.state]; rfl
  have N0 := Fr.nil n0
  refine own_at (castTop (ef_26 m p0 p1)) ?_
  have K0 := Keep.refl h0 []
  have sg2 : own_G p e below s₁ (mkF m 2 #[.val (.int p0), .val (.int p1)] [(.int p1), (.int p0)]) s₁ (mkF m 0 #[.val (.int p0), .val (.int p1)] []) := by
    intro t k
    refine XS.iloadN X0.here hx rfl (hb hby d26_0) rfl ?_
    refine XS.iloadN X0.here hx rfl (hb hby d26_1) rfl ?_
    exact k
  refine own_by sg2 ?_
  by_cases hc2 : p0 < p1
  · have sg10 : own_G p e below s₁ (mkF m 10 #[.val (.int p0), .val (.int p1)] [(.int p1)]) s₁ (mkF m 2 #[.val (.int p0), .val (.int p1)] [(.int p1), (.int p0)]) := by
      intro t k
      refine XS.icmpYes X0.here hx rfl (pc0 := 2) (pc' := 9) rfl (hb hby d26_2) rfl (tlt hc2).1 (by decide) (by decide) ?_
      refine XS.iloadN X0.here hx rfl (hb hby d26_9) rfl ?_
      exact k
    refine own_by sg10 ?_
    obtain ⟨fs, hr, hrun, hended, hW, hsame⟩ := X0.leave (v := some (.int p1)) (fun h => by rw [Bd.returns] at h; cases h)
    refine ⟨_, _, ?_, hrun, hended, _, _, rfl, ?_, ⟨_, rfl⟩, hW, hsame.mono (by decide) (by decide)⟩
    · exact retI X0 hx Bd.returns (hb hby d26_10) hr
    · show Q26 Z p0 p1 h0 n0 _ s₁.heap _
      rw [e0]
      exact ⟨by rw [if_pos hc2], N0, rfl⟩
  · have sg10 : own_G p e below s₁ (mkF m 10 #[.val (.int p0), .val (.int p1)] [(.int p0)]) s₁ (mkF m 2 #[.val (.int p0), .val (.int p1)] [(.int p1), (.int p0)]) := by
      intro t k
      refine XS.icmpNo X0.here hx rfl (hb hby d26_2) rfl (flt hc2).1 ?_
      refine XS.iloadN X0.here hx rfl (hb hby d26_5) rfl ?_
      refine XS.goto X0.here hx rfl (pc0 := 6) (pc' := 10) rfl (hb hby d26_6) (by decide) (by decide) ?_
      exact k
    refine own_by sg10 ?_
    obtain ⟨fs, hr, hrun, hended, hW, hsame⟩ := X0.leave (v := some (.int p0)) (fun h => by rw [Bd.returns] at h; cases h)
    refine ⟨_, _, ?_, hrun, hended, _, _, rfl, ?_, ⟨_, rfl⟩, hW, hsame.mono (by decide) (by decide)⟩
    · exact retI X0 hx Bd.returns (hb hby d26_10) hr
    · show Q26 Z p0 p1 h0 n0 _ s₁.heap _
      rw [e0]
      exact ⟨by rw [if_neg hc2], N0, rfl⟩
abbrev own_b28 := jdk_29_method_69_code
theorem d28_0 : decode own_b28 0 = .ok (.iload_n 0, 1) := by decide +kernel
theorem d28_1 : decode own_b28 1 = .ok (.iload_n 1, 1) := by decide +kernel
theorem d28_2 : decode own_b28 2 = .ok (.if_icmp .gt 7, 3) := by decide +kernel
theorem d28_5 : decode own_b28 5 = .ok (.iload_n 0, 1) := by decide +kernel
theorem d28_6 : decode own_b28 6 = .ok (.goto 4, 3) := by decide +kernel
theorem d28_9 : decode own_b28 9 = .ok (.iload_n 1, 1) := by decide +kernel
theorem d28_10 : decode own_b28 10 = .ok (.ireturn, 1) := by decide +kernel
theorem pn_28 : plainFor (⟨"java/lang/Math", "min", "(II)I"⟩ : MethodName) = true := by first | exact plainFor_of_name (by first | (simp [plainName, overriddenIn]; done) | decide +kernel) | decide +kernel | exact Jvm.Free.JP.mathPlain rfl (by decide +kernel)
theorem ef_28 (m : MethodId) (p0 : Int32) (p1 : Int32) : entryFrame m #[(.int p0), (.int p1)] 2 = mkF m 0 #[.val (.int p0), .val (.int p1)] [] := by first | (simp [entryFrame, mkF, argsToLocals, Value.category]; done) | rfl
abbrev own_r28 : Room := { frames := 0, cells := 0, slots := 0, locals := 0 }
def Q28 (Z : State) (p0 : Int32) (p1 : Int32) (h0 : Heap) (n0 : Nat) (v : Option Value) (h : Heap) (L : List Loc) : Prop := v = some (.int (if p1 < p0 then p1 else p0)) ∧ Fr n0 L ∧ h = h0
theorem rm28 (l : Launch) (Z : State) (a0 : Array Value) (hw : ∀ d ∈ tables_1, d.before a0 Z = true) (ws : List Jvm.Cond) (p0 : Int32) (p1 : Int32) (h0 : Heap) (n0 : Nat) (Z0 : n0 ≤ h0.size) :
    MetFree l own_n2 (head1 (Jvm.Cond.code own_n2 jdk_29_method_69_code 2 (some .int) :: ws) own_r28) (fun a U => a = #[(.int p0), (.int p1)] ∧ Z.Warmed39 U.vm ∧ U.heap = h0) (fun _ _ _ _ _ => True) (fun _ U o U' => ∃ v L, o = .returned v ∧ Q28 Z p0 p1 h0 n0 v U'.heap L ∧ FrameEnd U o U' L own_r28.cells own_r28.slots) := by
  refine MetFree.of_bodySF pn_28 hisR ?_
  intro p e s m args below meth c s₁ Bd hml0 hP hK
  obtain ⟨rfl, hZ, hh⟩ := hP
  have hx := Bd.exec
  have hby := Bd.bytes
  have hml : c.maxLocals = 2 := hml0
  have hown : s.vm.findClass "java/lang/Math" = some m.cls := findClass_of_methodNamed Bd.named
  have hnm := (name_of_methodNamed Bd.named Bd.method).1
  have X0 : Stand p l e own_r28 s m #[(.int p0), (.int p1)] below meth c s₁ [] 0 0 := Stand.of_body Bd
  have e0 : s₁.heap = h0 := by rw [← hh, Bd.state]; rfl
  have N0 := Fr.nil n0
  refine own_at (castTop (ef_28 m p0 p1)) ?_
  have K0 := Keep.refl h0 []
  have sg2 : own_G p e below s₁ (mkF m 2 #[.val (.int p0), .val (.int p1)] [(.int p1), (.int p0)]) s₁ (mkF m 0 #[.val (.int p0), .val (.int p1)] []) := by
    intro t k
    refine XS.iloadN X0.here hx rfl (hb hby d28_0) rfl ?_
    refine XS.iloadN X0.here hx rfl (hb hby d28_1) rfl ?_
    exact k
  refine own_by sg2 ?_
  by_cases hc2 : p1 < p0
  · have sg10 : own_G p e below s₁ (mkF m 10 #[.val (.int p0), .val (.int p1)] [(.int p1)]) s₁ (mkF m 2 #[.val (.int p0), .val (.int p1)] [(.int p1), (.int p0)]) := by
      intro t k
      refine XS.icmpYes X0.here hx rfl (pc0 := 2) (pc' := 9) rfl (hb hby d28_2) rfl (tlt hc2).2.2.1 (by decide) (by decide) ?_
      refine XS.iloadN X0.here hx rfl (hb hby d28_9) rfl ?_
      exact k
    refine own_by sg10 ?_
    obtain ⟨fs, hr, hrun, hended, hW, hsame⟩ := X0.leave (v := some (.int p1)) (fun h => by rw [Bd.returns] at h; cases h)
    refine ⟨_, _, ?_, hrun, hended, _, _, rfl, ?_, ⟨_, rfl⟩, hW, hsame.mono (by decide) (by decide)⟩
    · exact retI X0 hx Bd.returns (hb hby d28_10) hr
    · show Q28 Z p0 p1 h0 n0 _ s₁.heap _
      rw [e0]
      exact ⟨by rw [if_pos hc2], N0, rfl⟩
  · have sg10 : own_G p e below s₁ (mkF m 10 #[.val (.int p0), .val (.int p1)] [(.int p0)]) s₁ (mkF m 2 #[.val (.int p0), .val (.int p1)] [(.int p1), (.int p0)]) := by
      intro t k
      refine XS.icmpNo X0.here hx rfl (hb hby d28_2) rfl (flt hc2).2.2.1 ?_
      refine XS.iloadN X0.here hx rfl (hb hby d28_5) rfl ?_
      refine XS.goto X0.here hx rfl (pc0 := 6) (pc' := 10) rfl (hb hby d28_6) (by decide) (by decide) ?_
      exact k
    refine own_by sg10 ?_
    obtain ⟨fs, hr, hrun, hended, hW, hsame⟩ := X0.leave (v := some (.int p0)) (fun h => by rw [Bd.returns] at h; cases h)
    refine ⟨_, _, ?_, hrun, hended, _, _, rfl, ?_, ⟨_, rfl⟩, hW, hsame.mono (by decide) (by decide)⟩
    · exact retI X0 hx Bd.returns (hb hby d28_10) hr
    · show Q28 Z p0 p1 h0 n0 _ s₁.heap _
      rw [e0]
      exact ⟨by rw [if_neg hc2], N0, rfl⟩
abbrev own_b25 := jdk_48_method_27_code
theorem d25_0 : decode own_b25 0 = .ok (.iload_n 0, 1) := by decide +kernel
theorem d25_1 : decode own_b25 1 = .ok (.iload_n 1, 1) := by decide +kernel
theorem d25_2 : decode own_b25 2 = .ok (.iload_n 2, 1) := by decide +kernel
theorem d25_3 : decode own_b25 3 = .ok (.invokestatic 194, 3) := by decide +kernel
theorem d25_6 : decode own_b25 6 = .ok (.iadd, 1) := by decide +kernel
theorem d25_7 : decode own_b25 7 = .ok (.istore_n 3, 1) := by decide +kernel
theorem d25_8 : decode own_b25 8 = .ok (.iconst 0, 1) := by decide +kernel
theorem d25_9 : decode own_b25 9 = .ok (.iload_n 3, 1) := by decide +kernel
theorem d25_10 : decode own_b25 10 = .ok (.if_icmp .ge 11, 3) := by decide +kernel
theorem d25_13 : decode own_b25 13 = .ok (.iload_n 3, 1) := by decide +kernel
theorem d25_14 : decode own_b25 14 = .ok (.ldc 200, 2) := by decide +kernel
theorem d25_16 : decode own_b25 16 = .ok (.if_icmp .gt 5, 3) := by decide +kernel
theorem d25_19 : decode own_b25 19 = .ok (.iload_n 3, 1) := by decide +kernel
theorem d25_20 : decode own_b25 20 = .ok (.ireturn, 1) := by decide +kernel
theorem pn_25 : plainFor (⟨"jdk/internal/util/ArraysSupport", "newLength", "(III)I"⟩ : MethodName) = true := by first | exact plainFor_of_name (by first | (simp [plainName, overriddenIn]; done) | decide +kernel) | decide +kernel | exact Jvm.Free.JP.mathPlain rfl (by decide +kernel)
theorem pd_25_0 : parseMethodDescriptor "(II)I" = some ⟨[.int, .int], some .int⟩ := by decide +kernel
theorem ef_25 (m : MethodId) (p0 : Int32) (p1 : Int32) (p2 : Int32) : entryFrame m #[(.int p0), (.int p1), (.int p2)] 4 = mkF m 0 #[.val (.int p0), .val (.int p1), .val (.int p2), .unset] [] := by first | (simp [entryFrame, mkF, argsToLocals, Value.category]; done) | rfl
abbrev own_r25 : Room := { frames := 1, cells := 0, slots := 0, locals := 14 }
def Q25 (Z : State) (p0 : Int32) (p1 : Int32) (p2 : Int32) (m0 : Nat) (m1 : Nat) (m2 : Nat) (h0 : Heap) (n0 : Nat) (v : Option Value) (h : Heap) (L : List Loc) : Prop := v = some (.int (Int32.ofNat (m0 + max m1 m2))) ∧ Fr n0 L ∧ h = h0
theorem rm25 (l : Launch) (Z : State) (a0 : Array Value) (hw : ∀ d ∈ tables_1, d.before a0 Z = true) (ws : List Jvm.Cond) (p0 : Int32) (p1 : Int32) (p2 : Int32) (m0 : Nat) (m1 : Nat) (m2 : Nat) (h0 : Heap) (n0 : Nat) (Z0 : n0 ≤ h0.size) (hp0 : p0 = Int32.ofNat m0) (hp1 : p1 = Int32.ofNat m1) (hp2 : p2 = Int32.ofNat m2) (hb0 : m0 ≤ 1000) (hb1 : m1 ≤ 1000) (hb2 : m2 ≤ 1000) (hbp : 0 < m1) :
    MetFree l own_n1 (head1 (Jvm.Cond.code own_n1 jdk_48_method_27_code 4 (some .int) :: ws) own_r25) (fun a U => a = #[(.int p0), (.int p1), (.int p2)] ∧ Z.Warmed39 U.vm ∧ U.heap = h0) (fun _ _ _ _ _ => True) (fun _ U o U' => ∃ v L, o = .returned v ∧ Q25 Z p0 p1 p2 m0 m1 m2 h0 n0 v U'.heap L ∧ FrameEnd U o U' L own_r25.cells own_r25.slots) := by
  refine MetFree.of_bodySF pn_25 hisR ?_
  intro p e s m args below meth c s₁ Bd hml0 hP hK
  obtain ⟨rfl, hZ, hh⟩ := hP
  have hx := Bd.exec
  have hby := Bd.bytes
  have hml : c.maxLocals = 4 := hml0
  have hown : s.vm.findClass "jdk/internal/util/ArraysSupport" = some m.cls := findClass_of_methodNamed Bd.named
  have hnm := (name_of_methodNamed Bd.named Bd.method).1
  have X0 : Stand p l e own_r25 s m #[(.int p0), (.int p1), (.int p2)] below meth c s₁ [] 0 0 := Stand.of_body Bd
  have e0 : s₁.heap = h0 := by rw [← hh, Bd.state]; rfl
  have N0 := Fr.nil n0
  refine own_at (castTop (ef_25 m p0 p1 p2)) ?_
  have K0 := Keep.refl h0 []
  have sg3 : own_G p e below s₁ (mkF m 3 #[.val (.int p0), .val (.int p1), .val (.int p2), .unset] [(.int p2), (.int p1), (.int p0)]) s₁ (mkF m 0 #[.val (.int p0), .val (.int p1), .val (.int p2), .unset] []) := by
    intro t k
    refine XS.iloadN X0.here hx rfl (hb hby d25_0) rfl ?_
    refine XS.iloadN X0.here hx rfl (hb hby d25_1) rfl ?_
    refine XS.iloadN X0.here hx rfl (hb hby d25_2) rfl ?_
    exact k
  refine own_by sg3 ?_
  obtain ⟨_, _, ⟨T3, L3, k3, n3⟩, -, X3, ⟨Lc3, hQ3, l3, y3, z3⟩, st3⟩ := Jvm.LawKit.callS X0 hx (y := own_n0) hown (mvT hZ (own_w hw 132 rfl)) (mvT hZ (own_w hw 133 rfl)) (mvT hZ (own_w hw 134 rfl)) (mvT hZ (own_w hw 135 rfl)) (by decide) (backOf (W := 1) (rm26 l Z a0 hw [] p1 p2 h0 n0 Z0) hZ (own_w hw 135 rfl) (own_w hw 134 rfl) (by decide) (by decide)) (g := (mkF m 3 #[.val (.int p0), .val (.int p1), .val (.int p2), .unset] [(.int p2), (.int p1), (.int p0)])) rfl (by rw [hml]; rfl) (argsL := [(.int p1), (.int p2)]) (rest := [(.int p0)]) (lenOf pd_25_0 rfl) rfl (Nat.le_of_eq rfl) (hb hby d25_3) (fun _ _ => ⟨rfl, e0, (by decide : 0 + 0 ≤ _), (by decide : 0 + 0 ≤ _)⟩)
  dsimp only [Pt.U, Pt.locs, Pt.cells, Pt.slots] at X3 l3 y3 z3 st3 hQ3
  subst l3 y3 z3
  obtain ⟨rfl, N3q, hq3⟩ := hQ3
  have N3 := Fr.app N0 N3q
  obtain ⟨c3, hc3⟩ : ∃ z : Int32, z = (if p1 < p2 then p2 else p1) := ⟨_, rfl⟩
  rw [← hc3] at st3
  have nt_c3 : c3 = Int32.ofNat (max (m1) (m2)) := hc3.trans (own_nmax hp1 hp2 (by omega) (by omega))
  refine own_by st3 ?_
  obtain ⟨t6, ht6⟩ : ∃ z : Int32, z = (p0 + c3) := ⟨_, rfl⟩
  have sg7 : own_G p e below T3 (mkF m 7 #[.val (.int p0), .val (.int p1), .val (.int p2), .unset] [(.int t6)]) T3 (mkF m 6 #[.val (.int p0), .val (.int p1), .val (.int p2), .unset] [(.int c3), (.int p0)]) := by
    intro t k
    rw [ht6] at k
    refine XS.iadd X3.here hx rfl (hb hby d25_6) rfl ?_
    exact k
  refine own_by sg7 ?_
  have nt_t6 : t6 = Int32.ofNat (m0 + max (m1) (m2)) := ht6.trans (own_nadd hp0 nt_c3)
  have sg20 : own_G p e below T3 (mkF m 20 #[.val (.int p0), .val (.int p1), .val (.int p2), .val (.int t6)] [(.int t6)]) T3 (mkF m 7 #[.val (.int p0), .val (.int p1), .val (.int p2), .unset] [(.int t6)]) := by
    intro t k
    refine XS.istoreN X3.here hx rfl (hb hby d25_7) rfl (l' := #[.val (.int p0), .val (.int p1), .val (.int p2), .val (.int t6)]) rfl ?_
    refine XS.iconst X3.here hx rfl (hb hby d25_8) ?_
    refine XS.iloadN X3.here hx rfl (hb hby d25_9) rfl ?_
    refine XS.icmpNo X3.here hx rfl (hb hby d25_10) rfl (tlt ((own_nlt (m := 0) (rfl : (0 : Int32) = Int32.ofNat 0) nt_t6 (by decide) (by omega)).mpr (by omega) : (0 : Int32) < t6)).2.1 ?_
    refine XS.iloadN X3.here hx rfl (hb hby d25_13) rfl ?_
    refine X3.ldcInt hx hown (mvT hZ (own_w hw 136 rfl)) (g := (mkF m 14 #[.val (.int p0), .val (.int p1), .val (.int p2), .val (.int t6)] [(.int t6)])) rfl (hb hby d25_14) _ ?_
    refine XS.icmpNo X3.here hx rfl (hb hby d25_16) rfl (flt ((not_congr (own_nlt (m := 2147483639) (rfl : (2147483639 : Int32) = Int32.ofNat 2147483639) nt_t6 (by decide) (by omega))).mpr (by omega) : ¬ ((2147483639 : Int32) < t6))).2.2.1 ?_
    refine XS.iloadN X3.here hx rfl (hb hby d25_19) rfl ?_
    exact k
  refine own_by sg20 ?_
  obtain ⟨fs, hr, hrun, hended, hW, hsame⟩ := X3.leave (v := some (.int t6)) (fun h => by rw [Bd.returns] at h; cases h)
  refine ⟨_, _, ?_, hrun, hended, _, _, rfl, ?_, ⟨_, rfl⟩, hW, hsame.mono (by decide) (by decide)⟩
  · exact retI X3 hx Bd.returns (hb hby d25_20) hr
  · show Q25 Z p0 p1 p2 m0 m1 m2 h0 n0 _ T3.heap _
    rw [hq3]
    exact ⟨by rw [nt_t6], N3, rfl⟩
abbrev own_b24 := jdk_68_method_10_code
theorem d24_0 : decode own_b24 0 = .ok (.aload_n 0, 1) := by decide +kernel
theorem d24_1 : decode own_b24 1 = .ok (.getfield 15, 3) := by decide +kernel
theorem d24_4 : decode own_b24 4 = .ok (.arraylength, 1) := by decide +kernel
theorem d24_5 : decode own_b24 5 = .ok (.istore_n 2, 1) := by decide +kernel
theorem d24_6 : decode own_b24 6 = .ok (.iload_n 1, 1) := by decide +kernel
theorem d24_7 : decode own_b24 7 = .ok (.aload_n 0, 1) := by decide +kernel
theorem d24_8 : decode own_b24 8 = .ok (.getfield 22, 3) := by decide +kernel
theorem d24_11 : decode own_b24 11 = .ok (.ishl, 1) := by decide +kernel
theorem d24_12 : decode own_b24 12 = .ok (.istore_n 3, 1) := by decide +kernel
theorem d24_13 : decode own_b24 13 = .ok (.iload_n 3, 1) := by decide +kernel
theorem d24_14 : decode own_b24 14 = .ok (.iload_n 2, 1) := by decide +kernel
theorem d24_15 : decode own_b24 15 = .ok (.isub, 1) := by decide +kernel
theorem d24_16 : decode own_b24 16 = .ok (.istore 4, 2) := by decide +kernel
theorem d24_18 : decode own_b24 18 = .ok (.iload_n 2, 1) := by decide +kernel
theorem d24_19 : decode own_b24 19 = .ok (.iload 4, 2) := by decide +kernel
theorem d24_21 : decode own_b24 21 = .ok (.iload_n 2, 1) := by decide +kernel
theorem d24_22 : decode own_b24 22 = .ok (.iconst 2, 1) := by decide +kernel
theorem d24_23 : decode own_b24 23 = .ok (.aload_n 0, 1) := by decide +kernel
theorem d24_24 : decode own_b24 24 = .ok (.getfield 22, 3) := by decide +kernel
theorem d24_27 : decode own_b24 27 = .ok (.ishl, 1) := by decide +kernel
theorem d24_28 : decode own_b24 28 = .ok (.iadd, 1) := by decide +kernel
theorem d24_29 : decode own_b24 29 = .ok (.invokestatic 114, 3) := by decide +kernel
theorem d24_32 : decode own_b24 32 = .ok (.istore 5, 2) := by decide +kernel
theorem d24_34 : decode own_b24 34 = .ok (.iload 5, 2) := by decide +kernel
theorem d24_36 : decode own_b24 36 = .ok (.ldc 39, 2) := by decide +kernel
theorem d24_38 : decode own_b24 38 = .ok (.if_icmp .ne 13, 3) := by decide +kernel
theorem d24_51 : decode own_b24 51 = .ok (.iload 5, 2) := by decide +kernel
theorem d24_53 : decode own_b24 53 = .ok (.aload_n 0, 1) := by decide +kernel
theorem d24_54 : decode own_b24 54 = .ok (.getfield 22, 3) := by decide +kernel
theorem d24_57 : decode own_b24 57 = .ok (.ishr, 1) := by decide +kernel
theorem d24_58 : decode own_b24 58 = .ok (.ireturn, 1) := by decide +kernel
theorem pn_24 : plainFor (⟨"java/lang/AbstractStringBuilder", "newCapacity", "(I)I"⟩ : MethodName) = true := by first | exact plainFor_of_name (by first | (simp [plainName, overriddenIn]; done) | decide +kernel) | decide +kernel | exact Jvm.Free.JP.mathPlain rfl (by decide +kernel)
theorem pd_24_0 : parseMethodDescriptor "(III)I" = some ⟨[.int, .int, .int], some .int⟩ := by decide +kernel
theorem ef_24 (m : MethodId) (a1 : Addr) (p1 : Int32) : entryFrame m #[(.ref a1), (.int p1)] 6 = mkF m 0 #[.val (.ref a1), .val (.int p1), .unset, .unset, .unset, .unset] [] := by first | (simp [entryFrame, mkF, argsToLocals, Value.category]; done) | rfl
abbrev own_r24 : Room := { frames := 2, cells := 0, slots := 0, locals := 29 }
def Q24 (Z : State) (a1 : Addr) (p1 : Int32) (vb : Addr) (kb : ClassId) (N : Nat) (cd : Int32) (vs : List Value) (k : Nat) (h0 : Heap) (n0 : Nat) (v : Option Value) (h : Heap) (L : List Loc) : Prop := ∃ M : Nat, v = some (.int (Int32.ofNat M)) ∧ Fr n0 L ∧ h = h0 ∧ k ≤ M ∧ (cd = (0 : Int32) → M ≤ max k (2 * N + 2)) ∧ (cd = (1 : Int32) → M ≤ max k (N + 2))
theorem rm24 (l : Launch) (Z : State) (a0 : Array Value) (hw : ∀ d ∈ tables_1, d.before a0 Z = true) (ws : List Jvm.Cond) (a1 : Addr) (p1 : Int32) (vb : Addr) (kb : ClassId) (N : Nat) (cd : Int32) (vs : List Value) (k : Nat) (h0 : Heap) (n0 : Nat) (Z0 : n0 ≤ h0.size) (hcd : cd = (0 : Int32) ∨ cd = (1 : Int32)) (hp1 : p1 = Int32.ofNat k) (F_v : Fld Z h0 a1 "java/lang/AbstractStringBuilder" "value" "[B" (.ref vb)) (F_c : Fld Z h0 a1 "java/lang/AbstractStringBuilder" "coder" "B" (.int cd)) (A_v : Arv Z h0 vb kb .byte (Int32.ofNat (N)) vs (.int (0 : Int32))) (hN : N ≤ 100) (hk0 : cd = (0 : Int32) → N < k) (hk1 : cd = (1 : Int32) → N < 2 * k) (hkb : k ≤ 100) :
    MetFree l own_n3 (head1 (Jvm.Cond.code own_n3 jdk_68_method_10_code 6 (some .int) :: ws) own_r24) (fun a U => a = #[(.ref a1), (.int p1)] ∧ Z.Warmed39 U.vm ∧ U.heap = h0) (fun _ _ _ _ _ => True) (fun _ U o U' => ∃ v L, o = .returned v ∧ Q24 Z a1 p1 vb kb N cd vs k h0 n0 v U'.heap L ∧ FrameEnd U o U' L own_r24.cells own_r24.slots) := by
  refine MetFree.of_bodySF pn_24 hisR ?_
  intro p e s m args below meth c s₁ Bd hml0 hP hK
  obtain ⟨rfl, hZ, hh⟩ := hP
  have hx := Bd.exec
  have hby := Bd.bytes
  have hml : c.maxLocals = 6 := hml0
  have hown : s.vm.findClass "java/lang/AbstractStringBuilder" = some m.cls := findClass_of_methodNamed Bd.named
  have hnm := (name_of_methodNamed Bd.named Bd.method).1
  have X0 : Stand p l e own_r24 s m #[(.ref a1), (.int p1)] below meth c s₁ [] 0 0 := Stand.of_body Bd
  have e0 : s₁.heap = h0 := by rw [← hh, Bd.state]; rfl
  have N0 := Fr.nil n0
  refine own_at (castTop (ef_24 m a1 p1)) ?_
  have K0 := Keep.refl h0 []
  rcases hcd with rfl | rfl
  · skip
    have hk := hk0 rfl
    have sg1 : own_G p e below s₁ (mkF m 1 (own_ARIUUUU a1 p1) [(.ref a1)]) s₁ (mkF m 0 (own_ARIUUUU a1 p1) []) := by
      intro t k
      refine XS.aloadN X0.here hx rfl (hb hby d24_0) rfl rfl ?_
      exact k
    refine own_by sg1 ?_
    obtain ⟨T1, X1, e1, st1⟩ := getF X0 hx hZ hown (host := "") (Or.inl (own_w hw 59 rfl)) Via.refl e0 F_v (g := (mkF m 1 (own_ARIUUUU a1 p1) [(.ref a1)])) rfl rfl (hb hby d24_1)
    refine own_by st1 ?_
    obtain ⟨cl4, Ar4, qa4, Sa4, Na4, Ha4, Ga4⟩ := id A_v
    obtain ⟨t4, ht4⟩ : ∃ z : Int32, z = (Int32.ofNat (N)) := ⟨_, rfl⟩
    have sg5 : own_G p e below T1 (mkF m 5 (own_ARIUUUU a1 p1) [(.int t4)]) T1 (mkF m 4 (own_ARIUUUU a1 p1) [(.ref vb)]) := by
      intro t k
      rw [ht4] at k
      refine X1.arraylength hx (by rw [e1]; exact Ar4.1) (State.isArrayOf_alike hZ.alike Ar4.2.1) (g := (mkF m 4 (own_ARIUUUU a1 p1) [(.ref vb)])) rfl rfl (hb hby d24_4) _ ?_
      rw [len_of Sa4 Na4]
      exact k
    refine own_by sg5 ?_
    have nt_t4 : t4 = Int32.ofNat (N) := ht4
    have sg8 : own_G p e below T1 (mkF m 8 (own_ARIIUUU a1 p1 t4) [(.ref a1), (.int p1)]) T1 (mkF m 5 (own_ARIUUUU a1 p1) [(.int t4)]) := by
      intro t k
      refine XS.istoreN X1.here hx rfl (hb hby d24_5) rfl (l' := (own_ARIIUUU a1 p1 t4)) rfl ?_
      refine XS.iloadN X1.here hx rfl (hb hby d24_6) rfl ?_
      refine XS.aloadN X1.here hx rfl (hb hby d24_7) rfl rfl ?_
      exact k
    refine own_by sg8 ?_
    obtain ⟨T8, X8, e8, st8⟩ := getF X1 hx hZ hown (host := "") (Or.inl (own_w hw 61 rfl)) Via.refl e1 F_c (g := (mkF m 8 (own_ARIIUUU a1 p1 t4) [(.ref a1), (.int p1)])) rfl rfl (hb hby d24_8)
    refine own_by st8 ?_
    obtain ⟨t11, ht11⟩ : ∃ z : Int32, z = (p1 <<< ((0 : Int32) &&& 31)) := ⟨_, rfl⟩
    have sg12 : own_G p e below T8 (mkF m 12 (own_ARIIUUU a1 p1 t4) [(.int t11)]) T8 (mkF m 11 (own_ARIIUUU a1 p1 t4) [(.int (0 : Int32)), (.int p1)]) := by
      intro t k
      rw [ht11] at k
      refine XS.ishl X8.here hx rfl (hb hby d24_11) rfl ?_
      exact k
    refine own_by sg12 ?_
    have nt_t11 : t11 = Int32.ofNat (k) := ht11.trans ((own_nshl0 _).trans hp1)
    obtain ⟨t15, ht15⟩ : ∃ z : Int32, z = (t11 - t4) := ⟨_, rfl⟩
    have sg16 : own_G p e below T8 (mkF m 16 (own_ARIIIUU a1 p1 t4 t11) [(.int t15)]) T8 (mkF m 12 (own_ARIIUUU a1 p1 t4) [(.int t11)]) := by
      intro t k
      rw [ht15] at k
      refine XS.istoreN X8.here hx rfl (hb hby d24_12) rfl (l' := (own_ARIIIUU a1 p1 t4 t11)) rfl ?_
      refine XS.iloadN X8.here hx rfl (hb hby d24_13) rfl ?_
      refine XS.iloadN X8.here hx rfl (hb hby d24_14) rfl ?_
      refine XS.isub X8.here hx rfl (hb hby d24_15) rfl ?_
      exact k
    refine own_by sg16 ?_
    have nt_t15 : t15 = Int32.ofNat (k - (N)) := ht15.trans (own_nsub nt_t11 nt_t4 (by omega))
    have sg24 : own_G p e below T8 (mkF m 24 (own_ARIIIIU a1 p1 t4 t11 t15) [(.ref a1), (.int (2 : Int32)), (.int t4), (.int t15), (.int t4)]) T8 (mkF m 16 (own_ARIIIUU a1 p1 t4 t11) [(.int t15)]) := by
      intro t k
      refine XS.istore X8.here hx rfl (hb hby d24_16) rfl (l' := (own_ARIIIIU a1 p1 t4 t11 t15)) rfl ?_
      refine XS.iloadN X8.here hx rfl (hb hby d24_18) rfl ?_
      refine XS.iload X8.here hx rfl (hb hby d24_19) rfl ?_
      refine XS.iloadN X8.here hx rfl (hb hby d24_21) rfl ?_
      refine XS.iconst X8.here hx rfl (hb hby d24_22) ?_
      refine XS.aloadN X8.here hx rfl (hb hby d24_23) rfl rfl ?_
      exact k
    refine own_by sg24 ?_
    obtain ⟨T24, X24, e24, st24⟩ := getF X8 hx hZ hown (host := "") (Or.inl (own_w hw 61 rfl)) Via.refl e8 F_c (g := (mkF m 24 (own_ARIIIIU a1 p1 t4 t11 t15) [(.ref a1), (.int (2 : Int32)), (.int t4), (.int t15), (.int t4)])) rfl rfl (hb hby d24_24)
    refine own_by st24 ?_
    obtain ⟨t27, ht27⟩ : ∃ z : Int32, z = ((2 : Int32) <<< ((0 : Int32) &&& 31)) := ⟨_, rfl⟩
    have sg28 : own_G p e below T24 (mkF m 28 (own_ARIIIIU a1 p1 t4 t11 t15) [(.int t27), (.int t4), (.int t15), (.int t4)]) T24 (mkF m 27 (own_ARIIIIU a1 p1 t4 t11 t15) [(.int (0 : Int32)), (.int (2 : Int32)), (.int t4), (.int t15), (.int t4)]) := by
      intro t k
      rw [ht27] at k
      refine XS.ishl X24.here hx rfl (hb hby d24_27) rfl ?_
      exact k
    refine own_by sg28 ?_
    have nt_t27 : t27 = Int32.ofNat (2) := ht27.trans ((own_nshl0 _).trans rfl)
    obtain ⟨t28, ht28⟩ : ∃ z : Int32, z = (t4 + t27) := ⟨_, rfl⟩
    have sg29 : own_G p e below T24 (mkF m 29 (own_ARIIIIU a1 p1 t4 t11 t15) [(.int t28), (.int t15), (.int t4)]) T24 (mkF m 28 (own_ARIIIIU a1 p1 t4 t11 t15) [(.int t27), (.int t4), (.int t15), (.int t4)]) := by
      intro t k
      rw [ht28] at k
      refine XS.iadd X24.here hx rfl (hb hby d24_28) rfl ?_
      exact k
    refine own_by sg29 ?_
    have nt_t28 : t28 = Int32.ofNat (N + 2) := ht28.trans (own_nadd nt_t4 nt_t27)
    obtain ⟨_, _, ⟨T29, L29, k29, n29⟩, -, X29, ⟨Lc29, hQ29, l29, y29, z29⟩, st29⟩ := Jvm.LawKit.callS X24 hx (y := own_n1) hown (mvT hZ (own_w hw 128 rfl)) (mvT hZ (own_w hw 129 rfl)) (mvT hZ (own_w hw 130 rfl)) (mvT hZ (own_w hw 131 rfl)) (by decide) (backOf (W := 0) (rm25 l Z a0 hw [] t4 t15 t28 (N) (k - (N)) (N + 2) h0 n0 Z0 nt_t4 nt_t15 nt_t28 (by omega) (by omega) (by omega) (by omega)) hZ (own_w hw 131 rfl) (own_w hw 130 rfl) (by decide) (by decide)) (g := (mkF m 29 (own_ARIIIIU a1 p1 t4 t11 t15) [(.int t28), (.int t15), (.int t4)])) rfl (by rw [hml]; rfl) (argsL := [(.int t4), (.int t15), (.int t28)]) (rest := []) (lenOf pd_24_0 rfl) rfl (Nat.le_of_eq rfl) (hb hby d24_29) (fun _ _ => ⟨rfl, e24, (by decide : 0 + 0 ≤ _), (by decide : 0 + 0 ≤ _)⟩)
    dsimp only [Pt.U, Pt.locs, Pt.cells, Pt.slots] at X29 l29 y29 z29 st29 hQ29
    subst l29 y29 z29
    obtain ⟨rfl, N29q, hq29⟩ := hQ29
    have N29 := Fr.app N0 N29q
    obtain ⟨c29, hc29⟩ : ∃ z : Int32, z = (Int32.ofNat (N + max (k - (N)) (N + 2))) := ⟨_, rfl⟩
    rw [← hc29] at st29
    have nt_c29 : c29 = Int32.ofNat (N + max (k - (N)) (N + 2)) := hc29
    refine own_by st29 ?_
    have sg54 : own_G p e below T29 (mkF m 54 (own_ARIIIII a1 p1 t4 t11 t15 c29) [(.ref a1), (.int c29)]) T29 (mkF m 32 (own_ARIIIIU a1 p1 t4 t11 t15) [(.int c29)]) := by
      intro t k
      refine XS.istore X29.here hx rfl (hb hby d24_32) rfl (l' := (own_ARIIIII a1 p1 t4 t11 t15 c29)) rfl ?_
      refine XS.iload X29.here hx rfl (hb hby d24_34) rfl ?_
      refine X29.ldcInt hx hown (mvT hZ (own_w hw 137 rfl)) (g := (mkF m 36 (own_ARIIIII a1 p1 t4 t11 t15 c29) [(.int c29)])) rfl (hb hby d24_36) _ ?_
      refine XS.icmpYes X29.here hx rfl (pc0 := 38) (pc' := 51) rfl (hb hby d24_38) rfl (feq ((not_congr (own_neq (n := 2147483647) nt_c29 (rfl : (2147483647 : Int32) = Int32.ofNat 2147483647) (by omega) (by decide))).mpr (by omega) : ¬ (c29 = (2147483647 : Int32)))).2 (by decide) (by decide) ?_
      refine XS.iload X29.here hx rfl (hb hby d24_51) rfl ?_
      refine XS.aloadN X29.here hx rfl (hb hby d24_53) rfl rfl ?_
      exact k
    refine own_by sg54 ?_
    obtain ⟨T54, X54, e54, st54⟩ := getF X29 hx hZ hown (host := "") (Or.inl (own_w hw 61 rfl)) Via.refl hq29 F_c (g := (mkF m 54 (own_ARIIIII a1 p1 t4 t11 t15 c29) [(.ref a1), (.int c29)])) rfl rfl (hb hby d24_54)
    refine own_by st54 ?_
    obtain ⟨t57, ht57⟩ : ∃ z : Int32, z = (c29 >>> ((0 : Int32) &&& 31)) := ⟨_, rfl⟩
    have sg58 : own_G p e below T54 (mkF m 58 (own_ARIIIII a1 p1 t4 t11 t15 c29) [(.int t57)]) T54 (mkF m 57 (own_ARIIIII a1 p1 t4 t11 t15 c29) [(.int (0 : Int32)), (.int c29)]) := by
      intro t k
      rw [ht57] at k
      refine XS.ishr X54.here hx rfl (hb hby d24_57) rfl ?_
      exact k
    refine own_by sg58 ?_
    have nt_t57 : t57 = Int32.ofNat (N + max (k - (N)) (N + 2)) := ht57.trans ((own_nshr0 _).trans nt_c29)
    obtain ⟨fs, hr, hrun, hended, hW, hsame⟩ := X54.leave (v := some (.int t57)) (fun h => by rw [Bd.returns] at h; cases h)
    refine ⟨_, _, ?_, hrun, hended, _, _, rfl, ?_, ⟨_, rfl⟩, hW, hsame.mono (by decide) (by decide)⟩
    · exact retI X54 hx Bd.returns (hb hby d24_58) hr
    · show Q24 Z a1 p1 vb kb N (0 : Int32) vs k h0 n0 _ T54.heap _
      rw [e54]
      exact ⟨N + max (k - (N)) (N + 2), (by rw [nt_t57]), N29, rfl, (by omega), (fun _ => by omega), (fun q => absurd q (by decide))⟩
  · skip
    have hk := hk1 rfl
    have sg1 : own_G p e below s₁ (mkF m 1 (own_ARIUUUU a1 p1) [(.ref a1)]) s₁ (mkF m 0 (own_ARIUUUU a1 p1) []) := by
      intro t k
      refine XS.aloadN X0.here hx rfl (hb hby d24_0) rfl rfl ?_
      exact k
    refine own_by sg1 ?_
    obtain ⟨T1, X1, e1, st1⟩ := getF X0 hx hZ hown (host := "") (Or.inl (own_w hw 59 rfl)) Via.refl e0 F_v (g := (mkF m 1 (own_ARIUUUU a1 p1) [(.ref a1)])) rfl rfl (hb hby d24_1)
    refine own_by st1 ?_
    obtain ⟨cl4, Ar4, qa4, Sa4, Na4, Ha4, Ga4⟩ := id A_v
    obtain ⟨t4, ht4⟩ : ∃ z : Int32, z = (Int32.ofNat (N)) := ⟨_, rfl⟩
    have sg5 : own_G p e below T1 (mkF m 5 (own_ARIUUUU a1 p1) [(.int t4)]) T1 (mkF m 4 (own_ARIUUUU a1 p1) [(.ref vb)]) := by
      intro t k
      rw [ht4] at k
      refine X1.arraylength hx (by rw [e1]; exact Ar4.1) (State.isArrayOf_alike hZ.alike Ar4.2.1) (g := (mkF m 4 (own_ARIUUUU a1 p1) [(.ref vb)])) rfl rfl (hb hby d24_4) _ ?_
      rw [len_of Sa4 Na4]
      exact k
    refine own_by sg5 ?_
    have nt_t4 : t4 = Int32.ofNat (N) := ht4
    have sg8 : own_G p e below T1 (mkF m 8 (own_ARIIUUU a1 p1 t4) [(.ref a1), (.int p1)]) T1 (mkF m 5 (own_ARIUUUU a1 p1) [(.int t4)]) := by
      intro t k
      refine XS.istoreN X1.here hx rfl (hb hby d24_5) rfl (l' := (own_ARIIUUU a1 p1 t4)) rfl ?_
      refine XS.iloadN X1.here hx rfl (hb hby d24_6) rfl ?_
      refine XS.aloadN X1.here hx rfl (hb hby d24_7) rfl rfl ?_
      exact k
    refine own_by sg8 ?_
    obtain ⟨T8, X8, e8, st8⟩ := getF X1 hx hZ hown (host := "") (Or.inl (own_w hw 61 rfl)) Via.refl e1 F_c (g := (mkF m 8 (own_ARIIUUU a1 p1 t4) [(.ref a1), (.int p1)])) rfl rfl (hb hby d24_8)
    refine own_by st8 ?_
    obtain ⟨t11, ht11⟩ : ∃ z : Int32, z = (p1 <<< ((1 : Int32) &&& 31)) := ⟨_, rfl⟩
    have sg12 : own_G p e below T8 (mkF m 12 (own_ARIIUUU a1 p1 t4) [(.int t11)]) T8 (mkF m 11 (own_ARIIUUU a1 p1 t4) [(.int (1 : Int32)), (.int p1)]) := by
      intro t k
      rw [ht11] at k
      refine XS.ishl X8.here hx rfl (hb hby d24_11) rfl ?_
      exact k
    refine own_by sg12 ?_
    have nt_t11 : t11 = Int32.ofNat (2 * (k)) := ht11.trans (own_nshl1 hp1)
    obtain ⟨t15, ht15⟩ : ∃ z : Int32, z = (t11 - t4) := ⟨_, rfl⟩
    have sg16 : own_G p e below T8 (mkF m 16 (own_ARIIIUU a1 p1 t4 t11) [(.int t15)]) T8 (mkF m 12 (own_ARIIUUU a1 p1 t4) [(.int t11)]) := by
      intro t k
      rw [ht15] at k
      refine XS.istoreN X8.here hx rfl (hb hby d24_12) rfl (l' := (own_ARIIIUU a1 p1 t4 t11)) rfl ?_
      refine XS.iloadN X8.here hx rfl (hb hby d24_13) rfl ?_
      refine XS.iloadN X8.here hx rfl (hb hby d24_14) rfl ?_
      refine XS.isub X8.here hx rfl (hb hby d24_15) rfl ?_
      exact k
    refine own_by sg16 ?_
    have nt_t15 : t15 = Int32.ofNat (2 * (k) - (N)) := ht15.trans (own_nsub nt_t11 nt_t4 (by omega))
    have sg24 : own_G p e below T8 (mkF m 24 (own_ARIIIIU a1 p1 t4 t11 t15) [(.ref a1), (.int (2 : Int32)), (.int t4), (.int t15), (.int t4)]) T8 (mkF m 16 (own_ARIIIUU a1 p1 t4 t11) [(.int t15)]) := by
      intro t k
      refine XS.istore X8.here hx rfl (hb hby d24_16) rfl (l' := (own_ARIIIIU a1 p1 t4 t11 t15)) rfl ?_
      refine XS.iloadN X8.here hx rfl (hb hby d24_18) rfl ?_
      refine XS.iload X8.here hx rfl (hb hby d24_19) rfl ?_
      refine XS.iloadN X8.here hx rfl (hb hby d24_21) rfl ?_
      refine XS.iconst X8.here hx rfl (hb hby d24_22) ?_
      refine XS.aloadN X8.here hx rfl (hb hby d24_23) rfl rfl ?_
      exact k
    refine own_by sg24 ?_
    obtain ⟨T24, X24, e24, st24⟩ := getF X8 hx hZ hown (host := "") (Or.inl (own_w hw 61 rfl)) Via.refl e8 F_c (g := (mkF m 24 (own_ARIIIIU a1 p1 t4 t11 t15) [(.ref a1), (.int (2 : Int32)), (.int t4), (.int t15), (.int t4)])) rfl rfl (hb hby d24_24)
    refine own_by st24 ?_
    obtain ⟨t27, ht27⟩ : ∃ z : Int32, z = ((2 : Int32) <<< ((1 : Int32) &&& 31)) := ⟨_, rfl⟩
    have sg28 : own_G p e below T24 (mkF m 28 (own_ARIIIIU a1 p1 t4 t11 t15) [(.int t27), (.int t4), (.int t15), (.int t4)]) T24 (mkF m 27 (own_ARIIIIU a1 p1 t4 t11 t15) [(.int (1 : Int32)), (.int (2 : Int32)), (.int t4), (.int t15), (.int t4)]) := by
      intro t k
      rw [ht27] at k
      refine XS.ishl X24.here hx rfl (hb hby d24_27) rfl ?_
      exact k
    refine own_by sg28 ?_
    have nt_t27 : t27 = Int32.ofNat (2 * (2)) := ht27.trans (own_nshl1 rfl)
    obtain ⟨t28, ht28⟩ : ∃ z : Int32, z = (t4 + t27) := ⟨_, rfl⟩
    have sg29 : own_G p e below T24 (mkF m 29 (own_ARIIIIU a1 p1 t4 t11 t15) [(.int t28), (.int t15), (.int t4)]) T24 (mkF m 28 (own_ARIIIIU a1 p1 t4 t11 t15) [(.int t27), (.int t4), (.int t15), (.int t4)]) := by
      intro t k
      rw [ht28] at k
      refine XS.iadd X24.here hx rfl (hb hby d24_28) rfl ?_
      exact k
    refine own_by sg29 ?_
    have nt_t28 : t28 = Int32.ofNat (N + 2 * (2)) := ht28.trans (own_nadd nt_t4 nt_t27)
    obtain ⟨_, _, ⟨T29, L29, k29, n29⟩, -, X29, ⟨Lc29, hQ29, l29, y29, z29⟩, st29⟩ := Jvm.LawKit.callS X24 hx (y := own_n1) hown (mvT hZ (own_w hw 128 rfl)) (mvT hZ (own_w hw 129 rfl)) (mvT hZ (own_w hw 130 rfl)) (mvT hZ (own_w hw 131 rfl)) (by decide) (backOf (W := 0) (rm25 l Z a0 hw [] t4 t15 t28 (N) (2 * (k) - (N)) (N + 2 * (2)) h0 n0 Z0 nt_t4 nt_t15 nt_t28 (by omega) (by omega) (by omega) (by omega)) hZ (own_w hw 131 rfl) (own_w hw 130 rfl) (by decide) (by decide)) (g := (mkF m 29 (own_ARIIIIU a1 p1 t4 t11 t15) [(.int t28), (.int t15), (.int t4)])) rfl (by rw [hml]; rfl) (argsL := [(.int t4), (.int t15), (.int t28)]) (rest := []) (lenOf pd_24_0 rfl) rfl (Nat.le_of_eq rfl) (hb hby d24_29) (fun _ _ => ⟨rfl, e24, (by decide : 0 + 0 ≤ _), (by decide : 0 + 0 ≤ _)⟩)
    dsimp only [Pt.U, Pt.locs, Pt.cells, Pt.slots] at X29 l29 y29 z29 st29 hQ29
    subst l29 y29 z29
    obtain ⟨rfl, N29q, hq29⟩ := hQ29
    have N29 := Fr.app N0 N29q
    obtain ⟨c29, hc29⟩ : ∃ z : Int32, z = (Int32.ofNat (N + max (2 * (k) - (N)) (N + 2 * (2)))) := ⟨_, rfl⟩
    rw [← hc29] at st29
    have nt_c29 : c29 = Int32.ofNat (N + max (2 * (k) - (N)) (N + 2 * (2))) := hc29
    refine own_by st29 ?_
    have sg54 : own_G p e below T29 (mkF m 54 (own_ARIIIII a1 p1 t4 t11 t15 c29) [(.ref a1), (.int c29)]) T29 (mkF m 32 (own_ARIIIIU a1 p1 t4 t11 t15) [(.int c29)]) := by
      intro t k
      refine XS.istore X29.here hx rfl (hb hby d24_32) rfl (l' := (own_ARIIIII a1 p1 t4 t11 t15 c29)) rfl ?_
      refine XS.iload X29.here hx rfl (hb hby d24_34) rfl ?_
      refine X29.ldcInt hx hown (mvT hZ (own_w hw 137 rfl)) (g := (mkF m 36 (own_ARIIIII a1 p1 t4 t11 t15 c29) [(.int c29)])) rfl (hb hby d24_36) _ ?_
      refine XS.icmpYes X29.here hx rfl (pc0 := 38) (pc' := 51) rfl (hb hby d24_38) rfl (feq ((not_congr (own_neq (n := 2147483647) nt_c29 (rfl : (2147483647 : Int32) = Int32.ofNat 2147483647) (by omega) (by decide))).mpr (by omega) : ¬ (c29 = (2147483647 : Int32)))).2 (by decide) (by decide) ?_
      refine XS.iload X29.here hx rfl (hb hby d24_51) rfl ?_
      refine XS.aloadN X29.here hx rfl (hb hby d24_53) rfl rfl ?_
      exact k
    refine own_by sg54 ?_
    obtain ⟨T54, X54, e54, st54⟩ := getF X29 hx hZ hown (host := "") (Or.inl (own_w hw 61 rfl)) Via.refl hq29 F_c (g := (mkF m 54 (own_ARIIIII a1 p1 t4 t11 t15 c29) [(.ref a1), (.int c29)])) rfl rfl (hb hby d24_54)
    refine own_by st54 ?_
    obtain ⟨t57, ht57⟩ : ∃ z : Int32, z = (c29 >>> ((1 : Int32) &&& 31)) := ⟨_, rfl⟩
    have sg58 : own_G p e below T54 (mkF m 58 (own_ARIIIII a1 p1 t4 t11 t15 c29) [(.int t57)]) T54 (mkF m 57 (own_ARIIIII a1 p1 t4 t11 t15 c29) [(.int (1 : Int32)), (.int c29)]) := by
      intro t k
      rw [ht57] at k
      refine XS.ishr X54.here hx rfl (hb hby d24_57) rfl ?_
      exact k
    refine own_by sg58 ?_
    have nt_t57 : t57 = Int32.ofNat ((N + max (2 * (k) - (N)) (N + 2 * (2))) / 2) := ht57.trans (own_nshr1 nt_c29 (by omega))
    obtain ⟨fs, hr, hrun, hended, hW, hsame⟩ := X54.leave (v := some (.int t57)) (fun h => by rw [Bd.returns] at h; cases h)
    refine ⟨_, _, ?_, hrun, hended, _, _, rfl, ?_, ⟨_, rfl⟩, hW, hsame.mono (by decide) (by decide)⟩
    · exact retI X54 hx Bd.returns (hb hby d24_58) hr
    · show Q24 Z a1 p1 vb kb N (1 : Int32) vs k h0 n0 _ T54.heap _
      rw [e54]
      exact ⟨(N + max (2 * (k) - (N)) (N + 2 * (2))) / 2, (by rw [nt_t57]), N29, rfl, (by omega), (fun q => absurd q (by decide)), (fun _ => by omega)⟩
abbrev own_b27 := jdk_65_method_121_code
theorem d27_0 : decode own_b27 0 = .ok (.iload_n 1, 1) := by decide +kernel
theorem d27_1 : decode own_b27 1 = .ok (.aload_n 0, 1) := by decide +kernel
theorem d27_2 : decode own_b27 2 = .ok (.arraylength, 1) := by decide +kernel
theorem d27_3 : decode own_b27 3 = .ok (.if_icmp .ne 11, 3) := by decide +kernel
theorem d27_14 : decode own_b27 14 = .ok (.iload_n 1, 1) := by decide +kernel
theorem d27_15 : decode own_b27 15 = .ok (.newarray .byte, 2) := by decide +kernel
theorem d27_17 : decode own_b27 17 = .ok (.astore_n 2, 1) := by decide +kernel
theorem d27_18 : decode own_b27 18 = .ok (.aload_n 0, 1) := by decide +kernel
theorem d27_19 : decode own_b27 19 = .ok (.iconst 0, 1) := by decide +kernel
theorem d27_20 : decode own_b27 20 = .ok (.aload_n 2, 1) := by decide +kernel
theorem d27_21 : decode own_b27 21 = .ok (.iconst 0, 1) := by decide +kernel
theorem d27_22 : decode own_b27 22 = .ok (.aload_n 0, 1) := by decide +kernel
theorem d27_23 : decode own_b27 23 = .ok (.arraylength, 1) := by decide +kernel
theorem d27_24 : decode own_b27 24 = .ok (.iload_n 1, 1) := by decide +kernel
theorem d27_25 : decode own_b27 25 = .ok (.invokestatic 304, 3) := by decide +kernel
theorem d27_28 : decode own_b27 28 = .ok (.invokestatic 150, 3) := by decide +kernel
theorem d27_31 : decode own_b27 31 = .ok (.aload_n 2, 1) := by decide +kernel
theorem d27_32 : decode own_b27 32 = .ok (.areturn, 1) := by decide +kernel
theorem pn_27 : plainFor (⟨"java/util/Arrays", "copyOf", "([BI)[B"⟩ : MethodName) = true := by first | exact plainFor_of_name (by first | (simp [plainName, overriddenIn]; done) | decide +kernel) | decide +kernel | exact Jvm.Free.JP.mathPlain rfl (by decide +kernel)
theorem pd_27_0 : parseMethodDescriptor "(II)I" = some ⟨[.int, .int], some .int⟩ := by decide +kernel
theorem ef_27 (m : MethodId) (a1 : Addr) (p1 : Int32) : entryFrame m #[(.ref a1), (.int p1)] 3 = mkF m 0 #[.val (.ref a1), .val (.int p1), .unset] [] := by first | (simp [entryFrame, mkF, argsToLocals, Value.category]; done) | rfl
abbrev own_r27 : Room := { frames := 1, cells := 1, slots := 86, locals := 40 }
def Q27 (Z : State) (a1 : Addr) (p1 : Int32) (kb : ClassId) (N : Nat) (M : Nat) (vs : List Value) (h0 : Heap) (n0 : Nat) (v : Option Value) (h : Heap) (L : List Loc) : Prop := ∃ r kr, v = some (.ref r) ∧ h0.size ≤ r ∧ Fr n0 L ∧ Keep h0 h [] ∧ Exa Z h r "[B" ∧ Arv Z h r kr .byte (Int32.ofNat (M)) vs (.int (0 : Int32))
theorem rm27 (l : Launch) (Z : State) (a0 : Array Value) (hw : ∀ d ∈ tables_1, d.before a0 Z = true) (ws : List Jvm.Cond) (a1 : Addr) (p1 : Int32) (kb : ClassId) (N : Nat) (M : Nat) (vs : List Value) (h0 : Heap) (n0 : Nat) (Z0 : n0 ≤ h0.size) (A_1 : Arv Z h0 a1 kb .byte (Int32.ofNat (N)) vs (.int (0 : Int32))) (hp1 : p1 = Int32.ofNat M) (hvl : vs.length ≤ N) (hNM : N < M) (hM : M ≤ 86) :
    MetFree l own_n5 (head1 (Jvm.Cond.code own_n5 jdk_65_method_121_code 3 (some (.array .byte)) :: ws) own_r27) (fun a U => a = #[(.ref a1), (.int p1)] ∧ Z.Warmed39 U.vm ∧ U.heap = h0) (fun _ _ _ _ _ => True) (fun _ U o U' => ∃ v L, o = .returned v ∧ Q27 Z a1 p1 kb N M vs h0 n0 v U'.heap L ∧ FrameEnd U o U' L own_r27.cells own_r27.slots) := by
  refine MetFree.of_bodySF pn_27 hisR ?_
  intro p e s m args below meth c s₁ Bd hml0 hP hK
  obtain ⟨rfl, hZ, hh⟩ := hP
  have hx := Bd.exec
  have hby := Bd.bytes
  have hml : c.maxLocals = 3 := hml0
  have hown : s.vm.findClass "java/util/Arrays" = some m.cls := findClass_of_methodNamed Bd.named
  have hnm := (name_of_methodNamed Bd.named Bd.method).1
  have X0 : Stand p l e own_r27 s m #[(.ref a1), (.int p1)] below meth c s₁ [] 0 0 := Stand.of_body Bd
  have e0 : s₁.heap = h0 := by rw [← hh, Bd.state]; rfl
  have N0 := Fr.nil n0
  refine own_at (castTop (ef_27 m a1 p1)) ?_
  have K0 := Keep.refl h0 []
  have sg2 : own_G p e below s₁ (mkF m 2 #[.val (.ref a1), .val (.int p1), .unset] [(.ref a1), (.int p1)]) s₁ (mkF m 0 #[.val (.ref a1), .val (.int p1), .unset] []) := by
    intro t k
    refine XS.iloadN X0.here hx rfl (hb hby d27_0) rfl ?_
    refine XS.aloadN X0.here hx rfl (hb hby d27_1) rfl rfl ?_
    exact k
  refine own_by sg2 ?_
  obtain ⟨cl2, Ar2, qa2, Sa2, Na2, Ha2, Ga2⟩ := id A_1
  obtain ⟨t2, ht2⟩ : ∃ z : Int32, z = (Int32.ofNat (N)) := ⟨_, rfl⟩
  have sg3 : own_G p e below s₁ (mkF m 3 #[.val (.ref a1), .val (.int p1), .unset] [(.int t2), (.int p1)]) s₁ (mkF m 2 #[.val (.ref a1), .val (.int p1), .unset] [(.ref a1), (.int p1)]) := by
    intro t k
    rw [ht2] at k
    refine X0.arraylength hx (by rw [e0]; exact Ar2.1) (State.isArrayOf_alike hZ.alike Ar2.2.1) (g := (mkF m 2 #[.val (.ref a1), .val (.int p1), .unset] [(.ref a1), (.int p1)])) rfl rfl (hb hby d27_2) _ ?_
    rw [len_of Sa2 Na2]
    exact k
  refine own_by sg3 ?_
  have nt_t2 : t2 = Int32.ofNat (N) := ht2
  have sg15 : own_G p e below s₁ (mkF m 15 #[.val (.ref a1), .val (.int p1), .unset] [(.int p1)]) s₁ (mkF m 3 #[.val (.ref a1), .val (.int p1), .unset] [(.int t2), (.int p1)]) := by
    intro t k
    refine XS.icmpYes X0.here hx rfl (pc0 := 3) (pc' := 14) rfl (hb hby d27_3) rfl (feq ((not_congr (own_neq hp1 nt_t2 (by omega) (by omega))).mpr (by omega) : ¬ (p1 = t2))).2 (by decide) (by decide) ?_
    refine XS.iloadN X0.here hx rfl (hb hby d27_14) rfl ?_
    exact k
  refine own_by sg15 ?_
  obtain ⟨T15, h15, kc15, X15, e15, E15, A15, Ex15, st15⟩ := newPE X0 hx hZ (own_w hw 20 rfl) e0 (g := (mkF m 15 #[.val (.ref a1), .val (.int p1), .unset] [(.int p1)])) rfl (hb hby d27_15) rfl (own_nge hp1 (by omega)) (cap := 86) (by rw [own_ntc hp1 (by omega)]; omega) (by decide) (by decide) (by decide) (ad := "[B") (by decide)
  obtain ⟨b15, g15⟩ : ∃ z, z = h0.size := ⟨_, rfl⟩
  rw [← g15] at A15 st15 Ex15
  have ne_a1_b15 : a1 ≠ b15 := Nat.ne_of_lt (Nat.lt_of_lt_of_le A_1.lt (Nat.le_of_eq g15.symm))
  have g_b15 : n0 ≤ b15 := Nat.le_trans Z0 (Nat.le_of_eq g15.symm)
  have sz_b15 : h0.size ≤ b15 := Nat.le_trans K0.1 (Nat.le_of_eq g15.symm)
  have K15 := K0.ext E15
  have Z15 : n0 ≤ h15.size := Nat.le_trans Z0 E15.1
  have V15 : Arv Z h15 b15 kc15 .byte (Int32.ofNat (M)) [] (.int (0 : Int32)) := by have q := Arv.new A15 (own_nge hp1 (by omega)); rw [hp1] at q; exact q
  refine own_by st15 ?_
  have sg23 : own_G p e below T15 (mkF m 23 #[.val (.ref a1), .val (.int p1), .val (.ref b15)] [(.ref a1), (.int (0 : Int32)), (.ref b15), (.int (0 : Int32)), (.ref a1)]) T15 (mkF m 17 #[.val (.ref a1), .val (.int p1), .unset] [(.ref b15)]) := by
    intro t k
    refine XS.astoreN X15.here hx rfl (hb hby d27_17) rfl rfl (l' := #[.val (.ref a1), .val (.int p1), .val (.ref b15)]) rfl ?_
    refine XS.aloadN X15.here hx rfl (hb hby d27_18) rfl rfl ?_
    refine XS.iconst X15.here hx rfl (hb hby d27_19) ?_
    refine XS.aloadN X15.here hx rfl (hb hby d27_20) rfl rfl ?_
    refine XS.iconst X15.here hx rfl (hb hby d27_21) ?_
    refine XS.aloadN X15.here hx rfl (hb hby d27_22) rfl rfl ?_
    exact k
  refine own_by sg23 ?_
  obtain ⟨cl23, Ar23, qa23, Sa23, Na23, Ha23, Ga23⟩ := id (A_1.ext E15)
  obtain ⟨t23, ht23⟩ : ∃ z : Int32, z = (Int32.ofNat (N)) := ⟨_, rfl⟩
  have sg24 : own_G p e below T15 (mkF m 24 #[.val (.ref a1), .val (.int p1), .val (.ref b15)] [(.int t23), (.int (0 : Int32)), (.ref b15), (.int (0 : Int32)), (.ref a1)]) T15 (mkF m 23 #[.val (.ref a1), .val (.int p1), .val (.ref b15)] [(.ref a1), (.int (0 : Int32)), (.ref b15), (.int (0 : Int32)), (.ref a1)]) := by
    intro t k
    rw [ht23] at k
    refine X15.arraylength hx (by rw [e15]; exact Ar23.1) (State.isArrayOf_alike hZ.alike Ar23.2.1) (g := (mkF m 23 #[.val (.ref a1), .val (.int p1), .val (.ref b15)] [(.ref a1), (.int (0 : Int32)), (.ref b15), (.int (0 : Int32)), (.ref a1)])) rfl rfl (hb hby d27_23) _ ?_
    rw [len_of Sa23 Na23]
    exact k
  refine own_by sg24 ?_
  have nt_t23 : t23 = Int32.ofNat (N) := ht23
  have sg25 : own_G p e below T15 (mkF m 25 #[.val (.ref a1), .val (.int p1), .val (.ref b15)] [(.int p1), (.int t23), (.int (0 : Int32)), (.ref b15), (.int (0 : Int32)), (.ref a1)]) T15 (mkF m 24 #[.val (.ref a1), .val (.int p1), .val (.ref b15)] [(.int t23), (.int (0 : Int32)), (.ref b15), (.int (0 : Int32)), (.ref a1)]) := by
    intro t k
    refine XS.iloadN X15.here hx rfl (hb hby d27_24) rfl ?_
    exact k
  refine own_by sg25 ?_
  obtain ⟨_, _, ⟨T25, L25, k25, n25⟩, -, X25, ⟨Lc25, hQ25, l25, y25, z25⟩, st25⟩ := Jvm.LawKit.callS X15 hx (y := own_n2) hown (mvT hZ (own_w hw 142 rfl)) (mvT hZ (own_w hw 143 rfl)) (mvT hZ (own_w hw 134 rfl)) (mvT hZ (own_w hw 144 rfl)) (by decide) (backOf (W := 4) (rm28 l Z a0 hw [] t23 p1 h15 n0 Z15) hZ (own_w hw 144 rfl) (own_w hw 134 rfl) (by decide) (by decide)) (g := (mkF m 25 #[.val (.ref a1), .val (.int p1), .val (.ref b15)] [(.int p1), (.int t23), (.int (0 : Int32)), (.ref b15), (.int (0 : Int32)), (.ref a1)])) rfl (by rw [hml]; rfl) (argsL := [(.int t23), (.int p1)]) (rest := [(.int (0 : Int32)), (.ref b15), (.int (0 : Int32)), (.ref a1)]) (lenOf pd_27_0 rfl) rfl (Nat.le_of_eq rfl) (hb hby d27_25) (fun _ _ => ⟨rfl, e15, (by decide : 1 + 0 ≤ _), (by decide : 86 + 0 ≤ _)⟩)
  dsimp only [Pt.U, Pt.locs, Pt.cells, Pt.slots] at X25 l25 y25 z25 st25 hQ25
  subst l25 y25 z25
  obtain ⟨rfl, N25q, hq25⟩ := hQ25
  have N25 := Fr.app N0 N25q
  obtain ⟨c25, hc25⟩ : ∃ z : Int32, z = (if p1 < t23 then p1 else t23) := ⟨_, rfl⟩
  rw [← hc25] at st25
  have nt_c25 : c25 = Int32.ofNat (min (N) (M)) := hc25.trans (own_nmin nt_t23 hp1 (by omega) (by omega))
  refine own_by st25 ?_
  have Bp28 : Arv Z h15 b15 kc15 .byte (Int32.ofNat (M)) (List.replicate M (.int (0 : Int32))) (.int (0 : Int32)) := (V15).pad (own_padr [] _ M)
  obtain ⟨T28, h28, Lq28, X28, e28, N28, Kq28, Aq28, st28⟩ := cpA X25 hx hZ hown (own_w hw 145 rfl) (own_w hw 148 rfl) (own_w hw 146 rfl) (own_w hw 147 rfl) hq25 (A_1.ext E15) Bp28 (us := ((List.range (min (N) (M))).map fun i => vs.getD (0 + i) (.int (0 : Int32)))) (Or.inl ⟨rfl, rfl⟩) (own_nge (m := 0) (rfl : (0 : Int32) = Int32.ofNat (0)) (by decide)) (own_nge (m := 0) (rfl : (0 : Int32) = Int32.ofNat (0)) (by decide)) (own_nge (nt_c25) (by omega)) (by rw [own_ntc (m := 0) (rfl : (0 : Int32) = Int32.ofNat (0)) (by decide), own_ntc (nt_c25) (by omega), own_ntc (m := (N)) (rfl : Int32.ofNat (N) = Int32.ofNat (N)) (by omega)]; omega) (by rw [own_ntc (m := 0) (rfl : (0 : Int32) = Int32.ofNat (0)) (by decide), own_ntc (nt_c25) (by omega), own_ntc (m := (M)) (rfl : Int32.ofNat (M) = Int32.ofNat (M)) (by omega)]; omega) (by rw [own_ntc (nt_c25) (by omega), own_ntc (m := 0) (rfl : (0 : Int32) = Int32.ofNat (0)) (by decide)]) (by rw [own_ntc (m := 0) (rfl : (0 : Int32) = Int32.ofNat (0)) (by decide), own_ntc (nt_c25) (by omega)]; simp; omega) N25 g_b15 (g := (mkF m 28 #[.val (.ref a1), .val (.int p1), .val (.ref b15)] [(.int c25), (.int (0 : Int32)), (.ref b15), (.int (0 : Int32)), (.ref a1)])) rfl (by rw [hml]; rfl) (rest := []) rfl (hb hby d27_28) (by decide) (W := 0) (by show 2 * 0 + _ ≤ _; exact Nat.le_of_eq rfl) (by decide)
  rw [own_ntc (m := 0) (rfl : (0 : Int32) = Int32.ofNat (0)) (by decide), own_ntc (nt_c25) (by omega)] at Aq28
  have fc := ((A_1.ext E15).keep Kq28 (fun h => ne_a1_b15 (List.mem_singleton.mp h)))
  have K28 : Keep h0 h28 [] := K15.trans Kq28 (fun x hx => by cases List.mem_singleton.mp hx; exact (Or.inr sz_b15))
  have Z28 : n0 ≤ h28.size := Nat.le_trans Z15 Kq28.1
  have V28 : Arv Z h28 b15 kc15 .byte (Int32.ofNat (M)) vs (.int (0 : Int32)) := by have q := Aq28; rw [show min N M = N from by omega] at q; exact q.pad (own_cpy vs (.int (0 : Int32)) N M hvl (by omega))
  refine own_by st28 ?_
  have sg32 : own_G p e below T28 (mkF m 32 #[.val (.ref a1), .val (.int p1), .val (.ref b15)] [(.ref b15)]) T28 (mkF m 31 #[.val (.ref a1), .val (.int p1), .val (.ref b15)] []) := by
    intro t k
    refine XS.aloadN X28.here hx rfl (hb hby d27_31) rfl rfl ?_
    exact k
  refine own_by sg32 ?_
  obtain ⟨fs, hr, hrun, hended, hW, hsame⟩ := X28.leave (v := some (.ref b15)) (fun h => by rw [Bd.returns] at h; cases h)
  refine ⟨_, _, ?_, hrun, hended, _, _, rfl, ?_, ⟨_, rfl⟩, hW, hsame.mono (by decide) (by decide)⟩
  · show Steps p.tables e below (T28.setTop (mkF m 32 #[.val (.ref a1), .val (.int p1), .val (.ref b15)] [(.ref b15)])) _
    jvm_step X28.here [X28.here.top, hx, (hb hby d27_32), X28.method', Bd.returns, Value.isRef, FieldType.isReference]
    first | (intro acts; rw [hr _ acts rfl rfl rfl]) | rw [hr _ _ rfl rfl rfl]
    exact Steps.refl _
  · show Q27 Z a1 p1 kb N M vs h0 n0 _ T28.heap _
    rw [e28]
    exact ⟨_, _, rfl, sz_b15, N28, K28, (Ex15.keep Kq28), V28⟩
abbrev own_b14 := jdk_68_method_9_code
theorem d14_0 : decode own_b14 0 = .ok (.aload_n 0, 1) := by decide +kernel
theorem d14_1 : decode own_b14 1 = .ok (.getfield 15, 3) := by decide +kernel
theorem d14_4 : decode own_b14 4 = .ok (.arraylength, 1) := by decide +kernel
theorem d14_5 : decode own_b14 5 = .ok (.aload_n 0, 1) := by decide +kernel
theorem d14_6 : decode own_b14 6 = .ok (.getfield 22, 3) := by decide +kernel
theorem d14_9 : decode own_b14 9 = .ok (.ishr, 1) := by decide +kernel
theorem d14_10 : decode own_b14 10 = .ok (.istore_n 2, 1) := by decide +kernel
theorem d14_11 : decode own_b14 11 = .ok (.iload_n 1, 1) := by decide +kernel
theorem d14_12 : decode own_b14 12 = .ok (.iload_n 2, 1) := by decide +kernel
theorem d14_13 : decode own_b14 13 = .ok (.isub, 1) := by decide +kernel
theorem d14_14 : decode own_b14 14 = .ok (.ifCond .le 24, 3) := by decide +kernel
theorem d14_17 : decode own_b14 17 = .ok (.aload_n 0, 1) := by decide +kernel
theorem d14_18 : decode own_b14 18 = .ok (.aload_n 0, 1) := by decide +kernel
theorem d14_19 : decode own_b14 19 = .ok (.getfield 15, 3) := by decide +kernel
theorem d14_22 : decode own_b14 22 = .ok (.aload_n 0, 1) := by decide +kernel
theorem d14_23 : decode own_b14 23 = .ok (.iload_n 1, 1) := by decide +kernel
theorem d14_24 : decode own_b14 24 = .ok (.invokevirtual 104, 3) := by decide +kernel
theorem d14_27 : decode own_b14 27 = .ok (.aload_n 0, 1) := by decide +kernel
theorem d14_28 : decode own_b14 28 = .ok (.getfield 22, 3) := by decide +kernel
theorem d14_31 : decode own_b14 31 = .ok (.ishl, 1) := by decide +kernel
theorem d14_32 : decode own_b14 32 = .ok (.invokestatic 108, 3) := by decide +kernel
theorem d14_35 : decode own_b14 35 = .ok (.putfield 15, 3) := by decide +kernel
theorem d14_38 : decode own_b14 38 = .ok (.return_, 1) := by decide +kernel
theorem pn_14 : plainFor (⟨"java/lang/AbstractStringBuilder", "ensureCapacityInternal", "(I)V"⟩ : MethodName) = true := by first | exact plainFor_of_name (by first | (simp [plainName, overriddenIn]; done) | decide +kernel) | decide +kernel | exact Jvm.Free.JP.mathPlain rfl (by decide +kernel)
theorem pd_14_0 : parseMethodDescriptor "(I)I" = some ⟨[.int], some .int⟩ := by decide +kernel
theorem pd_14_1 : parseMethodDescriptor "([BI)[B" = some ⟨[(.array .byte), .int], some (.array .byte)⟩ := by decide +kernel
theorem ef_14 (m : MethodId) (a1 : Addr) (p1 : Int32) : entryFrame m #[(.ref a1), (.int p1)] 3 = mkF m 0 #[.val (.ref a1), .val (.int p1), .unset] [] := by first | (simp [entryFrame, mkF, argsToLocals, Value.category]; done) | rfl
abbrev own_r14 : Room := { frames := 3, cells := 1, slots := 86, locals := 55 }
def Q14 (Z : State) (a1 : Addr) (p1 : Int32) (vb : Addr) (kb : ClassId) (N : Nat) (cd : Int32) (cs : List Int32) (k : Nat) (h0 : Heap) (n0 : Nat) (v : Option Value) (h : Heap) (L : List Loc) : Prop := v = none ∧ Fr n0 L ∧ Keep h0 h [a1] ∧ ∃ (v' : Addr) (k' : ClassId) (N' : Nat), (v' = vb ∨ h0.size ≤ v') ∧ own_B Z h a1 v' k' N' cd cs ∧ (cd = (0 : Int32) → k ≤ N' ∧ N' ≤ 42) ∧ (cd = (1 : Int32) → 2 * (k) ≤ N' ∧ N' ≤ 86)
theorem rm14 (l : Launch) (Z : State) (a0 : Array Value) (hw : ∀ d ∈ tables_1, d.before a0 Z = true) (ws : List Jvm.Cond) (a1 : Addr) (p1 : Int32) (vb : Addr) (kb : ClassId) (N : Nat) (cd : Int32) (cs : List Int32) (k : Nat) (h0 : Heap) (n0 : Nat) (Z0 : n0 ≤ h0.size) (BB : own_B Z h0 a1 vb kb N cd cs) (hcd : cd = (0 : Int32) ∨ cd = (1 : Int32)) (g_a1 : n0 ≤ a1) (g_vb : n0 ≤ vb) (hcap : (cd = (0 : Int32) → cs.length ≤ N ∧ N ≤ 42) ∧ (cd = (1 : Int32) → 2 * (cs.length) ≤ N ∧ N ≤ 86)) (hp1 : p1 = Int32.ofNat k) (hk : k ≤ 21) :
    MetFree l own_n4 (head1 (Jvm.Cond.code own_n4 jdk_68_method_9_code 3 none :: ws) own_r14) (fun a U => a = #[(.ref a1), (.int p1)] ∧ Z.Warmed39 U.vm ∧ U.heap = h0) (fun _ _ _ _ _ => True) (fun _ U o U' => ∃ v L, o = .returned v ∧ Q14 Z a1 p1 vb kb N cd cs k h0 n0 v U'.heap L ∧ FrameEnd U o U' L own_r14.cells own_r14.slots) := by
  refine MetFree.of_bodySF pn_14 hisR ?_
  intro p e s m args below meth c s₁ Bd hml0 hP hK
  obtain ⟨rfl, hZ, hh⟩ := hP
  have hx := Bd.exec
  have hby := Bd.bytes
  have hml : c.maxLocals = 3 := hml0
  have hown : s.vm.findClass "java/lang/AbstractStringBuilder" = some m.cls := findClass_of_methodNamed Bd.named
  have hnm := (name_of_methodNamed Bd.named Bd.method).1
  have X0 : Stand p l e own_r14 s m #[(.ref a1), (.int p1)] below meth c s₁ [] 0 0 := Stand.of_body Bd
  have e0 : s₁.heap = h0 := by rw [← hh, Bd.state]; rfl
  have N0 := Fr.nil n0
  refine own_at (castTop (ef_14 m a1 p1)) ?_
  have K0 := Keep.refl h0 [a1]
  obtain ⟨E_b, F_v, F_c, F_m, F_n, E_v, A_v⟩ := id BB
  have n_b_v : a1 ≠ vb := E_b.neArv A_v (own_w hw 36 rfl)
  obtain ⟨cn, hcn⟩ : ∃ z : Int32, z = Int32.ofNat cs.length := ⟨_, rfl⟩
  rw [← hcn] at F_n
  rcases hcd with rfl | rfl
  · skip
    have hc_ := hcap.1 rfl
    rw [own_cod0] at A_v
    have hvl_ := own_c0_len cs
    have sg1 : own_G p e below s₁ (mkF m 1 #[.val (.ref a1), .val (.int p1), .unset] [(.ref a1)]) s₁ (mkF m 0 #[.val (.ref a1), .val (.int p1), .unset] []) := by
      intro t k
      refine XS.aloadN X0.here hx rfl (hb hby d14_0) rfl rfl ?_
      exact k
    refine own_by sg1 ?_
    obtain ⟨T1, X1, e1, st1⟩ := getF X0 hx hZ hown (host := "") (Or.inl (own_w hw 59 rfl)) Via.refl e0 F_v (g := (mkF m 1 #[.val (.ref a1), .val (.int p1), .unset] [(.ref a1)])) rfl rfl (hb hby d14_1)
    refine own_by st1 ?_
    obtain ⟨cl4, Ar4, qa4, Sa4, Na4, Ha4, Ga4⟩ := id A_v
    obtain ⟨t4, ht4⟩ : ∃ z : Int32, z = (Int32.ofNat (N)) := ⟨_, rfl⟩
    have sg5 : own_G p e below T1 (mkF m 5 #[.val (.ref a1), .val (.int p1), .unset] [(.int t4)]) T1 (mkF m 4 #[.val (.ref a1), .val (.int p1), .unset] [(.ref vb)]) := by
      intro t k
      rw [ht4] at k
      refine X1.arraylength hx (by rw [e1]; exact Ar4.1) (State.isArrayOf_alike hZ.alike Ar4.2.1) (g := (mkF m 4 #[.val (.ref a1), .val (.int p1), .unset] [(.ref vb)])) rfl rfl (hb hby d14_4) _ ?_
      rw [len_of Sa4 Na4]
      exact k
    refine own_by sg5 ?_
    have nt_t4 : t4 = Int32.ofNat (N) := ht4
    have sg6 : own_G p e below T1 (mkF m 6 #[.val (.ref a1), .val (.int p1), .unset] [(.ref a1), (.int t4)]) T1 (mkF m 5 #[.val (.ref a1), .val (.int p1), .unset] [(.int t4)]) := by
      intro t k
      refine XS.aloadN X1.here hx rfl (hb hby d14_5) rfl rfl ?_
      exact k
    refine own_by sg6 ?_
    obtain ⟨T6, X6, e6, st6⟩ := getF X1 hx hZ hown (host := "") (Or.inl (own_w hw 61 rfl)) Via.refl e1 F_c (g := (mkF m 6 #[.val (.ref a1), .val (.int p1), .unset] [(.ref a1), (.int t4)])) rfl rfl (hb hby d14_6)
    refine own_by st6 ?_
    obtain ⟨t9, ht9⟩ : ∃ z : Int32, z = (t4 >>> ((0 : Int32) &&& 31)) := ⟨_, rfl⟩
    have sg10 : own_G p e below T6 (mkF m 10 #[.val (.ref a1), .val (.int p1), .unset] [(.int t9)]) T6 (mkF m 9 #[.val (.ref a1), .val (.int p1), .unset] [(.int (0 : Int32)), (.int t4)]) := by
      intro t k
      rw [ht9] at k
      refine XS.ishr X6.here hx rfl (hb hby d14_9) rfl ?_
      exact k
    refine own_by sg10 ?_
    have nt_t9 : t9 = Int32.ofNat (N) := ht9.trans ((own_nshr0 _).trans nt_t4)
    have sg14 : own_G p e below T6 (mkF m 14 #[.val (.ref a1), .val (.int p1), .val (.int t9)] [(.int (p1 - t9))]) T6 (mkF m 10 #[.val (.ref a1), .val (.int p1), .unset] [(.int t9)]) := by
      intro t k
      refine XS.istoreN X6.here hx rfl (hb hby d14_10) rfl (l' := #[.val (.ref a1), .val (.int p1), .val (.int t9)]) rfl ?_
      refine XS.iloadN X6.here hx rfl (hb hby d14_11) rfl ?_
      refine XS.iloadN X6.here hx rfl (hb hby d14_12) rfl ?_
      refine XS.isub X6.here hx rfl (hb hby d14_13) rfl ?_
      exact k
    refine own_by sg14 ?_
    by_cases hc14 : (0 : Int32) < (p1 - t9)
    · have hpo : N < k := own_npos hp1 nt_t9 (by omega) (by omega) hc14
      have sg19 : own_G p e below T6 (mkF m 19 #[.val (.ref a1), .val (.int p1), .val (.int t9)] [(.ref a1), (.ref a1)]) T6 (mkF m 14 #[.val (.ref a1), .val (.int p1), .val (.int t9)] [(.int (p1 - t9))]) := by
        intro t k
        refine XS.ifNo X6.here hx rfl (hb hby d14_14) rfl ((if0 _ _).trans (tlt hc14).2.2.2) ?_
        refine XS.aloadN X6.here hx rfl (hb hby d14_17) rfl rfl ?_
        refine XS.aloadN X6.here hx rfl (hb hby d14_18) rfl rfl ?_
        exact k
      refine own_by sg19 ?_
      obtain ⟨T19, X19, e19, st19⟩ := getF X6 hx hZ hown (host := "") (Or.inl (own_w hw 59 rfl)) Via.refl e6 F_v (g := (mkF m 19 #[.val (.ref a1), .val (.int p1), .val (.int t9)] [(.ref a1), (.ref a1)])) rfl rfl (hb hby d14_19)
      refine own_by st19 ?_
      have sg24 : own_G p e below T19 (mkF m 24 #[.val (.ref a1), .val (.int p1), .val (.int t9)] [(.int p1), (.ref a1), (.ref vb), (.ref a1)]) T19 (mkF m 22 #[.val (.ref a1), .val (.int p1), .val (.int t9)] [(.ref vb), (.ref a1)]) := by
        intro t k
        refine XS.aloadN X19.here hx rfl (hb hby d14_22) rfl rfl ?_
        refine XS.iloadN X19.here hx rfl (hb hby d14_23) rfl ?_
        exact k
      refine own_by sg24 ?_
      obtain ⟨cq24, q24, q24'⟩ := E_b.cell
      obtain ⟨_, _, ⟨T24, L24, k24, n24⟩, -, X24, ⟨Lc24, hQ24, l24, y24, z24⟩, st24⟩ := X19.privateBack hx (y := own_n3) hown (mvT hZ (own_w hw 123 rfl)) (mvT hZ (own_w hw 124 rfl)) (own_selp (z := own_n4) (Cond.privateMethod_at (mvP hZ (own_w hw 125 rfl) (args := #[]))) (mvT hZ (own_w hw 124 rfl)) (mvT hZ (own_w hw 78 rfl)) rfl (by decide)) (Cond.privateMethod_at (mvP hZ (own_w hw 125 rfl) (args := #[]))) (mvT hZ (own_w hw 127 rfl)) (by decide) (backOf (W := 2) (rm24 l Z a0 hw [] a1 p1 vb kb N (0 : Int32) (own_c0 cs) k h0 n0 Z0 (Or.inl rfl) hp1 F_v F_c A_v (by omega) (fun _ => by omega) (fun q => absurd q (by decide)) (by omega)) hZ (own_w hw 127 rfl) (own_w hw 55 rfl) (by decide) (by decide)) (g := (mkF m 24 #[.val (.ref a1), .val (.int p1), .val (.int t9)] [(.int p1), (.ref a1), (.ref vb), (.ref a1)])) rfl (by rw [hml]; rfl) (Steps.refl _) (a := a1) (by rw [e19]; exact q24) q24' (argsL := [(.int p1)]) (rest := [(.ref vb), (.ref a1)]) (lenOf pd_14_0 rfl) rfl (Nat.le_of_eq rfl) (hb hby d14_24) (fun _ _ => ⟨rfl, e19, (by decide : 0 + 0 ≤ _), (by decide : 0 + 0 ≤ _)⟩)
      dsimp only [Pt.U, Pt.locs, Pt.cells, Pt.slots] at X24 l24 y24 z24 st24 hQ24
      subst l24 y24 z24
      obtain ⟨M24, rfl, N24q, hq24, mk24, ml024, ml124⟩ := hQ24
      have N24 := Fr.app N0 N24q
      have ml24 := ml024 rfl
      obtain ⟨c24, hc24⟩ : ∃ z : Int32, z = Int32.ofNat M24 := ⟨_, rfl⟩
      rw [← hc24] at st24
      refine own_by (fun t k => st24.trans k) ?_
      have sg28 : own_G p e below T24 (mkF m 28 #[.val (.ref a1), .val (.int p1), .val (.int t9)] [(.ref a1), (.int c24), (.ref vb), (.ref a1)]) T24 (mkF m 27 #[.val (.ref a1), .val (.int p1), .val (.int t9)] [(.int c24), (.ref vb), (.ref a1)]) := by
        intro t k
        refine XS.aloadN X24.here hx rfl (hb hby d14_27) rfl rfl ?_
        exact k
      refine own_by sg28 ?_
      obtain ⟨T28, X28, e28, st28⟩ := getF X24 hx hZ hown (host := "") (Or.inl (own_w hw 61 rfl)) Via.refl hq24 F_c (g := (mkF m 28 #[.val (.ref a1), .val (.int p1), .val (.int t9)] [(.ref a1), (.int c24), (.ref vb), (.ref a1)])) rfl rfl (hb hby d14_28)
      refine own_by st28 ?_
      obtain ⟨t31, ht31⟩ : ∃ z : Int32, z = (c24 <<< ((0 : Int32) &&& 31)) := ⟨_, rfl⟩
      have sg32 : own_G p e below T28 (mkF m 32 #[.val (.ref a1), .val (.int p1), .val (.int t9)] [(.int t31), (.ref vb), (.ref a1)]) T28 (mkF m 31 #[.val (.ref a1), .val (.int p1), .val (.int t9)] [(.int (0 : Int32)), (.int c24), (.ref vb), (.ref a1)]) := by
        intro t k
        rw [ht31] at k
        refine XS.ishl X28.here hx rfl (hb hby d14_31) rfl ?_
        exact k
      refine own_by sg32 ?_
      have nt_t31 : t31 = Int32.ofNat (M24) := ht31.trans ((own_nshl0 _).trans hc24)
      obtain ⟨_, _, ⟨T32, L32, k32, n32⟩, -, X32, ⟨Lc32, hQ32, l32, y32, z32⟩, st32⟩ := Jvm.LawKit.callS X28 hx (y := own_n5) hown (mvT hZ (own_w hw 138 rfl)) (mvT hZ (own_w hw 139 rfl)) (mvT hZ (own_w hw 140 rfl)) (mvT hZ (own_w hw 141 rfl)) (by decide) (backOf (W := 1) (rm27 l Z a0 hw [] vb t31 kb N (M24) (own_c0 cs) h0 n0 Z0 A_v nt_t31 (by omega) (by omega) (by omega)) hZ (own_w hw 141 rfl) (own_w hw 140 rfl) (by decide) (by decide)) (g := (mkF m 32 #[.val (.ref a1), .val (.int p1), .val (.int t9)] [(.int t31), (.ref vb), (.ref a1)])) rfl (by rw [hml]; rfl) (argsL := [(.ref vb), (.int t31)]) (rest := [(.ref a1)]) (lenOf pd_14_1 rfl) rfl (Nat.le_of_eq rfl) (hb hby d14_32) (fun _ _ => ⟨rfl, e28, (by decide : 0 + 1 ≤ _), (by decide : 0 + 86 ≤ _)⟩)
      dsimp only [Pt.U, Pt.locs, Pt.cells, Pt.slots] at X32 l32 y32 z32 st32 hQ32
      subst l32 y32 z32
      obtain ⟨r32, kr32, rfl, ge32, N32q, Kq32, Eq32, Aq32⟩ := hQ32
      have N32 := Fr.app N24 N32q
      have ne_a1_r32 : a1 ≠ r32 := Nat.ne_of_lt (Nat.lt_of_lt_of_le E_b.lt ge32)
      have ne_vb_r32 : vb ≠ r32 := Nat.ne_of_lt (Nat.lt_of_lt_of_le E_v.lt ge32)
      have g_r32 : n0 ≤ r32 := Nat.le_trans Z0 ge32
      have sz_r32 : h0.size ≤ r32 := Nat.le_trans K0.1 ge32
      have K32 : Keep h0 T32.heap [a1] := K0.trans Kq32 (fun x hx => nomatch hx)
      have Z32 : n0 ≤ T32.heap.size := Nat.le_trans Z0 Kq32.1
      refine own_by st32 ?_
      obtain ⟨T35, h35, X35, e35, W35, st35⟩ := putF X32 hx hZ hown (host := "") (Or.inl (own_w hw 59 rfl)) Via.refl rfl (F_v.keep Kq32 List.not_mem_nil) (E_b.keep Kq32) (Or.inl (own_w hw 60 rfl)) (own_w hw 36 rfl) (ty := (.array .byte)) (by decide) rfl rfl (g := (mkF m 35 #[.val (.ref a1), .val (.int p1), .val (.int t9)] [(.ref r32), (.ref a1)])) rfl rfl (hb hby d14_35)
      have Fw35 := (F_v.keep Kq32 List.not_mem_nil).same W35
      have fc := ((F_c.keep Kq32 List.not_mem_nil).other W35 (Or.inr (slot_ne (Or.inl (own_w hw 62 rfl)) (Or.inl (own_w hw 60 rfl)) (by decide) (t := .byte) (t' := (.array .byte)) (by decide) (by decide))))
      have fc_2 := ((F_m.keep Kq32 List.not_mem_nil).other W35 (Or.inr (slot_ne (Or.inl (own_w hw 279 rfl)) (Or.inl (own_w hw 60 rfl)) (by decide) (t := .boolean) (t' := (.array .byte)) (by decide) (by decide))))
      have fc_3 := ((F_n.keep Kq32 List.not_mem_nil).other W35 (Or.inr (slot_ne (Or.inl (own_w hw 74 rfl)) (Or.inl (own_w hw 60 rfl)) (by decide) (t := .int) (t' := (.array .byte)) (by decide) (by decide))))
      have K35 : Keep h0 h35 [a1] := K32.wr W35 (Or.inl (List.mem_of_getElem? (i := 0) rfl))
      have Z35 : n0 ≤ h35.size := Nat.le_trans Z32 (Keep.of_wr W35).1
      have N35 := Fr.snoc X35 N32 g_a1
      refine own_by st35 ?_
      obtain ⟨fs, hr, hrun, hended, hW, hsame⟩ := X35.leave (v := none) (fun _ => rfl)
      refine ⟨_, _, ?_, hrun, hended, _, _, rfl, ?_, ⟨_, rfl⟩, hW, hsame.mono (by decide) (by decide)⟩
      · exact X35.returnOut hx Bd.returns (hb hby d14_38) hr
      · show Q14 Z a1 p1 vb kb N (0 : Int32) cs k h0 n0 _ T35.heap _
        rw [e35]
        exact ⟨rfl, N35, K35, r32, _, M24, Or.inr sz_r32, ⟨((E_b.keep Kq32).wr W35), Fw35, fc, fc_2, (by rw [← hcn]; exact fc_3), (Eq32.wr W35), (by rw [own_cod0]; exact (Aq32.other W35 (Ne.symm ne_a1_r32)))⟩, ⟨(fun _ => ⟨by omega, by omega⟩), (fun q => absurd q (by decide))⟩⟩
    · have hpo : k ≤ N := own_nnpos hp1 nt_t9 (by omega) (by omega) hc14
      have sg38 : own_G p e below T6 (mkF m 38 #[.val (.ref a1), .val (.int p1), .val (.int t9)] []) T6 (mkF m 14 #[.val (.ref a1), .val (.int p1), .val (.int t9)] [(.int (p1 - t9))]) := by
        intro t k
        refine XS.ifYes X6.here hx rfl (pc0 := 14) (pc' := 38) rfl (hb hby d14_14) rfl ((if0 _ _).trans (flt hc14).2.2.2) (by decide) (by decide) ?_
        exact k
      refine own_by sg38 ?_
      obtain ⟨fs, hr, hrun, hended, hW, hsame⟩ := X6.leave (v := none) (fun _ => rfl)
      refine ⟨_, _, ?_, hrun, hended, _, _, rfl, ?_, ⟨_, rfl⟩, hW, hsame.mono (by decide) (by decide)⟩
      · exact X6.returnOut hx Bd.returns (hb hby d14_38) hr
      · show Q14 Z a1 p1 vb kb N (0 : Int32) cs k h0 n0 _ T6.heap _
        rw [e6]
        exact ⟨rfl, N0, K0, vb, _, N, Or.inl rfl, ⟨E_b, F_v, F_c, F_m, (by rw [← hcn]; exact F_n), E_v, (by rw [own_cod0]; exact A_v)⟩, ⟨(fun _ => ⟨by omega, by omega⟩), (fun q => absurd q (by decide))⟩⟩
  · skip
    have hc_ := hcap.2 rfl
    rw [own_cod1] at A_v
    have hvl_ := own_c1_len cs
    have sg1 : own_G p e below s₁ (mkF m 1 #[.val (.ref a1), .val (.int p1), .unset] [(.ref a1)]) s₁ (mkF m 0 #[.val (.ref a1), .val (.int p1), .unset] []) := by
      intro t k
      refine XS.aloadN X0.here hx rfl (hb hby d14_0) rfl rfl ?_
      exact k
    refine own_by sg1 ?_
    obtain ⟨T1, X1, e1, st1⟩ := getF X0 hx hZ hown (host := "") (Or.inl (own_w hw 59 rfl)) Via.refl e0 F_v (g := (mkF m 1 #[.val (.ref a1), .val (.int p1), .unset] [(.ref a1)])) rfl rfl (hb hby d14_1)
    refine own_by st1 ?_
    obtain ⟨cl4, Ar4, qa4, Sa4, Na4, Ha4, Ga4⟩ := id A_v
    obtain ⟨t4, ht4⟩ : ∃ z : Int32, z = (Int32.ofNat (N)) := ⟨_, rfl⟩
    have sg5 : own_G p e below T1 (mkF m 5 #[.val (.ref a1), .val (.int p1), .unset] [(.int t4)]) T1 (mkF m 4 #[.val (.ref a1), .val (.int p1), .unset] [(.ref vb)]) := by
      intro t k
      rw [ht4] at k
      refine X1.arraylength hx (by rw [e1]; exact Ar4.1) (State.isArrayOf_alike hZ.alike Ar4.2.1) (g := (mkF m 4 #[.val (.ref a1), .val (.int p1), .unset] [(.ref vb)])) rfl rfl (hb hby d14_4) _ ?_
      rw [len_of Sa4 Na4]
      exact k
    refine own_by sg5 ?_
    have nt_t4 : t4 = Int32.ofNat (N) := ht4
    have sg6 : own_G p e below T1 (mkF m 6 #[.val (.ref a1), .val (.int p1), .unset] [(.ref a1), (.int t4)]) T1 (mkF m 5 #[.val (.ref a1), .val (.int p1), .unset] [(.int t4)]) := by
      intro t k
      refine XS.aloadN X1.here hx rfl (hb hby d14_5) rfl rfl ?_
      exact k
    refine own_by sg6 ?_
    obtain ⟨T6, X6, e6, st6⟩ := getF X1 hx hZ hown (host := "") (Or.inl (own_w hw 61 rfl)) Via.refl e1 F_c (g := (mkF m 6 #[.val (.ref a1), .val (.int p1), .unset] [(.ref a1), (.int t4)])) rfl rfl (hb hby d14_6)
    refine own_by st6 ?_
    obtain ⟨t9, ht9⟩ : ∃ z : Int32, z = (t4 >>> ((1 : Int32) &&& 31)) := ⟨_, rfl⟩
    have sg10 : own_G p e below T6 (mkF m 10 #[.val (.ref a1), .val (.int p1), .unset] [(.int t9)]) T6 (mkF m 9 #[.val (.ref a1), .val (.int p1), .unset] [(.int (1 : Int32)), (.int t4)]) := by
      intro t k
      rw [ht9] at k
      refine XS.ishr X6.here hx rfl (hb hby d14_9) rfl ?_
      exact k
    refine own_by sg10 ?_
    have nt_t9 : t9 = Int32.ofNat ((N) / 2) := ht9.trans (own_nshr1 nt_t4 (by omega))
    have sg14 : own_G p e below T6 (mkF m 14 #[.val (.ref a1), .val (.int p1), .val (.int t9)] [(.int (p1 - t9))]) T6 (mkF m 10 #[.val (.ref a1), .val (.int p1), .unset] [(.int t9)]) := by
      intro t k
      refine XS.istoreN X6.here hx rfl (hb hby d14_10) rfl (l' := #[.val (.ref a1), .val (.int p1), .val (.int t9)]) rfl ?_
      refine XS.iloadN X6.here hx rfl (hb hby d14_11) rfl ?_
      refine XS.iloadN X6.here hx rfl (hb hby d14_12) rfl ?_
      refine XS.isub X6.here hx rfl (hb hby d14_13) rfl ?_
      exact k
    refine own_by sg14 ?_
    by_cases hc14 : (0 : Int32) < (p1 - t9)
    · have hpo : (N) / 2 < k := own_npos hp1 nt_t9 (by omega) (by omega) hc14
      have sg19 : own_G p e below T6 (mkF m 19 #[.val (.ref a1), .val (.int p1), .val (.int t9)] [(.ref a1), (.ref a1)]) T6 (mkF m 14 #[.val (.ref a1), .val (.int p1), .val (.int t9)] [(.int (p1 - t9))]) := by
        intro t k
        refine XS.ifNo X6.here hx rfl (hb hby d14_14) rfl ((if0 _ _).trans (tlt hc14).2.2.2) ?_
        refine XS.aloadN X6.here hx rfl (hb hby d14_17) rfl rfl ?_
        refine XS.aloadN X6.here hx rfl (hb hby d14_18) rfl rfl ?_
        exact k
      refine own_by sg19 ?_
      obtain ⟨T19, X19, e19, st19⟩ := getF X6 hx hZ hown (host := "") (Or.inl (own_w hw 59 rfl)) Via.refl e6 F_v (g := (mkF m 19 #[.val (.ref a1), .val (.int p1), .val (.int t9)] [(.ref a1), (.ref a1)])) rfl rfl (hb hby d14_19)
      refine own_by st19 ?_
      have sg24 : own_G p e below T19 (mkF m 24 #[.val (.ref a1), .val (.int p1), .val (.int t9)] [(.int p1), (.ref a1), (.ref vb), (.ref a1)]) T19 (mkF m 22 #[.val (.ref a1), .val (.int p1), .val (.int t9)] [(.ref vb), (.ref a1)]) := by
        intro t k
        refine XS.aloadN X19.here hx rfl (hb hby d14_22) rfl rfl ?_
        refine XS.iloadN X19.here hx rfl (hb hby d14_23) rfl ?_
        exact k
      refine own_by sg24 ?_
      obtain ⟨cq24, q24, q24'⟩ := E_b.cell
      obtain ⟨_, _, ⟨T24, L24, k24, n24⟩, -, X24, ⟨Lc24, hQ24, l24, y24, z24⟩, st24⟩ := X19.privateBack hx (y := own_n3) hown (mvT hZ (own_w hw 123 rfl)) (mvT hZ (own_w hw 124 rfl)) (own_selp (z := own_n4) (Cond.privateMethod_at (mvP hZ (own_w hw 125 rfl) (args := #[]))) (mvT hZ (own_w hw 124 rfl)) (mvT hZ (own_w hw 78 rfl)) rfl (by decide)) (Cond.privateMethod_at (mvP hZ (own_w hw 125 rfl) (args := #[]))) (mvT hZ (own_w hw 127 rfl)) (by decide) (backOf (W := 2) (rm24 l Z a0 hw [] a1 p1 vb kb N (1 : Int32) (own_c1 cs) k h0 n0 Z0 (Or.inr rfl) hp1 F_v F_c A_v (by omega) (fun q => absurd q (by decide)) (fun _ => by omega) (by omega)) hZ (own_w hw 127 rfl) (own_w hw 55 rfl) (by decide) (by decide)) (g := (mkF m 24 #[.val (.ref a1), .val (.int p1), .val (.int t9)] [(.int p1), (.ref a1), (.ref vb), (.ref a1)])) rfl (by rw [hml]; rfl) (Steps.refl _) (a := a1) (by rw [e19]; exact q24) q24' (argsL := [(.int p1)]) (rest := [(.ref vb), (.ref a1)]) (lenOf pd_14_0 rfl) rfl (Nat.le_of_eq rfl) (hb hby d14_24) (fun _ _ => ⟨rfl, e19, (by decide : 0 + 0 ≤ _), (by decide : 0 + 0 ≤ _)⟩)
      dsimp only [Pt.U, Pt.locs, Pt.cells, Pt.slots] at X24 l24 y24 z24 st24 hQ24
      subst l24 y24 z24
      obtain ⟨M24, rfl, N24q, hq24, mk24, ml024, ml124⟩ := hQ24
      have N24 := Fr.app N0 N24q
      have ml24 := ml124 rfl
      obtain ⟨c24, hc24⟩ : ∃ z : Int32, z = Int32.ofNat M24 := ⟨_, rfl⟩
      rw [← hc24] at st24
      refine own_by (fun t k => st24.trans k) ?_
      have sg28 : own_G p e below T24 (mkF m 28 #[.val (.ref a1), .val (.int p1), .val (.int t9)] [(.ref a1), (.int c24), (.ref vb), (.ref a1)]) T24 (mkF m 27 #[.val (.ref a1), .val (.int p1), .val (.int t9)] [(.int c24), (.ref vb), (.ref a1)]) := by
        intro t k
        refine XS.aloadN X24.here hx rfl (hb hby d14_27) rfl rfl ?_
        exact k
      refine own_by sg28 ?_
      obtain ⟨T28, X28, e28, st28⟩ := getF X24 hx hZ hown (host := "") (Or.inl (own_w hw 61 rfl)) Via.refl hq24 F_c (g := (mkF m 28 #[.val (.ref a1), .val (.int p1), .val (.int t9)] [(.ref a1), (.int c24), (.ref vb), (.ref a1)])) rfl rfl (hb hby d14_28)
      refine own_by st28 ?_
      obtain ⟨t31, ht31⟩ : ∃ z : Int32, z = (c24 <<< ((1 : Int32) &&& 31)) := ⟨_, rfl⟩
      have sg32 : own_G p e below T28 (mkF m 32 #[.val (.ref a1), .val (.int p1), .val (.int t9)] [(.int t31), (.ref vb), (.ref a1)]) T28 (mkF m 31 #[.val (.ref a1), .val (.int p1), .val (.int t9)] [(.int (1 : Int32)), (.int c24), (.ref vb), (.ref a1)]) := by
        intro t k
        rw [ht31] at k
        refine XS.ishl X28.here hx rfl (hb hby d14_31) rfl ?_
        exact k
      refine own_by sg32 ?_
      have nt_t31 : t31 = Int32.ofNat (2 * (M24)) := ht31.trans (own_nshl1 hc24)
      obtain ⟨_, _, ⟨T32, L32, k32, n32⟩, -, X32, ⟨Lc32, hQ32, l32, y32, z32⟩, st32⟩ := Jvm.LawKit.callS X28 hx (y := own_n5) hown (mvT hZ (own_w hw 138 rfl)) (mvT hZ (own_w hw 139 rfl)) (mvT hZ (own_w hw 140 rfl)) (mvT hZ (own_w hw 141 rfl)) (by decide) (backOf (W := 1) (rm27 l Z a0 hw [] vb t31 kb N (2 * (M24)) (own_c1 cs) h0 n0 Z0 A_v nt_t31 (by omega) (by omega) (by omega)) hZ (own_w hw 141 rfl) (own_w hw 140 rfl) (by decide) (by decide)) (g := (mkF m 32 #[.val (.ref a1), .val (.int p1), .val (.int t9)] [(.int t31), (.ref vb), (.ref a1)])) rfl (by rw [hml]; rfl) (argsL := [(.ref vb), (.int t31)]) (rest := [(.ref a1)]) (lenOf pd_14_1 rfl) rfl (Nat.le_of_eq rfl) (hb hby d14_32) (fun _ _ => ⟨rfl, e28, (by decide : 0 + 1 ≤ _), (by decide : 0 + 86 ≤ _)⟩)
      dsimp only [Pt.U, Pt.locs, Pt.cells, Pt.slots] at X32 l32 y32 z32 st32 hQ32
      subst l32 y32 z32
      obtain ⟨r32, kr32, rfl, ge32, N32q, Kq32, Eq32, Aq32⟩ := hQ32
      have N32 := Fr.app N24 N32q
      have ne_a1_r32 : a1 ≠ r32 := Nat.ne_of_lt (Nat.lt_of_lt_of_le E_b.lt ge32)
      have ne_vb_r32 : vb ≠ r32 := Nat.ne_of_lt (Nat.lt_of_lt_of_le E_v.lt ge32)
      have g_r32 : n0 ≤ r32 := Nat.le_trans Z0 ge32
      have sz_r32 : h0.size ≤ r32 := Nat.le_trans K0.1 ge32
      have K32 : Keep h0 T32.heap [a1] := K0.trans Kq32 (fun x hx => nomatch hx)
      have Z32 : n0 ≤ T32.heap.size := Nat.le_trans Z0 Kq32.1
      refine own_by st32 ?_
      obtain ⟨T35, h35, X35, e35, W35, st35⟩ := putF X32 hx hZ hown (host := "") (Or.inl (own_w hw 59 rfl)) Via.refl rfl (F_v.keep Kq32 List.not_mem_nil) (E_b.keep Kq32) (Or.inl (own_w hw 60 rfl)) (own_w hw 36 rfl) (ty := (.array .byte)) (by decide) rfl rfl (g := (mkF m 35 #[.val (.ref a1), .val (.int p1), .val (.int t9)] [(.ref r32), (.ref a1)])) rfl rfl (hb hby d14_35)
      have Fw35 := (F_v.keep Kq32 List.not_mem_nil).same W35
      have fc := ((F_c.keep Kq32 List.not_mem_nil).other W35 (Or.inr (slot_ne (Or.inl (own_w hw 62 rfl)) (Or.inl (own_w hw 60 rfl)) (by decide) (t := .byte) (t' := (.array .byte)) (by decide) (by decide))))
      have fc_2 := ((F_m.keep Kq32 List.not_mem_nil).other W35 (Or.inr (slot_ne (Or.inl (own_w hw 279 rfl)) (Or.inl (own_w hw 60 rfl)) (by decide) (t := .boolean) (t' := (.array .byte)) (by decide) (by decide))))
      have fc_3 := ((F_n.keep Kq32 List.not_mem_nil).other W35 (Or.inr (slot_ne (Or.inl (own_w hw 74 rfl)) (Or.inl (own_w hw 60 rfl)) (by decide) (t := .int) (t' := (.array .byte)) (by decide) (by decide))))
      have K35 : Keep h0 h35 [a1] := K32.wr W35 (Or.inl (List.mem_of_getElem? (i := 0) rfl))
      have Z35 : n0 ≤ h35.size := Nat.le_trans Z32 (Keep.of_wr W35).1
      have N35 := Fr.snoc X35 N32 g_a1
      refine own_by st35 ?_
      obtain ⟨fs, hr, hrun, hended, hW, hsame⟩ := X35.leave (v := none) (fun _ => rfl)
      refine ⟨_, _, ?_, hrun, hended, _, _, rfl, ?_, ⟨_, rfl⟩, hW, hsame.mono (by decide) (by decide)⟩
      · exact X35.returnOut hx Bd.returns (hb hby d14_38) hr
      · show Q14 Z a1 p1 vb kb N (1 : Int32) cs k h0 n0 _ T35.heap _
        rw [e35]
        exact ⟨rfl, N35, K35, r32, _, 2 * (M24), Or.inr sz_r32, ⟨((E_b.keep Kq32).wr W35), Fw35, fc, fc_2, (by rw [← hcn]; exact fc_3), (Eq32.wr W35), (by rw [own_cod1]; exact (Aq32.other W35 (Ne.symm ne_a1_r32)))⟩, ⟨(fun q => absurd q (by decide)), (fun _ => ⟨by omega, by omega⟩)⟩⟩
    · have hpo : k ≤ (N) / 2 := own_nnpos hp1 nt_t9 (by omega) (by omega) hc14
      have sg38 : own_G p e below T6 (mkF m 38 #[.val (.ref a1), .val (.int p1), .val (.int t9)] []) T6 (mkF m 14 #[.val (.ref a1), .val (.int p1), .val (.int t9)] [(.int (p1 - t9))]) := by
        intro t k
        refine XS.ifYes X6.here hx rfl (pc0 := 14) (pc' := 38) rfl (hb hby d14_14) rfl ((if0 _ _).trans (flt hc14).2.2.2) (by decide) (by decide) ?_
        exact k
      refine own_by sg38 ?_
      obtain ⟨fs, hr, hrun, hended, hW, hsame⟩ := X6.leave (v := none) (fun _ => rfl)
      refine ⟨_, _, ?_, hrun, hended, _, _, rfl, ?_, ⟨_, rfl⟩, hW, hsame.mono (by decide) (by decide)⟩
      · exact X6.returnOut hx Bd.returns (hb hby d14_38) hr
      · show Q14 Z a1 p1 vb kb N (1 : Int32) cs k h0 n0 _ T6.heap _
        rw [e6]
        exact ⟨rfl, N0, K0, vb, _, N, Or.inl rfl, ⟨E_b, F_v, F_c, F_m, (by rw [← hcn]; exact F_n), E_v, (by rw [own_cod1]; exact A_v)⟩, ⟨(fun q => absurd q (by decide)), (fun _ => ⟨by omega, by omega⟩)⟩⟩
abbrev own_b46 := jdk_52_method_3_code
theorem d46_0 : decode own_b46 0 = .ok (.iload_n 0, 1) := by decide +kernel
theorem d46_1 : decode own_b46 1 = .ok (.ifCond .ge 11, 3) := by decide +kernel
theorem d46_12 : decode own_b46 12 = .ok (.iload_n 0, 1) := by decide +kernel
theorem d46_13 : decode own_b46 13 = .ok (.ldc 20, 2) := by decide +kernel
theorem d46_15 : decode own_b46 15 = .ok (.if_icmp .lt 40, 3) := by decide +kernel
theorem d46_55 : decode own_b46 55 = .ok (.iload_n 0, 1) := by decide +kernel
theorem d46_56 : decode own_b46 56 = .ok (.iconst 1, 1) := by decide +kernel
theorem d46_57 : decode own_b46 57 = .ok (.ishl, 1) := by decide +kernel
theorem d46_58 : decode own_b46 58 = .ok (.ireturn, 1) := by decide +kernel
theorem pn_46 : plainFor (⟨"java/lang/StringUTF16", "newBytesLength", "(I)I"⟩ : MethodName) = true := by first | exact plainFor_of_name (by first | (simp [plainName, overriddenIn]; done) | decide +kernel) | decide +kernel | exact Jvm.Free.JP.mathPlain rfl (by decide +kernel)
theorem ef_46 (m : MethodId) (p0 : Int32) : entryFrame m #[(.int p0)] 1 = mkF m 0 #[.val (.int p0)] [] := by first | (simp [entryFrame, mkF, argsToLocals, Value.category]; done) | rfl
abbrev own_r46 : Room := { frames := 0, cells := 0, slots := 0, locals := 0 }
def Q46 (Z : State) (p0 : Int32) (mm : Nat) (h0 : Heap) (n0 : Nat) (v : Option Value) (h : Heap) (L : List Loc) : Prop := v = some (.int (Int32.ofNat (2 * mm))) ∧ Fr n0 L ∧ h = h0
theorem rm46 (l : Launch) (Z : State) (a0 : Array Value) (hw : ∀ d ∈ tables_1, d.before a0 Z = true) (ws : List Jvm.Cond) (p0 : Int32) (mm : Nat) (h0 : Heap) (n0 : Nat) (Z0 : n0 ≤ h0.size) (hp0 : p0 = Int32.ofNat mm) (hm : mm ≤ 1000) :
    MetFree l own_n6 (head1 (Jvm.Cond.code own_n6 jdk_52_method_3_code 1 (some .int) :: ws) own_r46) (fun a U => a = #[(.int p0)] ∧ Z.Warmed39 U.vm ∧ U.heap = h0) (fun _ _ _ _ _ => True) (fun _ U o U' => ∃ v L, o = .returned v ∧ Q46 Z p0 mm h0 n0 v U'.heap L ∧ FrameEnd U o U' L own_r46.cells own_r46.slots) := by
  refine MetFree.of_bodySF pn_46 hisR ?_
  intro p e s m args below meth c s₁ Bd hml0 hP hK
  obtain ⟨rfl, hZ, hh⟩ := hP
  have hx := Bd.exec
  have hby := Bd.bytes
  have hml : c.maxLocals = 1 := hml0
  have hown : s.vm.findClass "java/lang/StringUTF16" = some m.cls := findClass_of_methodNamed Bd.named
  have hnm := (name_of_methodNamed Bd.named Bd.method).1
  have X0 : Stand p l e own_r46 s m #[(.int p0)] below meth c s₁ [] 0 0 := Stand.of_body Bd
  have e0 : s₁.heap = h0 := by rw [← hh, Bd.state]; rfl
  have N0 := Fr.nil n0
  refine own_at (castTop (ef_46 m p0)) ?_
  have K0 := Keep.refl h0 []
  obtain ⟨t57, ht57⟩ : ∃ z : Int32, z = (p0 <<< ((1 : Int32) &&& 31)) := ⟨_, rfl⟩
  have sg58 : own_G p e below s₁ (mkF m 58 #[.val (.int p0)] [(.int t57)]) s₁ (mkF m 0 #[.val (.int p0)] []) := by
    intro t k
    rw [ht57] at k
    refine XS.iloadN X0.here hx rfl (hb hby d46_0) rfl ?_
    refine XS.ifYes X0.here hx rfl (pc0 := 1) (pc' := 12) rfl (hb hby d46_1) rfl ((if0 _ _).trans (flt ((not_congr (own_nlt (n := 0) hp0 (rfl : (0 : Int32) = Int32.ofNat 0) (by omega) (by decide))).mpr (by omega) : ¬ (p0 < (0 : Int32)))).2.1) (by decide) (by decide) ?_
    refine XS.iloadN X0.here hx rfl (hb hby d46_12) rfl ?_
    refine X0.ldcInt hx hown (mvT hZ (own_w hw 234 rfl)) (g := (mkF m 13 #[.val (.int p0)] [(.int p0)])) rfl (hb hby d46_13) _ ?_
    refine XS.icmpYes X0.here hx rfl (pc0 := 15) (pc' := 55) rfl (hb hby d46_15) rfl (tlt ((own_nlt (n := 1073741823) hp0 (rfl : (1073741823 : Int32) = Int32.ofNat 1073741823) (by omega) (by decide)).mpr (by omega) : p0 < (1073741823 : Int32))).1 (by decide) (by decide) ?_
    refine XS.iloadN X0.here hx rfl (hb hby d46_55) rfl ?_
    refine XS.iconst X0.here hx rfl (hb hby d46_56) ?_
    refine XS.ishl X0.here hx rfl (hb hby d46_57) rfl ?_
    exact k
  refine own_by sg58 ?_
  have nt_t57 : t57 = Int32.ofNat (2 * (mm)) := ht57.trans (own_nshl1 hp0)
  obtain ⟨fs, hr, hrun, hended, hW, hsame⟩ := X0.leave (v := some (.int t57)) (fun h => by rw [Bd.returns] at h; cases h)
  refine ⟨_, _, ?_, hrun, hended, _, _, rfl, ?_, ⟨_, rfl⟩, hW, hsame.mono (by decide) (by decide)⟩
  · exact retI X0 hx Bd.returns (hb hby d46_58) hr
  · show Q46 Z p0 mm h0 n0 _ s₁.heap _
    rw [e0]
    exact ⟨by rw [nt_t57], N0, rfl⟩
abbrev own_b45 := jdk_52_method_2_code
theorem d45_0 : decode own_b45 0 = .ok (.iload_n 0, 1) := by decide +kernel
theorem d45_1 : decode own_b45 1 = .ok (.invokestatic 11, 3) := by decide +kernel
theorem d45_4 : decode own_b45 4 = .ok (.newarray .byte, 2) := by decide +kernel
theorem d45_6 : decode own_b45 6 = .ok (.areturn, 1) := by decide +kernel
theorem pn_45 : plainFor (⟨"java/lang/StringUTF16", "newBytesFor", "(I)[B"⟩ : MethodName) = true := by first | exact plainFor_of_name (by first | (simp [plainName, overriddenIn]; done) | decide +kernel) | decide +kernel | exact Jvm.Free.JP.mathPlain rfl (by decide +kernel)
theorem pd_45_0 : parseMethodDescriptor "(I)I" = some ⟨[.int], some .int⟩ := by decide +kernel
theorem ef_45 (m : MethodId) (p0 : Int32) : entryFrame m #[(.int p0)] 1 = mkF m 0 #[.val (.int p0)] [] := by first | (simp [entryFrame, mkF, argsToLocals, Value.category]; done) | rfl
abbrev own_r45 : Room := { frames := 1, cells := 1, slots := 84, locals := 12 }
def Q45 (Z : State) (p0 : Int32) (mm : Nat) (h0 : Heap) (n0 : Nat) (v : Option Value) (h : Heap) (L : List Loc) : Prop := ∃ r kr, v = some (.ref r) ∧ h0.size ≤ r ∧ Fr n0 L ∧ Keep h0 h [] ∧ Exa Z h r "[B" ∧ Arv Z h r kr .byte (Int32.ofNat (2 * mm)) [] (.int (0 : Int32))
theorem rm45 (l : Launch) (Z : State) (a0 : Array Value) (hw : ∀ d ∈ tables_1, d.before a0 Z = true) (ws : List Jvm.Cond) (p0 : Int32) (mm : Nat) (h0 : Heap) (n0 : Nat) (Z0 : n0 ≤ h0.size) (hp0 : p0 = Int32.ofNat mm) (hm : mm ≤ 42) :
    MetFree l own_n17 (head1 (Jvm.Cond.code own_n17 jdk_52_method_2_code 1 (some (.array .byte)) :: ws) own_r45) (fun a U => a = #[(.int p0)] ∧ Z.Warmed39 U.vm ∧ U.heap = h0) (fun _ _ _ _ _ => True) (fun _ U o U' => ∃ v L, o = .returned v ∧ Q45 Z p0 mm h0 n0 v U'.heap L ∧ FrameEnd U o U' L own_r45.cells own_r45.slots) := by
  refine MetFree.of_bodySF pn_45 hisR ?_
  intro p e s m args below meth c s₁ Bd hml0 hP hK
  obtain ⟨rfl, hZ, hh⟩ := hP
  have hx := Bd.exec
  have hby := Bd.bytes
  have hml : c.maxLocals = 1 := hml0
  have hown : s.vm.findClass "java/lang/StringUTF16" = some m.cls := findClass_of_methodNamed Bd.named
  have hnm := (name_of_methodNamed Bd.named Bd.method).1
  have X0 : Stand p l e own_r45 s m #[(.int p0)] below meth c s₁ [] 0 0 := Stand.of_body Bd
  have e0 : s₁.heap = h0 := by rw [← hh, Bd.state]; rfl
  have N0 := Fr.nil n0
  refine own_at (castTop (ef_45 m p0)) ?_
  have K0 := Keep.refl h0 []
  have sg1 : own_G p e below s₁ (mkF m 1 #[.val (.int p0)] [(.int p0)]) s₁ (mkF m 0 #[.val (.int p0)] []) := by
    intro t k
    refine XS.iloadN X0.here hx rfl (hb hby d45_0) rfl ?_
    exact k
  refine own_by sg1 ?_
  obtain ⟨_, _, ⟨T1, L1, k1, n1⟩, -, X1, ⟨Lc1, hQ1, l1, y1, z1⟩, st1⟩ := Jvm.LawKit.callS X0 hx (y := own_n6) hown (mvT hZ (own_w hw 231 rfl)) (mvT hZ (own_w hw 232 rfl)) (mvT hZ (own_w hw 18 rfl)) (mvT hZ (own_w hw 233 rfl)) (by decide) (backOf (W := 0) (rm46 l Z a0 hw [] p0 mm h0 n0 Z0 hp0 (by omega)) hZ (own_w hw 233 rfl) (own_w hw 18 rfl) (by decide) (by decide)) (g := (mkF m 1 #[.val (.int p0)] [(.int p0)])) rfl (by rw [hml]; rfl) (argsL := [(.int p0)]) (rest := []) (lenOf pd_45_0 rfl) rfl (Nat.le_of_eq rfl) (hb hby d45_1) (fun _ _ => ⟨rfl, e0, (by decide : 0 + 0 ≤ _), (by decide : 0 + 0 ≤ _)⟩)
  dsimp only [Pt.U, Pt.locs, Pt.cells, Pt.slots] at X1 l1 y1 z1 st1 hQ1
  subst l1 y1 z1
  obtain ⟨rfl, N1q, hq1⟩ := hQ1
  have N1 := Fr.app N0 N1q
  obtain ⟨c1, hc1⟩ : ∃ z : Int32, z = (Int32.ofNat (2 * mm)) := ⟨_, rfl⟩
  rw [← hc1] at st1
  have nt_c1 : c1 = Int32.ofNat (2 * mm) := hc1
  refine own_by st1 ?_
  obtain ⟨T4, h4, kc4, X4, e4, E4, A4, Ex4, st4⟩ := newPE X1 hx hZ (own_w hw 20 rfl) hq1 (g := (mkF m 4 #[.val (.int p0)] [(.int c1)])) rfl (hb hby d45_4) rfl (own_nge nt_c1 (by omega)) (cap := 84) (by rw [own_ntc nt_c1 (by omega)]; omega) (by decide) (by decide) (by decide) (ad := "[B") (by decide)
  obtain ⟨b4, g4⟩ : ∃ z, z = h0.size := ⟨_, rfl⟩
  rw [← g4] at A4 st4 Ex4
  have g_b4 : n0 ≤ b4 := Nat.le_trans Z0 (Nat.le_of_eq g4.symm)
  have sz_b4 : h0.size ≤ b4 := Nat.le_trans K0.1 (Nat.le_of_eq g4.symm)
  have K4 := K0.ext E4
  have Z4 : n0 ≤ h4.size := Nat.le_trans Z0 E4.1
  have V4 : Arv Z h4 b4 kc4 .byte (Int32.ofNat (2 * mm)) [] (.int (0 : Int32)) := by have q := Arv.new A4 (own_nge nt_c1 (by omega)); rw [nt_c1] at q; exact q
  refine own_by st4 ?_
  obtain ⟨fs, hr, hrun, hended, hW, hsame⟩ := X4.leave (v := some (.ref b4)) (fun h => by rw [Bd.returns] at h; cases h)
  refine ⟨_, _, ?_, hrun, hended, _, _, rfl, ?_, ⟨_, rfl⟩, hW, hsame.mono (by decide) (by decide)⟩
  · show Steps p.tables e below (T4.setTop (mkF m 6 #[.val (.int p0)] [(.ref b4)])) _
    jvm_step X4.here [X4.here.top, hx, (hb hby d45_6), X4.method', Bd.returns, Value.isRef, FieldType.isReference]
    first | (intro acts; rw [hr _ acts rfl rfl rfl]) | rw [hr _ _ rfl rfl rfl]
    exact Steps.refl _
  · show Q45 Z p0 mm h0 n0 _ T4.heap _
    rw [e4]
    exact ⟨_, _, rfl, sz_b4, N1, K4, Ex4, V4⟩
abbrev own_b47 := jdk_52_method_4_code
theorem d47_0 : decode own_b47 0 = .ok (.getstatic 44, 3) := by decide +kernel
theorem d47_3 : decode own_b47 3 = .ok (.ifCond .ne 25, 3) := by decide +kernel
theorem d47_28 : decode own_b47 28 = .ok (.iload_n 1, 1) := by decide +kernel
theorem d47_29 : decode own_b47 29 = .ok (.iconst 1, 1) := by decide +kernel
theorem d47_30 : decode own_b47 30 = .ok (.ishl, 1) := by decide +kernel
theorem d47_31 : decode own_b47 31 = .ok (.istore_n 1, 1) := by decide +kernel
theorem d47_32 : decode own_b47 32 = .ok (.aload_n 0, 1) := by decide +kernel
theorem d47_33 : decode own_b47 33 = .ok (.iload_n 1, 1) := by decide +kernel
theorem d47_34 : decode own_b47 34 = .ok (.iinc 1 1, 3) := by decide +kernel
theorem d47_37 : decode own_b47 37 = .ok (.iload_n 2, 1) := by decide +kernel
theorem d47_38 : decode own_b47 38 = .ok (.getstatic 59, 3) := by decide +kernel
theorem d47_41 : decode own_b47 41 = .ok (.ishr, 1) := by decide +kernel
theorem d47_42 : decode own_b47 42 = .ok (.i2b, 1) := by decide +kernel
theorem d47_43 : decode own_b47 43 = .ok (.bastore, 1) := by decide +kernel
theorem d47_44 : decode own_b47 44 = .ok (.aload_n 0, 1) := by decide +kernel
theorem d47_45 : decode own_b47 45 = .ok (.iload_n 1, 1) := by decide +kernel
theorem d47_46 : decode own_b47 46 = .ok (.iload_n 2, 1) := by decide +kernel
theorem d47_47 : decode own_b47 47 = .ok (.getstatic 63, 3) := by decide +kernel
theorem d47_50 : decode own_b47 50 = .ok (.ishr, 1) := by decide +kernel
theorem d47_51 : decode own_b47 51 = .ok (.i2b, 1) := by decide +kernel
theorem d47_52 : decode own_b47 52 = .ok (.bastore, 1) := by decide +kernel
theorem d47_53 : decode own_b47 53 = .ok (.return_, 1) := by decide +kernel
theorem pn_47 : plainFor (⟨"java/lang/StringUTF16", "putChar", "([BII)V"⟩ : MethodName) = true := by first | exact plainFor_of_name (by first | (simp [plainName, overriddenIn]; done) | decide +kernel) | decide +kernel | exact Jvm.Free.JP.mathPlain rfl (by decide +kernel)
theorem ef_47 (m : MethodId) (a1 : Addr) (p1 : Int32) (p2 : Int32) : entryFrame m #[(.ref a1), (.int p1), (.int p2)] 3 = mkF m 0 #[.val (.ref a1), .val (.int p1), .val (.int p2)] [] := by first | (simp [entryFrame, mkF, argsToLocals, Value.category]; done) | rfl
abbrev own_r47 : Room := { frames := 0, cells := 0, slots := 0, locals := 0 }
def Q47 (Z : State) (a1 : Addr) (p1 : Int32) (p2 : Int32) (kb : ClassId) (N : Nat) (i : Nat) (vs : List Value) (gz : Int32) (gf : Value) (h0 : Heap) (n0 : Nat) (v : Option Value) (h : Heap) (L : List Loc) : Prop := v = none ∧ Fr n0 L ∧ Keep h0 h [a1] ∧ Arv Z h a1 kb .byte (Int32.ofNat (N)) (vs ++ [.int (own_lo p2), .int (own_hi p2)]) (.int (0 : Int32))
theorem rm47 (l : Launch) (Z : State) (a0 : Array Value) (hw : ∀ d ∈ tables_1, d.before a0 Z = true) (ws : List Jvm.Cond) (a1 : Addr) (p1 : Int32) (p2 : Int32) (kb : ClassId) (N : Nat) (i : Nat) (vs : List Value) (gz : Int32) (gf : Value) (h0 : Heap) (n0 : Nat) (Z0 : n0 ≤ h0.size) (O : Old Z n0 h0) (hst : own_ST Z gz gf) (A_1 : Arv Z h0 a1 kb .byte (Int32.ofNat (N)) vs (.int (0 : Int32))) (hp1 : p1 = Int32.ofNat i) (hvl : vs.length = 2 * i) (hiN : 2 * i + 2 ≤ N) (hN : N ≤ 1000) (g_a1 : n0 ≤ a1) :
    MetFree l own_n11 (head1 (Jvm.Cond.code own_n11 jdk_52_method_4_code 3 none :: ws) own_r47) (fun a U => a = #[(.ref a1), (.int p1), (.int p2)] ∧ Z.Warmed39 U.vm ∧ U.heap = h0) (fun _ _ _ _ _ => True) (fun _ U o U' => ∃ v L, o = .returned v ∧ Q47 Z a1 p1 p2 kb N i vs gz gf h0 n0 v U'.heap L ∧ FrameEnd U o U' L own_r47.cells own_r47.slots) := by
  refine MetFree.of_bodySF pn_47 hisR ?_
  intro p e s m args below meth c s₁ Bd hml0 hP hK
  obtain ⟨rfl, hZ, hh⟩ := hP
  have hx := Bd.exec
  have hby := Bd.bytes
  have hml : c.maxLocals = 3 := hml0
  have hown : s.vm.findClass "java/lang/StringUTF16" = some m.cls := findClass_of_methodNamed Bd.named
  have hnm := (name_of_methodNamed Bd.named Bd.method).1
  have X0 : Stand p l e own_r47 s m #[(.ref a1), (.int p1), (.int p2)] below meth c s₁ [] 0 0 := Stand.of_body Bd
  have e0 : s₁.heap = h0 := by rw [← hh, Bd.state]; rfl
  have N0 := Fr.nil n0
  refine own_at (castTop (ef_47 m a1 p1 p2)) ?_
  have K0 := Keep.refl h0 [a1]
  obtain ⟨S1, P5, S2, rf, S3, S4, S5⟩ := id hst
  obtain ⟨T00, X00, e00, st00⟩ := getS2 X0 hx hZ hown (host := "") (Or.inl (own_w hw 238 rfl)) Via.refl e0 (S3.ext O.2) (g := (mkF m 0 #[.val (.ref a1), .val (.int p1), .val (.int p2)] [])) rfl (hb hby d47_0)
  refine own_by st00 ?_
  obtain ⟨t30, ht30⟩ : ∃ z : Int32, z = (p1 <<< ((1 : Int32) &&& 31)) := ⟨_, rfl⟩
  have sg31 : own_G p e below T00 (mkF m 31 #[.val (.ref a1), .val (.int p1), .val (.int p2)] [(.int t30)]) T00 (mkF m 3 #[.val (.ref a1), .val (.int p1), .val (.int p2)] [(.int (1 : Int32))]) := by
    intro t k
    rw [ht30] at k
    refine XS.ifYes X00.here hx rfl (pc0 := 3) (pc' := 28) rfl (hb hby d47_3) rfl ((if0 _ _).trans (feq (by decide : ¬ ((1 : Int32) = (0 : Int32)))).2) (by decide) (by decide) ?_
    refine XS.iloadN X00.here hx rfl (hb hby d47_28) rfl ?_
    refine XS.iconst X00.here hx rfl (hb hby d47_29) ?_
    refine XS.ishl X00.here hx rfl (hb hby d47_30) rfl ?_
    exact k
  refine own_by sg31 ?_
  have nt_t30 : t30 = Int32.ofNat (2 * (i)) := ht30.trans (own_nshl1 hp1)
  have sg38 : own_G p e below T00 (mkF m 38 #[.val (.ref a1), .val (.int (t30 + (1 : Int32))), .val (.int p2)] [(.int p2), (.int t30), (.ref a1)]) T00 (mkF m 31 #[.val (.ref a1), .val (.int p1), .val (.int p2)] [(.int t30)]) := by
    intro t k
    refine XS.istoreN X00.here hx rfl (hb hby d47_31) rfl (l' := #[.val (.ref a1), .val (.int t30), .val (.int p2)]) rfl ?_
    refine XS.aloadN X00.here hx rfl (hb hby d47_32) rfl rfl ?_
    refine XS.iloadN X00.here hx rfl (hb hby d47_33) rfl ?_
    refine XS.iinc X00.here hx rfl (hb hby d47_34) rfl (l' := #[.val (.ref a1), .val (.int (t30 + (1 : Int32))), .val (.int p2)]) rfl ?_
    refine XS.iloadN X00.here hx rfl (hb hby d47_37) rfl ?_
    exact k
  refine own_by sg38 ?_
  obtain ⟨T38, X38, e38, st38⟩ := getS2 X00 hx hZ hown (host := "") (Or.inl (own_w hw 239 rfl)) Via.refl e00 (S4.ext O.2) (g := (mkF m 38 #[.val (.ref a1), .val (.int (t30 + (1 : Int32))), .val (.int p2)] [(.int p2), (.int t30), (.ref a1)])) rfl (hb hby d47_38)
  refine own_by st38 ?_
  obtain ⟨k43, hk43⟩ : ∃ z : Int32, z = ((p2 >>> ((0 : Int32) &&& 31)).toInt8.toInt32) := ⟨_, rfl⟩
  have sg43 : own_G p e below T38 (mkF m 43 #[.val (.ref a1), .val (.int (t30 + (1 : Int32))), .val (.int p2)] [(.int k43), (.int t30), (.ref a1)]) T38 (mkF m 41 #[.val (.ref a1), .val (.int (t30 + (1 : Int32))), .val (.int p2)] [(.int (0 : Int32)), (.int p2), (.int t30), (.ref a1)]) := by
    intro t k
    rw [hk43] at k
    refine XS.ishr X38.here hx rfl (hb hby d47_41) rfl ?_
    refine XS.i2b X38.here hx rfl (hb hby d47_42) rfl ?_
    exact k
  refine own_by sg43 ?_
  have nb_k43 : k43.toInt8.toInt32 = k43 := by rw [hk43]; exact own_i2b2 _
  have Pd43 : Arv Z h0 a1 kb .byte (Int32.ofNat (N)) (vs ++ List.replicate 2 (.int (0 : Int32))) (.int (0 : Int32)) := (A_1).pad (own_padr _ _ 2)
  obtain ⟨cl43, Ar43, qa43, Sa43, Na43, Ha43, Ga43⟩ := id Pd43
  obtain ⟨T43, h43, X43, e43, W43, st43⟩ := stB X38 hx hZ e38 Ar43 (j := t30) (inb_of Sa43 ⟨(own_nge (nt_t30) (by omega)), (own_nlt nt_t30 (rfl : Int32.ofNat (N) = Int32.ofNat (N)) (by omega) (by omega)).mpr (by omega)⟩) (g := (mkF m 43 #[.val (.ref a1), .val (.int (t30 + (1 : Int32))), .val (.int p2)] [(.int k43), (.int t30), (.ref a1)])) rfl rfl (hb hby d47_43)
  have V43 : Arv Z h43 a1 kb .byte (Int32.ofNat (N)) (List.set (vs ++ List.replicate 2 (.int (0 : Int32))) (2 * i) (.int k43)) (.int (0 : Int32)) := by
    have q := Arv.set Ar43 qa43 Sa43 Na43 Ha43 Ga43 (fits_nar_byte _) W43 (2 * i) ((own_ntc (nt_t30) (by omega)).trans (by omega)) (by simp; omega)
    rw [nb_k43] at q
    exact q
  have K43 : Keep h0 h43 [a1] := K0.wr W43 (Or.inl (List.mem_of_getElem? (i := 0) rfl))
  have Z43 : n0 ≤ h43.size := Nat.le_trans Z0 (Keep.of_wr W43).1
  have N43 := Fr.snoc X43 N0 g_a1
  refine own_by st43 ?_
  have sg47 : own_G p e below T43 (mkF m 47 #[.val (.ref a1), .val (.int (t30 + (1 : Int32))), .val (.int p2)] [(.int p2), (.int (t30 + (1 : Int32))), (.ref a1)]) T43 (mkF m 44 #[.val (.ref a1), .val (.int (t30 + (1 : Int32))), .val (.int p2)] []) := by
    intro t k
    refine XS.aloadN X43.here hx rfl (hb hby d47_44) rfl rfl ?_
    refine XS.iloadN X43.here hx rfl (hb hby d47_45) rfl ?_
    refine XS.iloadN X43.here hx rfl (hb hby d47_46) rfl ?_
    exact k
  refine own_by sg47 ?_
  obtain ⟨T47, X47, e47, st47⟩ := getS2 X43 hx hZ hown (host := "") (Or.inl (own_w hw 240 rfl)) Via.refl e43 (S5.ext (O.wr W43 g_a1).2) (g := (mkF m 47 #[.val (.ref a1), .val (.int (t30 + (1 : Int32))), .val (.int p2)] [(.int p2), (.int (t30 + (1 : Int32))), (.ref a1)])) rfl (hb hby d47_47)
  refine own_by st47 ?_
  obtain ⟨k52, hk52⟩ : ∃ z : Int32, z = ((p2 >>> ((8 : Int32) &&& 31)).toInt8.toInt32) := ⟨_, rfl⟩
  have sg52 : own_G p e below T47 (mkF m 52 #[.val (.ref a1), .val (.int (t30 + (1 : Int32))), .val (.int p2)] [(.int k52), (.int (t30 + (1 : Int32))), (.ref a1)]) T47 (mkF m 50 #[.val (.ref a1), .val (.int (t30 + (1 : Int32))), .val (.int p2)] [(.int (8 : Int32)), (.int p2), (.int (t30 + (1 : Int32))), (.ref a1)]) := by
    intro t k
    rw [hk52] at k
    refine XS.ishr X47.here hx rfl (hb hby d47_50) rfl ?_
    refine XS.i2b X47.here hx rfl (hb hby d47_51) rfl ?_
    exact k
  refine own_by sg52 ?_
  have nb_k52 : k52.toInt8.toInt32 = k52 := by rw [hk52]; exact own_i2b2 _
  obtain ⟨cl52, Ar52, qa52, Sa52, Na52, Ha52, Ga52⟩ := id V43
  obtain ⟨T52, h52, X52, e52, W52, st52⟩ := stB X47 hx hZ e47 Ar52 (j := (t30 + (1 : Int32))) (inb_of Sa52 ⟨(own_nge ((own_nadd (n := 1) nt_t30 (rfl : (1 : Int32) = Int32.ofNat 1))) (by omega)), (own_nlt (own_nadd (n := 1) nt_t30 (rfl : (1 : Int32) = Int32.ofNat 1)) (rfl : Int32.ofNat (N) = Int32.ofNat (N)) (by omega) (by omega)).mpr (by omega)⟩) (g := (mkF m 52 #[.val (.ref a1), .val (.int (t30 + (1 : Int32))), .val (.int p2)] [(.int k52), (.int (t30 + (1 : Int32))), (.ref a1)])) rfl rfl (hb hby d47_52)
  have V52 : Arv Z h52 a1 kb .byte (Int32.ofNat (N)) (List.set (List.set (vs ++ List.replicate 2 (.int (0 : Int32))) (2 * i) (.int k43)) (2 * i + 1) (.int k52)) (.int (0 : Int32)) := by
    have q := Arv.set Ar52 qa52 Sa52 Na52 Ha52 Ga52 (fits_nar_byte _) W52 (2 * i + 1) ((own_ntc ((own_nadd (n := 1) nt_t30 (rfl : (1 : Int32) = Int32.ofNat 1))) (by omega)).trans (by omega)) (by simp; omega)
    rw [nb_k52] at q
    exact q
  have K52 : Keep h0 h52 [a1] := K43.wr W52 (Or.inl (List.mem_of_getElem? (i := 0) rfl))
  have Z52 : n0 ≤ h52.size := Nat.le_trans Z43 (Keep.of_wr W52).1
  have N52 := Fr.snoc X52 N43 g_a1
  refine own_by st52 ?_
  obtain ⟨fs, hr, hrun, hended, hW, hsame⟩ := X52.leave (v := none) (fun _ => rfl)
  refine ⟨_, _, ?_, hrun, hended, _, _, rfl, ?_, ⟨_, rfl⟩, hW, hsame.mono (by decide) (by decide)⟩
  · exact X52.returnOut hx Bd.returns (hb hby d47_53) hr
  · show Q47 Z a1 p1 p2 kb N i vs gz gf h0 n0 _ T52.heap _
    rw [e52]
    exact ⟨rfl, N52, K52, (by have q := V52; rw [own_set2 vs _ _ _ i hvl, hk43, hk52] at q; exact q)⟩
abbrev own_b21 := jdk_41_method_11_code
theorem d21_0 : decode own_b21 0 = .ok (.iload_n 0, 1) := by decide +kernel
theorem d21_1 : decode own_b21 1 = .ok (.ifCond .lt 8, 3) := by decide +kernel
theorem d21_4 : decode own_b21 4 = .ok (.iload_n 0, 1) := by decide +kernel
theorem d21_5 : decode own_b21 5 = .ok (.iload_n 1, 1) := by decide +kernel
theorem d21_6 : decode own_b21 6 = .ok (.if_icmp .lt 10, 3) := by decide +kernel
theorem d21_16 : decode own_b21 16 = .ok (.iload_n 0, 1) := by decide +kernel
theorem d21_17 : decode own_b21 17 = .ok (.ireturn, 1) := by decide +kernel
theorem pn_21 : plainFor (⟨"jdk/internal/util/Preconditions", "checkIndex", "(IILjava/util/function/BiFunction;)I"⟩ : MethodName) = true := by first | exact plainFor_of_name (by first | (simp [plainName, overriddenIn]; done) | decide +kernel) | decide +kernel | exact Jvm.Free.JP.mathPlain rfl (by decide +kernel)
theorem ef_21 (m : MethodId) (p0 : Int32) (p1 : Int32) (gf : Value) (rf : gf.isRef = true) : entryFrame m #[(.int p0), (.int p1), gf] 3 = mkF m 0 #[.val (.int p0), .val (.int p1), .val gf] [] := by cases gf <;> simp [Value.isRef] at rf <;> rfl
abbrev own_r21 : Room := { frames := 0, cells := 0, slots := 0, locals := 0 }
def Q21 (Z : State) (p0 : Int32) (p1 : Int32) (gf : Value) (m0 : Nat) (m1 : Nat) (h0 : Heap) (n0 : Nat) (v : Option Value) (h : Heap) (L : List Loc) : Prop := v = some (.int p0) ∧ Fr n0 L ∧ h = h0
theorem rm21 (l : Launch) (Z : State) (a0 : Array Value) (hw : ∀ d ∈ tables_1, d.before a0 Z = true) (ws : List Jvm.Cond) (p0 : Int32) (p1 : Int32) (gf : Value) (m0 : Nat) (m1 : Nat) (h0 : Heap) (n0 : Nat) (Z0 : n0 ≤ h0.size) (rf : gf.isRef = true) (hp0 : p0 = Int32.ofNat m0) (hp1 : p1 = Int32.ofNat m1) (hlt : m0 < m1) (hm : m1 ≤ 1000) :
    MetFree l own_n7 (head1 (Jvm.Cond.code own_n7 jdk_41_method_11_code 3 (some .int) :: ws) own_r21) (fun a U => a = #[(.int p0), (.int p1), gf] ∧ Z.Warmed39 U.vm ∧ U.heap = h0) (fun _ _ _ _ _ => True) (fun _ U o U' => ∃ v L, o = .returned v ∧ Q21 Z p0 p1 gf m0 m1 h0 n0 v U'.heap L ∧ FrameEnd U o U' L own_r21.cells own_r21.slots) := by
  refine MetFree.of_bodySF pn_21 hisR ?_
  intro p e s m args below meth c s₁ Bd hml0 hP hK
  obtain ⟨rfl, hZ, hh⟩ := hP
  have hx := Bd.exec
  have hby := Bd.bytes
  have hml : c.maxLocals = 3 := hml0
  have hown : s.vm.findClass "jdk/internal/util/Preconditions" = some m.cls := findClass_of_methodNamed Bd.named
  have hnm := (name_of_methodNamed Bd.named Bd.method).1
  have X0 : Stand p l e own_r21 s m #[(.int p0), (.int p1), gf] below meth c s₁ [] 0 0 := Stand.of_body Bd
  have e0 : s₁.heap = h0 := by rw [← hh, Bd.state]; rfl
  have N0 := Fr.nil n0
  refine own_at (castTop (ef_21 m p0 p1 gf rf)) ?_
  have K0 := Keep.refl h0 []
  have sg17 : own_G p e below s₁ (mkF m 17 #[.val (.int p0), .val (.int p1), .val gf] [(.int p0)]) s₁ (mkF m 0 #[.val (.int p0), .val (.int p1), .val gf] []) := by
    intro t k
    refine XS.iloadN X0.here hx rfl (hb hby d21_0) rfl ?_
    refine XS.ifNo X0.here hx rfl (hb hby d21_1) rfl ((if0 _ _).trans (flt ((not_congr (own_nlt (n := 0) hp0 (rfl : (0 : Int32) = Int32.ofNat 0) (by omega) (by decide))).mpr (by omega) : ¬ (p0 < (0 : Int32)))).1) ?_
    refine XS.iloadN X0.here hx rfl (hb hby d21_4) rfl ?_
    refine XS.iloadN X0.here hx rfl (hb hby d21_5) rfl ?_
    refine XS.icmpYes X0.here hx rfl (pc0 := 6) (pc' := 16) rfl (hb hby d21_6) rfl (tlt ((own_nlt hp0 hp1 (by omega) (by omega)).mpr (by omega) : p0 < p1)).1 (by decide) (by decide) ?_
    refine XS.iloadN X0.here hx rfl (hb hby d21_16) rfl ?_
    exact k
  refine own_by sg17 ?_
  obtain ⟨fs, hr, hrun, hended, hW, hsame⟩ := X0.leave (v := some (.int p0)) (fun h => by rw [Bd.returns] at h; cases h)
  refine ⟨_, _, ?_, hrun, hended, _, _, rfl, ?_, ⟨_, rfl⟩, hW, hsame.mono (by decide) (by decide)⟩
  · exact retI X0 hx Bd.returns (hb hby d21_17) hr
  · show Q21 Z p0 p1 gf m0 m1 h0 n0 _ s₁.heap _
    rw [e0]
    exact ⟨rfl, N0, rfl⟩
abbrev own_b20 := jdk_42_method_155_code
theorem d20_0 : decode own_b20 0 = .ok (.iload_n 0, 1) := by decide +kernel
theorem d20_1 : decode own_b20 1 = .ok (.iload_n 1, 1) := by decide +kernel
theorem d20_2 : decode own_b20 2 = .ok (.getstatic 1053, 3) := by decide +kernel
theorem d20_5 : decode own_b20 5 = .ok (.invokestatic 1059, 3) := by decide +kernel
theorem d20_8 : decode own_b20 8 = .ok (.pop, 1) := by decide +kernel
theorem d20_9 : decode own_b20 9 = .ok (.return_, 1) := by decide +kernel
theorem pn_20 : plainFor (⟨"java/lang/String", "checkIndex", "(II)V"⟩ : MethodName) = true := by first | exact plainFor_of_name (by first | (simp [plainName, overriddenIn]; done) | decide +kernel) | decide +kernel | exact Jvm.Free.JP.mathPlain rfl (by decide +kernel)
theorem pd_20_0 : parseMethodDescriptor "(IILjava/util/function/BiFunction;)I" = some ⟨[.int, .int, (.object "java/util/function/BiFunction")], some .int⟩ := by decide +kernel
theorem ef_20 (m : MethodId) (p0 : Int32) (p1 : Int32) : entryFrame m #[(.int p0), (.int p1)] 2 = mkF m 0 #[.val (.int p0), .val (.int p1)] [] := by first | (simp [entryFrame, mkF, argsToLocals, Value.category]; done) | rfl
abbrev own_r20 : Room := { frames := 1, cells := 0, slots := 0, locals := 14 }
def Q20 (Z : State) (p0 : Int32) (p1 : Int32) (m0 : Nat) (m1 : Nat) (gz : Int32) (gf : Value) (h0 : Heap) (n0 : Nat) (v : Option Value) (h : Heap) (L : List Loc) : Prop := v = none ∧ Fr n0 L ∧ h = h0
theorem rm20 (l : Launch) (Z : State) (a0 : Array Value) (hw : ∀ d ∈ tables_1, d.before a0 Z = true) (ws : List Jvm.Cond) (p0 : Int32) (p1 : Int32) (m0 : Nat) (m1 : Nat) (gz : Int32) (gf : Value) (h0 : Heap) (n0 : Nat) (Z0 : n0 ≤ h0.size) (O : Old Z n0 h0) (hst : own_ST Z gz gf) (hp0 : p0 = Int32.ofNat m0) (hp1 : p1 = Int32.ofNat m1) (hlt : m0 < m1) (hm : m1 ≤ 1000) :
    MetFree l own_n9 (head1 (Jvm.Cond.code own_n9 jdk_42_method_155_code 2 none :: ws) own_r20) (fun a U => a = #[(.int p0), (.int p1)] ∧ Z.Warmed39 U.vm ∧ U.heap = h0) (fun _ _ _ _ _ => True) (fun _ U o U' => ∃ v L, o = .returned v ∧ Q20 Z p0 p1 m0 m1 gz gf h0 n0 v U'.heap L ∧ FrameEnd U o U' L own_r20.cells own_r20.slots) := by
  refine MetFree.of_bodySF pn_20 hisR ?_
  intro p e s m args below meth c s₁ Bd hml0 hP hK
  obtain ⟨rfl, hZ, hh⟩ := hP
  have hx := Bd.exec
  have hby := Bd.bytes
  have hml : c.maxLocals = 2 := hml0
  have hown : s.vm.findClass "java/lang/String" = some m.cls := findClass_of_methodNamed Bd.named
  have hnm := (name_of_methodNamed Bd.named Bd.method).1
  have X0 : Stand p l e own_r20 s m #[(.int p0), (.int p1)] below meth c s₁ [] 0 0 := Stand.of_body Bd
  have e0 : s₁.heap = h0 := by rw [← hh, Bd.state]; rfl
  have N0 := Fr.nil n0
  refine own_at (castTop (ef_20 m p0 p1)) ?_
  have K0 := Keep.refl h0 []
  obtain ⟨S1, P5, S2, rf, S3, S4, S5⟩ := id hst
  have sg2 : own_G p e below s₁ (mkF m 2 #[.val (.int p0), .val (.int p1)] [(.int p1), (.int p0)]) s₁ (mkF m 0 #[.val (.int p0), .val (.int p1)] []) := by
    intro t k
    refine XS.iloadN X0.here hx rfl (hb hby d20_0) rfl ?_
    refine XS.iloadN X0.here hx rfl (hb hby d20_1) rfl ?_
    exact k
  refine own_by sg2 ?_
  obtain ⟨T2, X2, e2, st2⟩ := getS2 X0 hx hZ hown (host := "") (Or.inl (own_w hw 105 rfl)) Via.refl e0 (S2.ext O.2) (g := (mkF m 2 #[.val (.int p0), .val (.int p1)] [(.int p1), (.int p0)])) rfl (hb hby d20_2)
  refine own_by st2 ?_
  obtain ⟨_, _, ⟨T5, L5, k5, n5⟩, -, X5, ⟨Lc5, hQ5, l5, y5, z5⟩, st5⟩ := Jvm.LawKit.callS X2 hx (y := own_n7) hown (mvT hZ (own_w hw 107 rfl)) (mvT hZ (own_w hw 108 rfl)) (mvT hZ (own_w hw 106 rfl)) (mvT hZ (own_w hw 109 rfl)) (by decide) (backOf (W := 0) (rm21 l Z a0 hw [] p0 p1 gf m0 m1 h0 n0 Z0 rf hp0 hp1 hlt hm) hZ (own_w hw 109 rfl) (own_w hw 106 rfl) (by decide) (by decide)) (g := (mkF m 5 #[.val (.int p0), .val (.int p1)] [gf, (.int p1), (.int p0)])) rfl (by rw [hml]; rfl) (argsL := [(.int p0), (.int p1), gf]) (rest := []) (lenOf pd_20_0 rfl) rfl (Nat.le_of_eq rfl) (hb hby d20_5) (fun _ _ => ⟨rfl, e2, (by decide : 0 + 0 ≤ _), (by decide : 0 + 0 ≤ _)⟩)
  dsimp only [Pt.U, Pt.locs, Pt.cells, Pt.slots] at X5 l5 y5 z5 st5 hQ5
  subst l5 y5 z5
  obtain ⟨rfl, N5q, hq5⟩ := hQ5
  have N5 := Fr.app N0 N5q
  refine own_by st5 ?_
  have sg9 : own_G p e below T5 (mkF m 9 #[.val (.int p0), .val (.int p1)] []) T5 (mkF m 8 #[.val (.int p0), .val (.int p1)] [(.int p0)]) := by
    intro t k
    refine XS.pop X5.here hx rfl (hb hby d20_8) rfl rfl ?_
    exact k
  refine own_by sg9 ?_
  obtain ⟨fs, hr, hrun, hended, hW, hsame⟩ := X5.leave (v := none) (fun _ => rfl)
  refine ⟨_, _, ?_, hrun, hended, _, _, rfl, ?_, ⟨_, rfl⟩, hW, hsame.mono (by decide) (by decide)⟩
  · exact X5.returnOut hx Bd.returns (hb hby d20_9) hr
  · show Q20 Z p0 p1 m0 m1 gz gf h0 n0 _ T5.heap _
    rw [hq5]
    exact ⟨rfl, N5, rfl⟩
abbrev own_b51 := jdk_52_method_6_code
theorem d51_0 : decode own_b51 0 = .ok (.aload_n 0, 1) := by decide +kernel
theorem d51_1 : decode own_b51 1 = .ok (.arraylength, 1) := by decide +kernel
theorem d51_2 : decode own_b51 2 = .ok (.iconst 1, 1) := by decide +kernel
theorem d51_3 : decode own_b51 3 = .ok (.ishr, 1) := by decide +kernel
theorem d51_4 : decode own_b51 4 = .ok (.ireturn, 1) := by decide +kernel
theorem pn_51 : plainFor (⟨"java/lang/StringUTF16", "length", "([B)I"⟩ : MethodName) = true := by first | exact plainFor_of_name (by first | (simp [plainName, overriddenIn]; done) | decide +kernel) | decide +kernel | exact Jvm.Free.JP.mathPlain rfl (by decide +kernel)
theorem ef_51 (m : MethodId) (a1 : Addr) : entryFrame m #[(.ref a1)] 1 = mkF m 0 #[.val (.ref a1)] [] := by first | (simp [entryFrame, mkF, argsToLocals, Value.category]; done) | rfl
abbrev own_r51 : Room := { frames := 0, cells := 0, slots := 0, locals := 0 }
def Q51 (Z : State) (a1 : Addr) (kb : ClassId) (N : Nat) (vs : List Value) (h0 : Heap) (n0 : Nat) (v : Option Value) (h : Heap) (L : List Loc) : Prop := v = some (.int (Int32.ofNat (N / 2))) ∧ Fr n0 L ∧ h = h0
theorem rm51 (l : Launch) (Z : State) (a0 : Array Value) (hw : ∀ d ∈ tables_1, d.before a0 Z = true) (ws : List Jvm.Cond) (a1 : Addr) (kb : ClassId) (N : Nat) (vs : List Value) (h0 : Heap) (n0 : Nat) (Z0 : n0 ≤ h0.size) (A_1 : Arv Z h0 a1 kb .byte (Int32.ofNat (N)) vs (.int (0 : Int32))) (hN : N ≤ 1000) :
    MetFree l own_n8 (head1 (Jvm.Cond.code own_n8 jdk_52_method_6_code 1 (some .int) :: ws) own_r51) (fun a U => a = #[(.ref a1)] ∧ Z.Warmed39 U.vm ∧ U.heap = h0) (fun _ _ _ _ _ => True) (fun _ U o U' => ∃ v L, o = .returned v ∧ Q51 Z a1 kb N vs h0 n0 v U'.heap L ∧ FrameEnd U o U' L own_r51.cells own_r51.slots) := by
  refine MetFree.of_bodySF pn_51 hisR ?_
  intro p e s m args below meth c s₁ Bd hml0 hP hK
  obtain ⟨rfl, hZ, hh⟩ := hP
  have hx := Bd.exec
  have hby := Bd.bytes
  have hml : c.maxLocals = 1 := hml0
  have hown : s.vm.findClass "java/lang/StringUTF16" = some m.cls := findClass_of_methodNamed Bd.named
  have hnm := (name_of_methodNamed Bd.named Bd.method).1
  have X0 : Stand p l e own_r51 s m #[(.ref a1)] below meth c s₁ [] 0 0 := Stand.of_body Bd
  have e0 : s₁.heap = h0 := by rw [← hh, Bd.state]; rfl
  have N0 := Fr.nil n0
  refine own_at (castTop (ef_51 m a1)) ?_
  have K0 := Keep.refl h0 []
  have sg1 : own_G p e below s₁ (mkF m 1 #[.val (.ref a1)] [(.ref a1)]) s₁ (mkF m 0 #[.val (.ref a1)] []) := by
    intro t k
    refine XS.aloadN X0.here hx rfl (hb hby d51_0) rfl rfl ?_
    exact k
  refine own_by sg1 ?_
  obtain ⟨cl1, Ar1, qa1, Sa1, Na1, Ha1, Ga1⟩ := id A_1
  obtain ⟨t1, ht1⟩ : ∃ z : Int32, z = (Int32.ofNat (N)) := ⟨_, rfl⟩
  have sg2 : own_G p e below s₁ (mkF m 2 #[.val (.ref a1)] [(.int t1)]) s₁ (mkF m 1 #[.val (.ref a1)] [(.ref a1)]) := by
    intro t k
    rw [ht1] at k
    refine X0.arraylength hx (by rw [e0]; exact Ar1.1) (State.isArrayOf_alike hZ.alike Ar1.2.1) (g := (mkF m 1 #[.val (.ref a1)] [(.ref a1)])) rfl rfl (hb hby d51_1) _ ?_
    rw [len_of Sa1 Na1]
    exact k
  refine own_by sg2 ?_
  have nt_t1 : t1 = Int32.ofNat (N) := ht1
  obtain ⟨t3, ht3⟩ : ∃ z : Int32, z = (t1 >>> ((1 : Int32) &&& 31)) := ⟨_, rfl⟩
  have sg4 : own_G p e below s₁ (mkF m 4 #[.val (.ref a1)] [(.int t3)]) s₁ (mkF m 2 #[.val (.ref a1)] [(.int t1)]) := by
    intro t k
    rw [ht3] at k
    refine XS.iconst X0.here hx rfl (hb hby d51_2) ?_
    refine XS.ishr X0.here hx rfl (hb hby d51_3) rfl ?_
    exact k
  refine own_by sg4 ?_
  have nt_t3 : t3 = Int32.ofNat ((N) / 2) := ht3.trans (own_nshr1 nt_t1 (by omega))
  obtain ⟨fs, hr, hrun, hended, hW, hsame⟩ := X0.leave (v := some (.int t3)) (fun h => by rw [Bd.returns] at h; cases h)
  refine ⟨_, _, ?_, hrun, hended, _, _, rfl, ?_, ⟨_, rfl⟩, hW, hsame.mono (by decide) (by decide)⟩
  · exact retI X0 hx Bd.returns (hb hby d51_4) hr
  · show Q51 Z a1 kb N vs h0 n0 _ s₁.heap _
    rw [e0]
    exact ⟨by rw [nt_t3], N0, rfl⟩
abbrev own_b50 := jdk_52_method_91_code
theorem d50_0 : decode own_b50 0 = .ok (.iload_n 0, 1) := by decide +kernel
theorem d50_1 : decode own_b50 1 = .ok (.aload_n 1, 1) := by decide +kernel
theorem d50_2 : decode own_b50 2 = .ok (.invokestatic 48, 3) := by decide +kernel
theorem d50_5 : decode own_b50 5 = .ok (.invokestatic 414, 3) := by decide +kernel
theorem d50_8 : decode own_b50 8 = .ok (.return_, 1) := by decide +kernel
theorem pn_50 : plainFor (⟨"java/lang/StringUTF16", "checkIndex", "(I[B)V"⟩ : MethodName) = true := by first | exact plainFor_of_name (by first | (simp [plainName, overriddenIn]; done) | decide +kernel) | decide +kernel | exact Jvm.Free.JP.mathPlain rfl (by decide +kernel)
theorem pd_50_0 : parseMethodDescriptor "([B)I" = some ⟨[(.array .byte)], some .int⟩ := by decide +kernel
theorem pd_50_1 : parseMethodDescriptor "(II)V" = some ⟨[.int, .int], none⟩ := by decide +kernel
theorem ef_50 (m : MethodId) (p0 : Int32) (a1 : Addr) : entryFrame m #[(.int p0), (.ref a1)] 2 = mkF m 0 #[.val (.int p0), .val (.ref a1)] [] := by first | (simp [entryFrame, mkF, argsToLocals, Value.category]; done) | rfl
abbrev own_r50 : Room := { frames := 2, cells := 0, slots := 0, locals := 27 }
def Q50 (Z : State) (p0 : Int32) (a1 : Addr) (kb : ClassId) (N : Nat) (vs : List Value) (m0 : Nat) (gz : Int32) (gf : Value) (h0 : Heap) (n0 : Nat) (v : Option Value) (h : Heap) (L : List Loc) : Prop := v = none ∧ Fr n0 L ∧ h = h0
theorem rm50 (l : Launch) (Z : State) (a0 : Array Value) (hw : ∀ d ∈ tables_1, d.before a0 Z = true) (ws : List Jvm.Cond) (p0 : Int32) (a1 : Addr) (kb : ClassId) (N : Nat) (vs : List Value) (m0 : Nat) (gz : Int32) (gf : Value) (h0 : Heap) (n0 : Nat) (Z0 : n0 ≤ h0.size) (O : Old Z n0 h0) (hst : own_ST Z gz gf) (A_1 : Arv Z h0 a1 kb .byte (Int32.ofNat (N)) vs (.int (0 : Int32))) (hp0 : p0 = Int32.ofNat m0) (hlt : 2 * m0 + 2 ≤ N) (hN : N ≤ 1000) :
    MetFree l own_n10 (head1 (Jvm.Cond.code own_n10 jdk_52_method_91_code 2 none :: ws) own_r50) (fun a U => a = #[(.int p0), (.ref a1)] ∧ Z.Warmed39 U.vm ∧ U.heap = h0) (fun _ _ _ _ _ => True) (fun _ U o U' => ∃ v L, o = .returned v ∧ Q50 Z p0 a1 kb N vs m0 gz gf h0 n0 v U'.heap L ∧ FrameEnd U o U' L own_r50.cells own_r50.slots) := by
  refine MetFree.of_bodySF pn_50 hisR ?_
  intro p e s m args below meth c s₁ Bd hml0 hP hK
  obtain ⟨rfl, hZ, hh⟩ := hP
  have hx := Bd.exec
  have hby := Bd.bytes
  have hml : c.maxLocals = 2 := hml0
  have hown : s.vm.findClass "java/lang/StringUTF16" = some m.cls := findClass_of_methodNamed Bd.named
  have hnm := (name_of_methodNamed Bd.named Bd.method).1
  have X0 : Stand p l e own_r50 s m #[(.int p0), (.ref a1)] below meth c s₁ [] 0 0 := Stand.of_body Bd
  have e0 : s₁.heap = h0 := by rw [← hh, Bd.state]; rfl
  have N0 := Fr.nil n0
  refine own_at (castTop (ef_50 m p0 a1)) ?_
  have K0 := Keep.refl h0 []
  obtain ⟨S1, P5, S2, rf, S3, S4, S5⟩ := id hst
  have sg2 : own_G p e below s₁ (mkF m 2 #[.val (.int p0), .val (.ref a1)] [(.ref a1), (.int p0)]) s₁ (mkF m 0 #[.val (.int p0), .val (.ref a1)] []) := by
    intro t k
    refine XS.iloadN X0.here hx rfl (hb hby d50_0) rfl ?_
    refine XS.aloadN X0.here hx rfl (hb hby d50_1) rfl rfl ?_
    exact k
  refine own_by sg2 ?_
  obtain ⟨_, _, ⟨T2, L2, k2, n2⟩, -, X2, ⟨Lc2, hQ2, l2, y2, z2⟩, st2⟩ := Jvm.LawKit.callS X0 hx (y := own_n8) hown (mvT hZ (own_w hw 250 rfl)) (mvT hZ (own_w hw 251 rfl)) (mvT hZ (own_w hw 18 rfl)) (mvT hZ (own_w hw 252 rfl)) (by decide) (backOf (W := 1) (rm51 l Z a0 hw [] a1 kb N vs h0 n0 Z0 A_1 (by omega)) hZ (own_w hw 252 rfl) (own_w hw 18 rfl) (by decide) (by decide)) (g := (mkF m 2 #[.val (.int p0), .val (.ref a1)] [(.ref a1), (.int p0)])) rfl (by rw [hml]; rfl) (argsL := [(.ref a1)]) (rest := [(.int p0)]) (lenOf pd_50_0 rfl) rfl (Nat.le_of_eq rfl) (hb hby d50_2) (fun _ _ => ⟨rfl, e0, (by decide : 0 + 0 ≤ _), (by decide : 0 + 0 ≤ _)⟩)
  dsimp only [Pt.U, Pt.locs, Pt.cells, Pt.slots] at X2 l2 y2 z2 st2 hQ2
  subst l2 y2 z2
  obtain ⟨rfl, N2q, hq2⟩ := hQ2
  have N2 := Fr.app N0 N2q
  obtain ⟨c2, hc2⟩ : ∃ z : Int32, z = (Int32.ofNat (N / 2)) := ⟨_, rfl⟩
  rw [← hc2] at st2
  have nt_c2 : c2 = Int32.ofNat (N / 2) := hc2
  refine own_by st2 ?_
  obtain ⟨_, _, ⟨T5, L5, k5, n5⟩, -, X5, ⟨Lc5, hQ5, l5, y5, z5⟩, st5⟩ := Jvm.LawKit.callS X2 hx (y := own_n9) hown (mvT hZ (own_w hw 253 rfl)) (mvT hZ (own_w hw 103 rfl)) (mvT hZ (own_w hw 4 rfl)) (mvT hZ (own_w hw 104 rfl)) (by decide) (backOf (W := 0) (rm20 l Z a0 hw [] p0 c2 m0 (N / 2) gz gf h0 n0 Z0 O hst hp0 nt_c2 (by omega) (by omega)) hZ (own_w hw 104 rfl) (own_w hw 4 rfl) (by decide) (by decide)) (g := (mkF m 5 #[.val (.int p0), .val (.ref a1)] [(.int c2), (.int p0)])) rfl (by rw [hml]; rfl) (argsL := [(.int p0), (.int c2)]) (rest := []) (lenOf pd_50_1 rfl) rfl (Nat.le_of_eq rfl) (hb hby d50_5) (fun _ _ => ⟨rfl, hq2, (by decide : 0 + 0 ≤ _), (by decide : 0 + 0 ≤ _)⟩)
  dsimp only [Pt.U, Pt.locs, Pt.cells, Pt.slots] at X5 l5 y5 z5 st5 hQ5
  subst l5 y5 z5
  obtain ⟨rfl, N5q, hq5⟩ := hQ5
  have N5 := Fr.app N2 N5q
  refine own_by st5 ?_
  obtain ⟨fs, hr, hrun, hended, hW, hsame⟩ := X5.leave (v := none) (fun _ => rfl)
  refine ⟨_, _, ?_, hrun, hended, _, _, rfl, ?_, ⟨_, rfl⟩, hW, hsame.mono (by decide) (by decide)⟩
  · exact X5.returnOut hx Bd.returns (hb hby d50_8) hr
  · show Q50 Z p0 a1 kb N vs m0 gz gf h0 n0 _ T5.heap _
    rw [hq5]
    exact ⟨rfl, N5, rfl⟩
abbrev own_b58 := jdk_52_method_71_code
theorem d58_0 : decode own_b58 0 = .ok (.iload_n 1, 1) := by decide +kernel
theorem d58_1 : decode own_b58 1 = .ok (.aload_n 0, 1) := by decide +kernel
theorem d58_2 : decode own_b58 2 = .ok (.invokestatic 67, 3) := by decide +kernel
theorem d58_5 : decode own_b58 5 = .ok (.aload_n 0, 1) := by decide +kernel
theorem d58_6 : decode own_b58 6 = .ok (.iload_n 1, 1) := by decide +kernel
theorem d58_7 : decode own_b58 7 = .ok (.iload_n 2, 1) := by decide +kernel
theorem d58_8 : decode own_b58 8 = .ok (.invokestatic 111, 3) := by decide +kernel
theorem d58_11 : decode own_b58 11 = .ok (.return_, 1) := by decide +kernel
theorem pn_58 : plainFor (⟨"java/lang/StringUTF16", "putCharSB", "([BII)V"⟩ : MethodName) = true := by first | exact plainFor_of_name (by first | (simp [plainName, overriddenIn]; done) | decide +kernel) | decide +kernel | exact Jvm.Free.JP.mathPlain rfl (by decide +kernel)
theorem pd_58_0 : parseMethodDescriptor "(I[B)V" = some ⟨[.int, (.array .byte)], none⟩ := by decide +kernel
theorem pd_58_1 : parseMethodDescriptor "([BII)V" = some ⟨[(.array .byte), .int, .int], none⟩ := by decide +kernel
theorem ef_58 (m : MethodId) (a1 : Addr) (p1 : Int32) (p2 : Int32) : entryFrame m #[(.ref a1), (.int p1), (.int p2)] 3 = mkF m 0 #[.val (.ref a1), .val (.int p1), .val (.int p2)] [] := by first | (simp [entryFrame, mkF, argsToLocals, Value.category]; done) | rfl
abbrev own_r58 : Room := { frames := 3, cells := 0, slots := 0, locals := 40 }
def Q58 (Z : State) (a1 : Addr) (p1 : Int32) (p2 : Int32) (kb : ClassId) (N : Nat) (i : Nat) (vs : List Value) (gz : Int32) (gf : Value) (h0 : Heap) (n0 : Nat) (v : Option Value) (h : Heap) (L : List Loc) : Prop := v = none ∧ Fr n0 L ∧ Keep h0 h [a1] ∧ Arv Z h a1 kb .byte (Int32.ofNat (N)) (vs ++ [.int (own_lo p2), .int (own_hi p2)]) (.int (0 : Int32))
theorem rm58 (l : Launch) (Z : State) (a0 : Array Value) (hw : ∀ d ∈ tables_1, d.before a0 Z = true) (ws : List Jvm.Cond) (a1 : Addr) (p1 : Int32) (p2 : Int32) (kb : ClassId) (N : Nat) (i : Nat) (vs : List Value) (gz : Int32) (gf : Value) (h0 : Heap) (n0 : Nat) (Z0 : n0 ≤ h0.size) (O : Old Z n0 h0) (hst : own_ST Z gz gf) (A_1 : Arv Z h0 a1 kb .byte (Int32.ofNat (N)) vs (.int (0 : Int32))) (hp1 : p1 = Int32.ofNat i) (hvl : vs.length = 2 * i) (hiN : 2 * i + 2 ≤ N) (hN : N ≤ 1000) (g_a1 : n0 ≤ a1) :
    MetFree l own_n21 (head1 (Jvm.Cond.code own_n21 jdk_52_method_71_code 3 none :: ws) own_r58) (fun a U => a = #[(.ref a1), (.int p1), (.int p2)] ∧ Z.Warmed39 U.vm ∧ U.heap = h0) (fun _ _ _ _ _ => True) (fun _ U o U' => ∃ v L, o = .returned v ∧ Q58 Z a1 p1 p2 kb N i vs gz gf h0 n0 v U'.heap L ∧ FrameEnd U o U' L own_r58.cells own_r58.slots) := by
  refine MetFree.of_bodySF pn_58 hisR ?_
  intro p e s m args below meth c s₁ Bd hml0 hP hK
  obtain ⟨rfl, hZ, hh⟩ := hP
  have hx := Bd.exec
  have hby := Bd.bytes
  have hml : c.maxLocals = 3 := hml0
  have hown : s.vm.findClass "java/lang/StringUTF16" = some m.cls := findClass_of_methodNamed Bd.named
  have hnm := (name_of_methodNamed Bd.named Bd.method).1
  have X0 : Stand p l e own_r58 s m #[(.ref a1), (.int p1), (.int p2)] below meth c s₁ [] 0 0 := Stand.of_body Bd
  have e0 : s₁.heap = h0 := by rw [← hh, Bd.state]; rfl
  have N0 := Fr.nil n0
  refine own_at (castTop (ef_58 m a1 p1 p2)) ?_
  have K0 := Keep.refl h0 [a1]
  obtain ⟨S1, P5, S2, rf, S3, S4, S5⟩ := id hst
  have sg2 : own_G p e below s₁ (mkF m 2 #[.val (.ref a1), .val (.int p1), .val (.int p2)] [(.ref a1), (.int p1)]) s₁ (mkF m 0 #[.val (.ref a1), .val (.int p1), .val (.int p2)] []) := by
    intro t k
    refine XS.iloadN X0.here hx rfl (hb hby d58_0) rfl ?_
    refine XS.aloadN X0.here hx rfl (hb hby d58_1) rfl rfl ?_
    exact k
  refine own_by sg2 ?_
  obtain ⟨_, _, ⟨T2, L2, k2, n2⟩, -, X2, ⟨Lc2, hQ2, l2, y2, z2⟩, st2⟩ := Jvm.LawKit.callS X0 hx (y := own_n10) hown (mvT hZ (own_w hw 247 rfl)) (mvT hZ (own_w hw 248 rfl)) (mvT hZ (own_w hw 18 rfl)) (mvT hZ (own_w hw 249 rfl)) (by decide) (backOf (W := 0) (rm50 l Z a0 hw [] p1 a1 kb N vs i gz gf h0 n0 Z0 O hst A_1 hp1 hiN hN) hZ (own_w hw 249 rfl) (own_w hw 18 rfl) (by decide) (by decide)) (g := (mkF m 2 #[.val (.ref a1), .val (.int p1), .val (.int p2)] [(.ref a1), (.int p1)])) rfl (by rw [hml]; rfl) (argsL := [(.int p1), (.ref a1)]) (rest := []) (lenOf pd_58_0 rfl) rfl (Nat.le_of_eq rfl) (hb hby d58_2) (fun _ _ => ⟨rfl, e0, (by decide : 0 + 0 ≤ _), (by decide : 0 + 0 ≤ _)⟩)
  dsimp only [Pt.U, Pt.locs, Pt.cells, Pt.slots] at X2 l2 y2 z2 st2 hQ2
  subst l2 y2 z2
  obtain ⟨rfl, N2q, hq2⟩ := hQ2
  have N2 := Fr.app N0 N2q
  refine own_by st2 ?_
  have sg8 : own_G p e below T2 (mkF m 8 #[.val (.ref a1), .val (.int p1), .val (.int p2)] [(.int p2), (.int p1), (.ref a1)]) T2 (mkF m 5 #[.val (.ref a1), .val (.int p1), .val (.int p2)] []) := by
    intro t k
    refine XS.aloadN X2.here hx rfl (hb hby d58_5) rfl rfl ?_
    refine XS.iloadN X2.here hx rfl (hb hby d58_6) rfl ?_
    refine XS.iloadN X2.here hx rfl (hb hby d58_7) rfl ?_
    exact k
  refine own_by sg8 ?_
  obtain ⟨_, _, ⟨T8, L8, k8, n8⟩, -, X8, ⟨Lc8, hQ8, l8, y8, z8⟩, st8⟩ := Jvm.LawKit.callS X2 hx (y := own_n11) hown (mvT hZ (own_w hw 235 rfl)) (mvT hZ (own_w hw 236 rfl)) (mvT hZ (own_w hw 18 rfl)) (mvT hZ (own_w hw 237 rfl)) (by decide) (backOf (W := 0) (rm47 l Z a0 hw [] a1 p1 p2 kb N i vs gz gf h0 n0 Z0 O hst A_1 hp1 hvl hiN hN g_a1) hZ (own_w hw 237 rfl) (own_w hw 18 rfl) (by decide) (by decide)) (g := (mkF m 8 #[.val (.ref a1), .val (.int p1), .val (.int p2)] [(.int p2), (.int p1), (.ref a1)])) rfl (by rw [hml]; rfl) (argsL := [(.ref a1), (.int p1), (.int p2)]) (rest := []) (lenOf pd_58_1 rfl) rfl (Nat.le_of_eq rfl) (hb hby d58_8) (fun _ _ => ⟨rfl, hq2, (by decide : 0 + 0 ≤ _), (by decide : 0 + 0 ≤ _)⟩)
  dsimp only [Pt.U, Pt.locs, Pt.cells, Pt.slots] at X8 l8 y8 z8 st8 hQ8
  subst l8 y8 z8
  obtain ⟨rfl, N8q, Kq8, Aq8⟩ := hQ8
  have N8 := Fr.app N2 N8q
  have K8 : Keep h0 T8.heap [a1] := K0.trans Kq8 (fun x hx => by cases List.mem_singleton.mp hx; exact (Or.inl (List.mem_of_getElem? (i := 0) rfl)))
  have Z8 : n0 ≤ T8.heap.size := Nat.le_trans Z0 Kq8.1
  refine own_by st8 ?_
  obtain ⟨fs, hr, hrun, hended, hW, hsame⟩ := X8.leave (v := none) (fun _ => rfl)
  refine ⟨_, _, ?_, hrun, hended, _, _, rfl, ?_, ⟨_, rfl⟩, hW, hsame.mono (by decide) (by decide)⟩
  · exact X8.returnOut hx Bd.returns (hb hby d58_11) hr
  · show Q58 Z a1 p1 p2 kb N i vs gz gf h0 n0 _ T8.heap _
    exact ⟨rfl, N8, K8, Aq8⟩
abbrev own_b57 := jdk_41_method_13_code
theorem d57_0 : decode own_b57 0 = .ok (.iload_n 2, 1) := by decide +kernel
theorem d57_1 : decode own_b57 1 = .ok (.iload_n 0, 1) := by decide +kernel
theorem d57_2 : decode own_b57 2 = .ok (.ior, 1) := by decide +kernel
theorem d57_3 : decode own_b57 3 = .ok (.iload_n 1, 1) := by decide +kernel
theorem d57_4 : decode own_b57 4 = .ok (.ior, 1) := by decide +kernel
theorem d57_5 : decode own_b57 5 = .ok (.ifCond .lt 10, 3) := by decide +kernel
theorem d57_8 : decode own_b57 8 = .ok (.iload_n 1, 1) := by decide +kernel
theorem d57_9 : decode own_b57 9 = .ok (.iload_n 2, 1) := by decide +kernel
theorem d57_10 : decode own_b57 10 = .ok (.iload_n 0, 1) := by decide +kernel
theorem d57_11 : decode own_b57 11 = .ok (.isub, 1) := by decide +kernel
theorem d57_12 : decode own_b57 12 = .ok (.if_icmp .le 11, 3) := by decide +kernel
theorem d57_23 : decode own_b57 23 = .ok (.iload_n 0, 1) := by decide +kernel
theorem d57_24 : decode own_b57 24 = .ok (.ireturn, 1) := by decide +kernel
theorem pn_57 : plainFor (⟨"jdk/internal/util/Preconditions", "checkFromIndexSize", "(IIILjava/util/function/BiFunction;)I"⟩ : MethodName) = true := by first | exact plainFor_of_name (by first | (simp [plainName, overriddenIn]; done) | decide +kernel) | decide +kernel | exact Jvm.Free.JP.mathPlain rfl (by decide +kernel)
theorem ef_57 (m : MethodId) (p0 : Int32) (p1 : Int32) (p2 : Int32) (gf : Value) (rf : gf.isRef = true) : entryFrame m #[(.int p0), (.int p1), (.int p2), gf] 4 = mkF m 0 #[.val (.int p0), .val (.int p1), .val (.int p2), .val gf] [] := by cases gf <;> simp [Value.isRef] at rf <;> rfl
abbrev own_r57 : Room := { frames := 0, cells := 0, slots := 0, locals := 0 }
def Q57 (Z : State) (p0 : Int32) (p1 : Int32) (p2 : Int32) (gf : Value) (m0 : Nat) (m1 : Nat) (m2 : Nat) (h0 : Heap) (n0 : Nat) (v : Option Value) (h : Heap) (L : List Loc) : Prop := v = some (.int p0) ∧ Fr n0 L ∧ h = h0
theorem rm57 (l : Launch) (Z : State) (a0 : Array Value) (hw : ∀ d ∈ tables_1, d.before a0 Z = true) (ws : List Jvm.Cond) (p0 : Int32) (p1 : Int32) (p2 : Int32) (gf : Value) (m0 : Nat) (m1 : Nat) (m2 : Nat) (h0 : Heap) (n0 : Nat) (Z0 : n0 ≤ h0.size) (rf : gf.isRef = true) (hp0 : p0 = Int32.ofNat m0) (hp1 : p1 = Int32.ofNat m1) (hp2 : p2 = Int32.ofNat m2) (hlt : m0 + m1 ≤ m2) (hm : m2 ≤ 1000) :
    MetFree l own_n12 (head1 (Jvm.Cond.code own_n12 jdk_41_method_13_code 4 (some .int) :: ws) own_r57) (fun a U => a = #[(.int p0), (.int p1), (.int p2), gf] ∧ Z.Warmed39 U.vm ∧ U.heap = h0) (fun _ _ _ _ _ => True) (fun _ U o U' => ∃ v L, o = .returned v ∧ Q57 Z p0 p1 p2 gf m0 m1 m2 h0 n0 v U'.heap L ∧ FrameEnd U o U' L own_r57.cells own_r57.slots) := by
  refine MetFree.of_bodySF pn_57 hisR ?_
  intro p e s m args below meth c s₁ Bd hml0 hP hK
  obtain ⟨rfl, hZ, hh⟩ := hP
  have hx := Bd.exec
  have hby := Bd.bytes
  have hml : c.maxLocals = 4 := hml0
  have hown : s.vm.findClass "jdk/internal/util/Preconditions" = some m.cls := findClass_of_methodNamed Bd.named
  have hnm := (name_of_methodNamed Bd.named Bd.method).1
  have X0 : Stand p l e own_r57 s m #[(.int p0), (.int p1), (.int p2), gf] below meth c s₁ [] 0 0 := Stand.of_body Bd
  have e0 : s₁.heap = h0 := by rw [← hh, Bd.state]; rfl
  have N0 := Fr.nil n0
  refine own_at (castTop (ef_57 m p0 p1 p2 gf rf)) ?_
  have K0 := Keep.refl h0 []
  obtain ⟨t11, ht11⟩ : ∃ z : Int32, z = (p2 - p0) := ⟨_, rfl⟩
  have sg12 : own_G p e below s₁ (mkF m 12 #[.val (.int p0), .val (.int p1), .val (.int p2), .val gf] [(.int t11), (.int p1)]) s₁ (mkF m 0 #[.val (.int p0), .val (.int p1), .val (.int p2), .val gf] []) := by
    intro t k
    rw [ht11] at k
    refine XS.iloadN X0.here hx rfl (hb hby d57_0) rfl ?_
    refine XS.iloadN X0.here hx rfl (hb hby d57_1) rfl ?_
    refine XS.ior X0.here hx rfl (hb hby d57_2) rfl ?_
    refine XS.iloadN X0.here hx rfl (hb hby d57_3) rfl ?_
    refine XS.ior X0.here hx rfl (hb hby d57_4) rfl ?_
    refine XS.ifNo X0.here hx rfl (hb hby d57_5) rfl ((if0 _ _).trans (flt (own_norge hp2 hp0 hp1 (by omega) (by omega) (by omega) : ¬ (((p2 ||| p0) ||| p1) < (0 : Int32)))).1) ?_
    refine XS.iloadN X0.here hx rfl (hb hby d57_8) rfl ?_
    refine XS.iloadN X0.here hx rfl (hb hby d57_9) rfl ?_
    refine XS.iloadN X0.here hx rfl (hb hby d57_10) rfl ?_
    refine XS.isub X0.here hx rfl (hb hby d57_11) rfl ?_
    exact k
  refine own_by sg12 ?_
  have nt_t11 : t11 = Int32.ofNat (m2 - (m0)) := ht11.trans (own_nsub hp2 hp0 (by omega))
  have sg24 : own_G p e below s₁ (mkF m 24 #[.val (.int p0), .val (.int p1), .val (.int p2), .val gf] [(.int p0)]) s₁ (mkF m 12 #[.val (.int p0), .val (.int p1), .val (.int p2), .val gf] [(.int t11), (.int p1)]) := by
    intro t k
    refine XS.icmpYes X0.here hx rfl (pc0 := 12) (pc' := 23) rfl (hb hby d57_12) rfl (flt ((not_congr (own_nlt nt_t11 hp1 (by omega) (by omega))).mpr (by omega) : ¬ (t11 < p1))).2.2.2 (by decide) (by decide) ?_
    refine XS.iloadN X0.here hx rfl (hb hby d57_23) rfl ?_
    exact k
  refine own_by sg24 ?_
  obtain ⟨fs, hr, hrun, hended, hW, hsame⟩ := X0.leave (v := some (.int p0)) (fun h => by rw [Bd.returns] at h; cases h)
  refine ⟨_, _, ?_, hrun, hended, _, _, rfl, ?_, ⟨_, rfl⟩, hW, hsame.mono (by decide) (by decide)⟩
  · exact retI X0 hx Bd.returns (hb hby d57_24) hr
  · show Q57 Z p0 p1 p2 gf m0 m1 m2 h0 n0 _ s₁.heap _
    rw [e0]
    exact ⟨rfl, N0, rfl⟩
abbrev own_b56 := jdk_42_method_157_code
theorem d56_0 : decode own_b56 0 = .ok (.iload_n 0, 1) := by decide +kernel
theorem d56_1 : decode own_b56 1 = .ok (.iload_n 1, 1) := by decide +kernel
theorem d56_2 : decode own_b56 2 = .ok (.iload_n 2, 1) := by decide +kernel
theorem d56_3 : decode own_b56 3 = .ok (.getstatic 1053, 3) := by decide +kernel
theorem d56_6 : decode own_b56 6 = .ok (.invokestatic 1065, 3) := by decide +kernel
theorem d56_9 : decode own_b56 9 = .ok (.ireturn, 1) := by decide +kernel
theorem pn_56 : plainFor (⟨"java/lang/String", "checkBoundsOffCount", "(III)I"⟩ : MethodName) = true := by first | exact plainFor_of_name (by first | (simp [plainName, overriddenIn]; done) | decide +kernel) | decide +kernel | exact Jvm.Free.JP.mathPlain rfl (by decide +kernel)
theorem pd_56_0 : parseMethodDescriptor "(IIILjava/util/function/BiFunction;)I" = some ⟨[.int, .int, .int, (.object "java/util/function/BiFunction")], some .int⟩ := by decide +kernel
theorem ef_56 (m : MethodId) (p0 : Int32) (p1 : Int32) (p2 : Int32) : entryFrame m #[(.int p0), (.int p1), (.int p2)] 3 = mkF m 0 #[.val (.int p0), .val (.int p1), .val (.int p2)] [] := by first | (simp [entryFrame, mkF, argsToLocals, Value.category]; done) | rfl
abbrev own_r56 : Room := { frames := 1, cells := 0, slots := 0, locals := 15 }
def Q56 (Z : State) (p0 : Int32) (p1 : Int32) (p2 : Int32) (m0 : Nat) (m1 : Nat) (m2 : Nat) (gz : Int32) (gf : Value) (h0 : Heap) (n0 : Nat) (v : Option Value) (h : Heap) (L : List Loc) : Prop := v = some (.int p0) ∧ Fr n0 L ∧ h = h0
theorem rm56 (l : Launch) (Z : State) (a0 : Array Value) (hw : ∀ d ∈ tables_1, d.before a0 Z = true) (ws : List Jvm.Cond) (p0 : Int32) (p1 : Int32) (p2 : Int32) (m0 : Nat) (m1 : Nat) (m2 : Nat) (gz : Int32) (gf : Value) (h0 : Heap) (n0 : Nat) (Z0 : n0 ≤ h0.size) (O : Old Z n0 h0) (hst : own_ST Z gz gf) (hp0 : p0 = Int32.ofNat m0) (hp1 : p1 = Int32.ofNat m1) (hp2 : p2 = Int32.ofNat m2) (hlt : m0 + m1 ≤ m2) (hm : m2 ≤ 1000) :
    MetFree l own_n13 (head1 (Jvm.Cond.code own_n13 jdk_42_method_157_code 3 (some .int) :: ws) own_r56) (fun a U => a = #[(.int p0), (.int p1), (.int p2)] ∧ Z.Warmed39 U.vm ∧ U.heap = h0) (fun _ _ _ _ _ => True) (fun _ U o U' => ∃ v L, o = .returned v ∧ Q56 Z p0 p1 p2 m0 m1 m2 gz gf h0 n0 v U'.heap L ∧ FrameEnd U o U' L own_r56.cells own_r56.slots) := by
  refine MetFree.of_bodySF pn_56 hisR ?_
  intro p e s m args below meth c s₁ Bd hml0 hP hK
  obtain ⟨rfl, hZ, hh⟩ := hP
  have hx := Bd.exec
  have hby := Bd.bytes
  have hml : c.maxLocals = 3 := hml0
  have hown : s.vm.findClass "java/lang/String" = some m.cls := findClass_of_methodNamed Bd.named
  have hnm := (name_of_methodNamed Bd.named Bd.method).1
  have X0 : Stand p l e own_r56 s m #[(.int p0), (.int p1), (.int p2)] below meth c s₁ [] 0 0 := Stand.of_body Bd
  have e0 : s₁.heap = h0 := by rw [← hh, Bd.state]; rfl
  have N0 := Fr.nil n0
  refine own_at (castTop (ef_56 m p0 p1 p2)) ?_
  have K0 := Keep.refl h0 []
  obtain ⟨S1, P5, S2, rf, S3, S4, S5⟩ := id hst
  have sg3 : own_G p e below s₁ (mkF m 3 #[.val (.int p0), .val (.int p1), .val (.int p2)] [(.int p2), (.int p1), (.int p0)]) s₁ (mkF m 0 #[.val (.int p0), .val (.int p1), .val (.int p2)] []) := by
    intro t k
    refine XS.iloadN X0.here hx rfl (hb hby d56_0) rfl ?_
    refine XS.iloadN X0.here hx rfl (hb hby d56_1) rfl ?_
    refine XS.iloadN X0.here hx rfl (hb hby d56_2) rfl ?_
    exact k
  refine own_by sg3 ?_
  obtain ⟨T3, X3, e3, st3⟩ := getS2 X0 hx hZ hown (host := "") (Or.inl (own_w hw 105 rfl)) Via.refl e0 (S2.ext O.2) (g := (mkF m 3 #[.val (.int p0), .val (.int p1), .val (.int p2)] [(.int p2), (.int p1), (.int p0)])) rfl (hb hby d56_3)
  refine own_by st3 ?_
  obtain ⟨_, _, ⟨T6, L6, k6, n6⟩, -, X6, ⟨Lc6, hQ6, l6, y6, z6⟩, st6⟩ := Jvm.LawKit.callS X3 hx (y := own_n12) hown (mvT hZ (own_w hw 272 rfl)) (mvT hZ (own_w hw 273 rfl)) (mvT hZ (own_w hw 106 rfl)) (mvT hZ (own_w hw 274 rfl)) (by decide) (backOf (W := 0) (rm57 l Z a0 hw [] p0 p1 p2 gf m0 m1 m2 h0 n0 Z0 rf hp0 hp1 hp2 hlt hm) hZ (own_w hw 274 rfl) (own_w hw 106 rfl) (by decide) (by decide)) (g := (mkF m 6 #[.val (.int p0), .val (.int p1), .val (.int p2)] [gf, (.int p2), (.int p1), (.int p0)])) rfl (by rw [hml]; rfl) (argsL := [(.int p0), (.int p1), (.int p2), gf]) (rest := []) (lenOf pd_56_0 rfl) rfl (Nat.le_of_eq rfl) (hb hby d56_6) (fun _ _ => ⟨rfl, e3, (by decide : 0 + 0 ≤ _), (by decide : 0 + 0 ≤ _)⟩)
  dsimp only [Pt.U, Pt.locs, Pt.cells, Pt.slots] at X6 l6 y6 z6 st6 hQ6
  subst l6 y6 z6
  obtain ⟨rfl, N6q, hq6⟩ := hQ6
  have N6 := Fr.app N0 N6q
  refine own_by st6 ?_
  obtain ⟨fs, hr, hrun, hended, hW, hsame⟩ := X6.leave (v := some (.int p0)) (fun h => by rw [Bd.returns] at h; cases h)
  refine ⟨_, _, ?_, hrun, hended, _, _, rfl, ?_, ⟨_, rfl⟩, hW, hsame.mono (by decide) (by decide)⟩
  · exact retI X6 hx Bd.returns (hb hby d56_9) hr
  · show Q56 Z p0 p1 p2 m0 m1 m2 gz gf h0 n0 _ T6.heap _
    rw [hq6]
    exact ⟨rfl, N6, rfl⟩
abbrev own_b55 := jdk_52_method_94_code
theorem d55_0 : decode own_b55 0 = .ok (.iload_n 0, 1) := by decide +kernel
theorem d55_1 : decode own_b55 1 = .ok (.iload_n 1, 1) := by decide +kernel
theorem d55_2 : decode own_b55 2 = .ok (.aload_n 2, 1) := by decide +kernel
theorem d55_3 : decode own_b55 3 = .ok (.invokestatic 48, 3) := by decide +kernel
theorem d55_6 : decode own_b55 6 = .ok (.invokestatic 419, 3) := by decide +kernel
theorem d55_9 : decode own_b55 9 = .ok (.pop, 1) := by decide +kernel
theorem d55_10 : decode own_b55 10 = .ok (.return_, 1) := by decide +kernel
theorem pn_55 : plainFor (⟨"java/lang/StringUTF16", "checkBoundsOffCount", "(II[B)V"⟩ : MethodName) = true := by first | exact plainFor_of_name (by first | (simp [plainName, overriddenIn]; done) | decide +kernel) | decide +kernel | exact Jvm.Free.JP.mathPlain rfl (by decide +kernel)
theorem pd_55_0 : parseMethodDescriptor "([B)I" = some ⟨[(.array .byte)], some .int⟩ := by decide +kernel
theorem pd_55_1 : parseMethodDescriptor "(III)I" = some ⟨[.int, .int, .int], some .int⟩ := by decide +kernel
theorem ef_55 (m : MethodId) (p0 : Int32) (p1 : Int32) (a1 : Addr) : entryFrame m #[(.int p0), (.int p1), (.ref a1)] 3 = mkF m 0 #[.val (.int p0), .val (.int p1), .val (.ref a1)] [] := by first | (simp [entryFrame, mkF, argsToLocals, Value.category]; done) | rfl
abbrev own_r55 : Room := { frames := 2, cells := 0, slots := 0, locals := 29 }
def Q55 (Z : State) (p0 : Int32) (p1 : Int32) (a1 : Addr) (kb : ClassId) (N : Nat) (vs : List Value) (m0 : Nat) (m1 : Nat) (gz : Int32) (gf : Value) (h0 : Heap) (n0 : Nat) (v : Option Value) (h : Heap) (L : List Loc) : Prop := v = none ∧ Fr n0 L ∧ h = h0
theorem rm55 (l : Launch) (Z : State) (a0 : Array Value) (hw : ∀ d ∈ tables_1, d.before a0 Z = true) (ws : List Jvm.Cond) (p0 : Int32) (p1 : Int32) (a1 : Addr) (kb : ClassId) (N : Nat) (vs : List Value) (m0 : Nat) (m1 : Nat) (gz : Int32) (gf : Value) (h0 : Heap) (n0 : Nat) (Z0 : n0 ≤ h0.size) (O : Old Z n0 h0) (hst : own_ST Z gz gf) (A_1 : Arv Z h0 a1 kb .byte (Int32.ofNat (N)) vs (.int (0 : Int32))) (hp0 : p0 = Int32.ofNat m0) (hp1 : p1 = Int32.ofNat m1) (hlt : 2 * (m0 + m1) ≤ N) (hN : N ≤ 1000) :
    MetFree l own_n14 (head1 (Jvm.Cond.code own_n14 jdk_52_method_94_code 3 none :: ws) own_r55) (fun a U => a = #[(.int p0), (.int p1), (.ref a1)] ∧ Z.Warmed39 U.vm ∧ U.heap = h0) (fun _ _ _ _ _ => True) (fun _ U o U' => ∃ v L, o = .returned v ∧ Q55 Z p0 p1 a1 kb N vs m0 m1 gz gf h0 n0 v U'.heap L ∧ FrameEnd U o U' L own_r55.cells own_r55.slots) := by
  refine MetFree.of_bodySF pn_55 hisR ?_
  intro p e s m args below meth c s₁ Bd hml0 hP hK
  obtain ⟨rfl, hZ, hh⟩ := hP
  have hx := Bd.exec
  have hby := Bd.bytes
  have hml : c.maxLocals = 3 := hml0
  have hown : s.vm.findClass "java/lang/StringUTF16" = some m.cls := findClass_of_methodNamed Bd.named
  have hnm := (name_of_methodNamed Bd.named Bd.method).1
  have X0 : Stand p l e own_r55 s m #[(.int p0), (.int p1), (.ref a1)] below meth c s₁ [] 0 0 := Stand.of_body Bd
  have e0 : s₁.heap = h0 := by rw [← hh, Bd.state]; rfl
  have N0 := Fr.nil n0
  refine own_at (castTop (ef_55 m p0 p1 a1)) ?_
  have K0 := Keep.refl h0 []
  obtain ⟨S1, P5, S2, rf, S3, S4, S5⟩ := id hst
  have sg3 : own_G p e below s₁ (mkF m 3 #[.val (.int p0), .val (.int p1), .val (.ref a1)] [(.ref a1), (.int p1), (.int p0)]) s₁ (mkF m 0 #[.val (.int p0), .val (.int p1), .val (.ref a1)] []) := by
    intro t k
    refine XS.iloadN X0.here hx rfl (hb hby d55_0) rfl ?_
    refine XS.iloadN X0.here hx rfl (hb hby d55_1) rfl ?_
    refine XS.aloadN X0.here hx rfl (hb hby d55_2) rfl rfl ?_
    exact k
  refine own_by sg3 ?_
  obtain ⟨_, _, ⟨T3, L3, k3, n3⟩, -, X3, ⟨Lc3, hQ3, l3, y3, z3⟩, st3⟩ := Jvm.LawKit.callS X0 hx (y := own_n8) hown (mvT hZ (own_w hw 250 rfl)) (mvT hZ (own_w hw 251 rfl)) (mvT hZ (own_w hw 18 rfl)) (mvT hZ (own_w hw 252 rfl)) (by decide) (backOf (W := 2) (rm51 l Z a0 hw [] a1 kb N vs h0 n0 Z0 A_1 (by omega)) hZ (own_w hw 252 rfl) (own_w hw 18 rfl) (by decide) (by decide)) (g := (mkF m 3 #[.val (.int p0), .val (.int p1), .val (.ref a1)] [(.ref a1), (.int p1), (.int p0)])) rfl (by rw [hml]; rfl) (argsL := [(.ref a1)]) (rest := [(.int p1), (.int p0)]) (lenOf pd_55_0 rfl) rfl (Nat.le_of_eq rfl) (hb hby d55_3) (fun _ _ => ⟨rfl, e0, (by decide : 0 + 0 ≤ _), (by decide : 0 + 0 ≤ _)⟩)
  dsimp only [Pt.U, Pt.locs, Pt.cells, Pt.slots] at X3 l3 y3 z3 st3 hQ3
  subst l3 y3 z3
  obtain ⟨rfl, N3q, hq3⟩ := hQ3
  have N3 := Fr.app N0 N3q
  obtain ⟨c3, hc3⟩ : ∃ z : Int32, z = (Int32.ofNat (N / 2)) := ⟨_, rfl⟩
  rw [← hc3] at st3
  have nt_c3 : c3 = Int32.ofNat (N / 2) := hc3
  refine own_by st3 ?_
  obtain ⟨_, _, ⟨T6, L6, k6, n6⟩, -, X6, ⟨Lc6, hQ6, l6, y6, z6⟩, st6⟩ := Jvm.LawKit.callS X3 hx (y := own_n13) hown (mvT hZ (own_w hw 269 rfl)) (mvT hZ (own_w hw 270 rfl)) (mvT hZ (own_w hw 4 rfl)) (mvT hZ (own_w hw 271 rfl)) (by decide) (backOf (W := 0) (rm56 l Z a0 hw [] p0 p1 c3 m0 m1 (N / 2) gz gf h0 n0 Z0 O hst hp0 hp1 nt_c3 (by omega) (by omega)) hZ (own_w hw 271 rfl) (own_w hw 4 rfl) (by decide) (by decide)) (g := (mkF m 6 #[.val (.int p0), .val (.int p1), .val (.ref a1)] [(.int c3), (.int p1), (.int p0)])) rfl (by rw [hml]; rfl) (argsL := [(.int p0), (.int p1), (.int c3)]) (rest := []) (lenOf pd_55_1 rfl) rfl (Nat.le_of_eq rfl) (hb hby d55_6) (fun _ _ => ⟨rfl, hq3, (by decide : 0 + 0 ≤ _), (by decide : 0 + 0 ≤ _)⟩)
  dsimp only [Pt.U, Pt.locs, Pt.cells, Pt.slots] at X6 l6 y6 z6 st6 hQ6
  subst l6 y6 z6
  obtain ⟨rfl, N6q, hq6⟩ := hQ6
  have N6 := Fr.app N3 N6q
  refine own_by st6 ?_
  have sg10 : own_G p e below T6 (mkF m 10 #[.val (.int p0), .val (.int p1), .val (.ref a1)] []) T6 (mkF m 9 #[.val (.int p0), .val (.int p1), .val (.ref a1)] [(.int p0)]) := by
    intro t k
    refine XS.pop X6.here hx rfl (hb hby d55_9) rfl rfl ?_
    exact k
  refine own_by sg10 ?_
  obtain ⟨fs, hr, hrun, hended, hW, hsame⟩ := X6.leave (v := none) (fun _ => rfl)
  refine ⟨_, _, ?_, hrun, hended, _, _, rfl, ?_, ⟨_, rfl⟩, hW, hsame.mono (by decide) (by decide)⟩
  · exact X6.returnOut hx Bd.returns (hb hby d55_10) hr
  · show Q55 Z p0 p1 a1 kb N vs m0 m1 gz gf h0 n0 _ T6.heap _
    rw [hq6]
    exact ⟨rfl, N6, rfl⟩
abbrev own_b54 := jdk_52_method_86_code
theorem d54_0 : decode own_b54 0 = .ok (.iload_n 3, 1) := by decide +kernel
theorem d54_1 : decode own_b54 1 = .ok (.iload 4, 2) := by decide +kernel
theorem d54_3 : decode own_b54 3 = .ok (.aload_n 2, 1) := by decide +kernel
theorem d54_4 : decode own_b54 4 = .ok (.invokestatic 173, 3) := by decide +kernel
theorem d54_7 : decode own_b54 7 = .ok (.iconst 0, 1) := by decide +kernel
theorem d54_8 : decode own_b54 8 = .ok (.istore 5, 2) := by decide +kernel
theorem d54_10 : decode own_b54 10 = .ok (.iload 5, 2) := by decide +kernel
theorem d54_12 : decode own_b54 12 = .ok (.iload 4, 2) := by decide +kernel
theorem d54_14 : decode own_b54 14 = .ok (.if_icmp .ge 27, 3) := by decide +kernel
theorem d54_17 : decode own_b54 17 = .ok (.aload_n 2, 1) := by decide +kernel
theorem d54_18 : decode own_b54 18 = .ok (.iload_n 3, 1) := by decide +kernel
theorem d54_19 : decode own_b54 19 = .ok (.iinc 3 1, 3) := by decide +kernel
theorem d54_22 : decode own_b54 22 = .ok (.aload_n 0, 1) := by decide +kernel
theorem d54_23 : decode own_b54 23 = .ok (.iload_n 1, 1) := by decide +kernel
theorem d54_24 : decode own_b54 24 = .ok (.iinc 1 1, 3) := by decide +kernel
theorem d54_27 : decode own_b54 27 = .ok (.baload, 1) := by decide +kernel
theorem d54_28 : decode own_b54 28 = .ok (.sipush 255, 3) := by decide +kernel
theorem d54_31 : decode own_b54 31 = .ok (.iand, 1) := by decide +kernel
theorem d54_32 : decode own_b54 32 = .ok (.invokestatic 111, 3) := by decide +kernel
theorem d54_35 : decode own_b54 35 = .ok (.iinc 5 1, 3) := by decide +kernel
theorem d54_38 : decode own_b54 38 = .ok (.goto (-28), 3) := by decide +kernel
theorem d54_41 : decode own_b54 41 = .ok (.return_, 1) := by decide +kernel
theorem pn_54 : plainFor (⟨"java/lang/StringUTF16", "inflate", "([BI[BII)V"⟩ : MethodName) = true := by first | exact plainFor_of_name (by first | (simp [plainName, overriddenIn]; done) | decide +kernel) | decide +kernel | exact Jvm.Free.JP.mathPlain rfl (by decide +kernel)
theorem pd_54_0 : parseMethodDescriptor "(II[B)V" = some ⟨[.int, .int, (.array .byte)], none⟩ := by decide +kernel
theorem pd_54_1 : parseMethodDescriptor "([BII)V" = some ⟨[(.array .byte), .int, .int], none⟩ := by decide +kernel
theorem ef_54 (m : MethodId) (a1 : Addr) (a3 : Addr) (p3 : Int32) (p4 : Int32) : entryFrame m #[(.ref a1), (.int (0 : Int32)), (.ref a3), (.int p3), (.int p4)] 6 = mkF m 0 #[.val (.ref a1), .val (.int (0 : Int32)), .val (.ref a3), .val (.int p3), .val (.int p4), .unset] [] := by first | (simp [entryFrame, mkF, argsToLocals, Value.category]; done) | rfl
abbrev own_r54 : Room := { frames := 3, cells := 0, slots := 0, locals := 43 }
def Q54 (Z : State) (a1 : Addr) (a3 : Addr) (p3 : Int32) (p4 : Int32) (kb : ClassId) (Ns : Nat) (cs : List Int32) (kd : ClassId) (Nd : Nat) (ds : List Int32) (gz : Int32) (gf : Value) (h0 : Heap) (n0 : Nat) (v : Option Value) (h : Heap) (L : List Loc) : Prop := v = none ∧ Fr n0 L ∧ Keep h0 h [a3] ∧ Arv Z h a3 kd .byte (Int32.ofNat (Nd)) (own_c1 (ds ++ cs)) (.int (0 : Int32))
theorem rm54 (l : Launch) (Z : State) (a0 : Array Value) (hw : ∀ d ∈ tables_1, d.before a0 Z = true) (ws : List Jvm.Cond) (a1 : Addr) (a3 : Addr) (p3 : Int32) (p4 : Int32) (kb : ClassId) (Ns : Nat) (cs : List Int32) (kd : ClassId) (Nd : Nat) (ds : List Int32) (gz : Int32) (gf : Value) (h0 : Heap) (n0 : Nat) (Z0 : n0 ≤ h0.size) (O : Old Z n0 h0) (hst : own_ST Z gz gf) (A_s : Arv Z h0 a1 kb .byte (Int32.ofNat (Ns)) (own_c0 cs) (.int (0 : Int32))) (A_d : Arv Z h0 a3 kd .byte (Int32.ofNat (Nd)) (own_c1 ds) (.int (0 : Int32))) (hp3 : p3 = Int32.ofNat ds.length) (hp4 : p4 = Int32.ofNat cs.length) (hsl : cs.length ≤ Ns) (hNs : Ns ≤ 1000) (hfit : 2 * (ds.length + cs.length) ≤ Nd) (hNd : Nd ≤ 1000) (hlat : own_lat cs) (n13 : a1 ≠ a3) (g_a3 : n0 ≤ a3) :
    MetFree l own_n15 (head1 (Jvm.Cond.code own_n15 jdk_52_method_86_code 6 none :: ws) own_r54) (fun a U => a = #[(.ref a1), (.int (0 : Int32)), (.ref a3), (.int p3), (.int p4)] ∧ Z.Warmed39 U.vm ∧ U.heap = h0) (fun _ _ _ _ _ => True) (fun _ U o U' => ∃ v L, o = .returned v ∧ Q54 Z a1 a3 p3 p4 kb Ns cs kd Nd ds gz gf h0 n0 v U'.heap L ∧ FrameEnd U o U' L own_r54.cells own_r54.slots) := by
  refine MetFree.of_bodySF pn_54 hisR ?_
  intro p e s m args below meth c s₁ Bd hml0 hP hK
  obtain ⟨rfl, hZ, hh⟩ := hP
  have hx := Bd.exec
  have hby := Bd.bytes
  have hml : c.maxLocals = 6 := hml0
  have hown : s.vm.findClass "java/lang/StringUTF16" = some m.cls := findClass_of_methodNamed Bd.named
  have hnm := (name_of_methodNamed Bd.named Bd.method).1
  have X0 : Stand p l e own_r54 s m #[(.ref a1), (.int (0 : Int32)), (.ref a3), (.int p3), (.int p4)] below meth c s₁ [] 0 0 := Stand.of_body Bd
  have e0 : s₁.heap = h0 := by rw [← hh, Bd.state]; rfl
  have N0 := Fr.nil n0
  refine own_at (castTop (ef_54 m a1 a3 p3 p4)) ?_
  have K0 := Keep.refl h0 [a3]
  obtain ⟨S1, P5, S2, rf, S3, S4, S5⟩ := id hst
  have sg4 : own_G p e below s₁ (mkF m 4 (own_ARIRIIU a1 (0 : Int32) a3 p3 p4) [(.ref a3), (.int p4), (.int p3)]) s₁ (mkF m 0 (own_ARIRIIU a1 (0 : Int32) a3 p3 p4) []) := by
    intro t k
    refine XS.iloadN X0.here hx rfl (hb hby d54_0) rfl ?_
    refine XS.iload X0.here hx rfl (hb hby d54_1) rfl ?_
    refine XS.aloadN X0.here hx rfl (hb hby d54_3) rfl rfl ?_
    exact k
  refine own_by sg4 ?_
  obtain ⟨_, _, ⟨T4, L4, k4, n4⟩, -, X4, ⟨Lc4, hQ4, l4, y4, z4⟩, st4⟩ := Jvm.LawKit.callS X0 hx (y := own_n14) hown (mvT hZ (own_w hw 266 rfl)) (mvT hZ (own_w hw 267 rfl)) (mvT hZ (own_w hw 18 rfl)) (mvT hZ (own_w hw 268 rfl)) (by decide) (backOf (W := 0) (rm55 l Z a0 hw [] p3 p4 a3 kd Nd (own_c1 ds) ds.length cs.length gz gf h0 n0 Z0 O hst A_d hp3 hp4 hfit hNd) hZ (own_w hw 268 rfl) (own_w hw 18 rfl) (by decide) (by decide)) (g := (mkF m 4 (own_ARIRIIU a1 (0 : Int32) a3 p3 p4) [(.ref a3), (.int p4), (.int p3)])) rfl (by rw [hml]; rfl) (argsL := [(.int p3), (.int p4), (.ref a3)]) (rest := []) (lenOf pd_54_0 rfl) rfl (Nat.le_of_eq rfl) (hb hby d54_4) (fun _ _ => ⟨rfl, e0, (by decide : 0 + 0 ≤ _), (by decide : 0 + 0 ≤ _)⟩)
  dsimp only [Pt.U, Pt.locs, Pt.cells, Pt.slots] at X4 l4 y4 z4 st4 hQ4
  subst l4 y4 z4
  obtain ⟨rfl, N4q, hq4⟩ := hQ4
  have N4 := Fr.app N0 N4q
  refine own_by st4 ?_
  have sg10 : own_G p e below T4 (mkF m 10 (own_ARIRIII a1 (0 : Int32) a3 p3 p4 (0 : Int32)) []) T4 (mkF m 7 (own_ARIRIIU a1 (0 : Int32) a3 p3 p4) []) := by
    intro t k
    refine XS.iconst X4.here hx rfl (hb hby d54_7) ?_
    refine XS.istore X4.here hx rfl (hb hby d54_8) rfl (l' := (own_ARIRIII a1 (0 : Int32) a3 p3 p4 (0 : Int32))) rfl ?_
    exact k
  refine own_by sg10 ?_
  have loop : ∀ (rest done : List Int32) (i j d : Int32) (T : State) (L : List Loc) (H : Heap), cs = done ++ rest → i = Int32.ofNat done.length → j = Int32.ofNat done.length → d = Int32.ofNat (ds.length + done.length) → Stand p l e own_r54 s m #[(.ref a1), (.int (0 : Int32)), (.ref a3), (.int p3), (.int p4)] below meth c T L 0 0 → Fr n0 L → T.heap = H → Keep h0 H [a3] → n0 ≤ H.size → Old Z n0 H → Arv Z H a3 kd .byte (Int32.ofNat (Nd)) (own_c1 (ds ++ done)) (.int (0 : Int32)) → ∃ (T' : State) (L' : List Loc) (H' : Heap) (i' j' d' : Int32), Stand p l e own_r54 s m #[(.ref a1), (.int (0 : Int32)), (.ref a3), (.int p3), (.int p4)] below meth c T' L' 0 0 ∧ Fr n0 L' ∧ T'.heap = H' ∧ Keep h0 H' [a3] ∧ Arv Z H' a3 kd .byte (Int32.ofNat (Nd)) (own_c1 (ds ++ cs)) (.int (0 : Int32)) ∧ ∀ t, own_S p e below T' (mkF m 41 (own_ARIRIII a1 j' a3 d' p4 i') []) t → own_S p e below T (mkF m 10 (own_ARIRIII a1 j a3 d p4 i) []) t := by
    intro rest
    induction rest with
    | nil =>
      intro done i j d T L H hd hi hj hdd X NL eT KH ZH OH AH
      have AS := A_s.keep KH (fun h => n13 (List.mem_singleton.mp h))
      have hle : done.length ≤ cs.length := by rw [hd]; simp
      have hll : cs.length = done.length := by rw [hd]; simp
      have sg41 : own_G p e below T (mkF m 41 (own_ARIRIII a1 j a3 d p4 i) []) T (mkF m 10 (own_ARIRIII a1 j a3 d p4 i) []) := by
        intro t k
        refine XS.iload X.here hx rfl (hb hby d54_10) rfl ?_
        refine XS.iload X.here hx rfl (hb hby d54_12) rfl ?_
        refine XS.icmpYes X.here hx rfl (pc0 := 14) (pc' := 41) rfl (hb hby d54_14) rfl (flt ((not_congr (own_nlt hi hp4 (by omega) (by omega))).mpr (by omega) : ¬ (i < p4))).2.1 (by decide) (by decide) ?_
        exact k
      have hdn : cs = done := by rw [hd]; simp
      exact ⟨T, _, _, _, _, _, X, NL, eT, KH, (by rw [hdn]; exact AH), fun t k => (sg41 t k)⟩
    | cons c rest ih =>
      intro done i j d T L H hd hi hj hdd X NL eT KH ZH OH AH
      have AS := A_s.keep KH (fun h => n13 (List.mem_singleton.mp h))
      have hle : done.length ≤ cs.length := by rw [hd]; simp
      have hq : cs[done.length]? = some c := by rw [hd]; simp
      have hll : done.length < cs.length := (List.getElem?_eq_some_iff.mp hq).1
      have hcc := hlat c (List.mem_of_getElem? hq)
      have hvl1 : (own_c1 (ds ++ done)).length = 2 * (ds.length + done.length) := by rw [own_c1_len, List.length_append]
      have sg27 : own_G p e below T (mkF m 27 (own_ARIRIII a1 (j + (1 : Int32)) a3 (d + (1 : Int32)) p4 i) [(.int j), (.ref a1), (.int d), (.ref a3)]) T (mkF m 10 (own_ARIRIII a1 j a3 d p4 i) []) := by
        intro t k
        refine XS.iload X.here hx rfl (hb hby d54_10) rfl ?_
        refine XS.iload X.here hx rfl (hb hby d54_12) rfl ?_
        refine XS.icmpNo X.here hx rfl (hb hby d54_14) rfl (tlt ((own_nlt hi hp4 (by omega) (by omega)).mpr hll : i < p4)).2.1 ?_
        refine XS.aloadN X.here hx rfl (hb hby d54_17) rfl rfl ?_
        refine XS.iloadN X.here hx rfl (hb hby d54_18) rfl ?_
        refine XS.iinc X.here hx rfl (hb hby d54_19) rfl (l' := (own_ARIRIII a1 j a3 (d + (1 : Int32)) p4 i)) rfl ?_
        refine XS.aloadN X.here hx rfl (hb hby d54_22) rfl rfl ?_
        refine XS.iloadN X.here hx rfl (hb hby d54_23) rfl ?_
        refine XS.iinc X.here hx rfl (hb hby d54_24) rfl (l' := (own_ARIRIII a1 (j + (1 : Int32)) a3 (d + (1 : Int32)) p4 i)) rfl ?_
        exact k
      obtain ⟨cl27, Ar27, qa27, Sa27, Na27, Ha27, Ga27⟩ := id AS
      have ib27 : ¬ (j < 0 ∨ cl27.slots.size ≤ j.toNatClampNeg) := inb_of Sa27 ⟨(own_nge (hj) (by omega)), (own_nlt hj (rfl : Int32.ofNat (Ns) = Int32.ofNat (Ns)) (by omega) (by omega)).mpr (by omega)⟩
      obtain ⟨k, hk⟩ : ∃ z : Int32, z = (c.toInt8.toInt32 &&& (255 : Int32)) := ⟨_, rfl⟩
      have sg32 : own_G p e below T (mkF m 32 (own_ARIRIII a1 (j + (1 : Int32)) a3 (d + (1 : Int32)) p4 i) [(.int k), (.int d), (.ref a3)]) T (mkF m 27 (own_ARIRIII a1 (j + (1 : Int32)) a3 (d + (1 : Int32)) p4 i) [(.int j), (.ref a1), (.int d), (.ref a3)]) := by
        intro t k
        rw [hk] at k
        refine X.baloadBytes hx (j := j) (v := (.int c.toInt8.toInt32)) (by rw [eT]; exact Ar27.1) (State.isArrayOf_alike hZ.alike Ar27.2.1) Ar27.2.2 ib27 (Has.at Ha27 ib27 (by rw [own_ntc (hj) (by omega)]; exact own_c0_at hq _)) (g := (mkF m 27 (own_ARIRIII a1 (j + (1 : Int32)) a3 (d + (1 : Int32)) p4 i) [(.int j), (.ref a1), (.int d), (.ref a3)])) rfl rfl (hb hby d54_27) _ ?_
        refine XS.sipush X.here hx rfl (hb hby d54_28) ?_
        refine XS.iand X.here hx rfl (hb hby d54_31) rfl ?_
        exact k
      have hkc : k = c := by rw [hk]; exact own_mask hcc
      obtain ⟨_, _, ⟨T32, L32, k32, n32⟩, -, X32, ⟨Lc32, hQ32, l32, y32, z32⟩, st32⟩ := Jvm.LawKit.callS X hx (y := own_n11) hown (mvT hZ (own_w hw 235 rfl)) (mvT hZ (own_w hw 236 rfl)) (mvT hZ (own_w hw 18 rfl)) (mvT hZ (own_w hw 237 rfl)) (by decide) (backOf (W := 0) (rm47 l Z a0 hw [] a3 d k kd Nd (ds.length + done.length) (own_c1 (ds ++ done)) gz gf H n0 ZH OH hst AH hdd hvl1 (by omega) hNd g_a3) hZ (own_w hw 237 rfl) (own_w hw 18 rfl) (by decide) (by decide)) (g := (mkF m 32 (own_ARIRIII a1 (j + (1 : Int32)) a3 (d + (1 : Int32)) p4 i) [(.int k), (.int d), (.ref a3)])) rfl (by rw [hml]; rfl) (argsL := [(.ref a3), (.int d), (.int k)]) (rest := []) (lenOf pd_54_1 rfl) rfl (Nat.le_of_eq rfl) (hb hby d54_32) (fun _ _ => ⟨rfl, eT, (by decide : 0 + 0 ≤ _), (by decide : 0 + 0 ≤ _)⟩)
      dsimp only [Pt.U, Pt.locs, Pt.cells, Pt.slots] at X32 l32 y32 z32 st32 hQ32
      subst l32 y32 z32
      obtain ⟨rfl, N32q, Kq32, Aq32⟩ := hQ32
      have N32 := Fr.app NL N32q
      have K32 : Keep h0 T32.heap [a3] := KH.trans Kq32 (fun x hx => by cases List.mem_singleton.mp hx; exact (Or.inl (List.mem_of_getElem? (i := 0) rfl)))
      have Z32 : n0 ≤ T32.heap.size := Nat.le_trans ZH Kq32.1
      have Af : Arv Z T32.heap a3 kd .byte (Int32.ofNat (Nd)) (own_c1 (ds ++ (done ++ [c]))) (.int (0 : Int32)) := by rw [← List.append_assoc, own_c1_snoc, ← hkc]; exact Aq32
      have sg10_2 : own_G p e below T32 (mkF m 10 (own_ARIRIII a1 (j + (1 : Int32)) a3 (d + (1 : Int32)) p4 (i + (1 : Int32))) []) T32 (mkF m 35 (own_ARIRIII a1 (j + (1 : Int32)) a3 (d + (1 : Int32)) p4 i) []) := by
        intro t k
        refine XS.iinc X32.here hx rfl (hb hby d54_35) rfl (l' := (own_ARIRIII a1 (j + (1 : Int32)) a3 (d + (1 : Int32)) p4 (i + (1 : Int32)))) rfl ?_
        refine XS.goto X32.here hx rfl (pc0 := 38) (pc' := 10) rfl (hb hby d54_38) (by decide) (by decide) ?_
        exact k
      obtain ⟨T', L', H', i', j', d', r1, r2, r3, r4, r5, st'⟩ := ih (done ++ [c]) (i + (1 : Int32)) (j + (1 : Int32)) (d + (1 : Int32)) T32 _ T32.heap (by rw [hd]; simp) (by rw [List.length_append]; exact (own_nadd (n := 1) hi (rfl : (1 : Int32) = Int32.ofNat 1))) (by rw [List.length_append]; exact (own_nadd (n := 1) hj (rfl : (1 : Int32) = Int32.ofNat 1))) (by rw [List.length_append, ← Nat.add_assoc]; exact (own_nadd (n := 1) hdd (rfl : (1 : Int32) = Int32.ofNat 1))) X32 N32 rfl K32 Z32 (OH.keep Kq32 (allS g_a3 all0)) Af
      exact ⟨T', L', H', i', j', d', r1, r2, r3, r4, r5, fun t k => (sg27 t (sg32 t (st32 t (sg10_2 t (st' t k)))))⟩
  obtain ⟨Tlo, Llo, Hlo, i', j', d', Xlo, Nlo, elo, Klo, Alo, stlo⟩ := loop cs [] (0 : Int32) (0 : Int32) p3 T4 _ h0 rfl rfl rfl (by rw [hp3]; rfl) X4 N4 hq4 K0 Z0 O (by rw [List.append_nil]; exact A_d)
  refine own_by stlo ?_
  obtain ⟨fs, hr, hrun, hended, hW, hsame⟩ := Xlo.leave (v := none) (fun _ => rfl)
  refine ⟨_, _, ?_, hrun, hended, _, _, rfl, ?_, ⟨_, rfl⟩, hW, hsame.mono (by decide) (by decide)⟩
  · exact Xlo.returnOut hx Bd.returns (hb hby d54_41) hr
  · show Q54 Z a1 a3 p3 p4 kb Ns cs kd Nd ds gz gf h0 n0 _ Tlo.heap _
    rw [elo]
    exact ⟨rfl, Nlo, Klo, Alo⟩
abbrev own_b53 := jdk_43_method_50_code
theorem d53_0 : decode own_b53 0 = .ok (.aload_n 0, 1) := by decide +kernel
theorem d53_1 : decode own_b53 1 = .ok (.iload_n 1, 1) := by decide +kernel
theorem d53_2 : decode own_b53 2 = .ok (.aload_n 2, 1) := by decide +kernel
theorem d53_3 : decode own_b53 3 = .ok (.iload_n 3, 1) := by decide +kernel
theorem d53_4 : decode own_b53 4 = .ok (.iload 4, 2) := by decide +kernel
theorem d53_6 : decode own_b53 6 = .ok (.invokestatic 240, 3) := by decide +kernel
theorem d53_9 : decode own_b53 9 = .ok (.return_, 1) := by decide +kernel
theorem pn_53 : plainFor (⟨"java/lang/StringLatin1", "inflate", "([BI[BII)V"⟩ : MethodName) = true := by first | exact plainFor_of_name (by first | (simp [plainName, overriddenIn]; done) | decide +kernel) | decide +kernel | exact Jvm.Free.JP.mathPlain rfl (by decide +kernel)
theorem pd_53_0 : parseMethodDescriptor "([BI[BII)V" = some ⟨[(.array .byte), .int, (.array .byte), .int, .int], none⟩ := by decide +kernel
theorem ef_53 (m : MethodId) (a1 : Addr) (a3 : Addr) (p3 : Int32) (p4 : Int32) : entryFrame m #[(.ref a1), (.int (0 : Int32)), (.ref a3), (.int p3), (.int p4)] 5 = mkF m 0 #[.val (.ref a1), .val (.int (0 : Int32)), .val (.ref a3), .val (.int p3), .val (.int p4)] [] := by first | (simp [entryFrame, mkF, argsToLocals, Value.category]; done) | rfl
abbrev own_r53 : Room := { frames := 4, cells := 0, slots := 0, locals := 60 }
def Q53 (Z : State) (a1 : Addr) (a3 : Addr) (p3 : Int32) (p4 : Int32) (kb : ClassId) (Ns : Nat) (cs : List Int32) (kd : ClassId) (Nd : Nat) (ds : List Int32) (gz : Int32) (gf : Value) (h0 : Heap) (n0 : Nat) (v : Option Value) (h : Heap) (L : List Loc) : Prop := v = none ∧ Fr n0 L ∧ Keep h0 h [a3] ∧ Arv Z h a3 kd .byte (Int32.ofNat (Nd)) (own_c1 (ds ++ cs)) (.int (0 : Int32))
theorem rm53 (l : Launch) (Z : State) (a0 : Array Value) (hw : ∀ d ∈ tables_1, d.before a0 Z = true) (ws : List Jvm.Cond) (a1 : Addr) (a3 : Addr) (p3 : Int32) (p4 : Int32) (kb : ClassId) (Ns : Nat) (cs : List Int32) (kd : ClassId) (Nd : Nat) (ds : List Int32) (gz : Int32) (gf : Value) (h0 : Heap) (n0 : Nat) (Z0 : n0 ≤ h0.size) (O : Old Z n0 h0) (hst : own_ST Z gz gf) (A_s : Arv Z h0 a1 kb .byte (Int32.ofNat (Ns)) (own_c0 cs) (.int (0 : Int32))) (A_d : Arv Z h0 a3 kd .byte (Int32.ofNat (Nd)) (own_c1 ds) (.int (0 : Int32))) (hp3 : p3 = Int32.ofNat ds.length) (hp4 : p4 = Int32.ofNat cs.length) (hsl : cs.length ≤ Ns) (hNs : Ns ≤ 1000) (hfit : 2 * (ds.length + cs.length) ≤ Nd) (hNd : Nd ≤ 1000) (hlat : own_lat cs) (n13 : a1 ≠ a3) (g_a3 : n0 ≤ a3) :
    MetFree l own_n18 (head1 (Jvm.Cond.code own_n18 jdk_43_method_50_code 5 none :: ws) own_r53) (fun a U => a = #[(.ref a1), (.int (0 : Int32)), (.ref a3), (.int p3), (.int p4)] ∧ Z.Warmed39 U.vm ∧ U.heap = h0) (fun _ _ _ _ _ => True) (fun _ U o U' => ∃ v L, o = .returned v ∧ Q53 Z a1 a3 p3 p4 kb Ns cs kd Nd ds gz gf h0 n0 v U'.heap L ∧ FrameEnd U o U' L own_r53.cells own_r53.slots) := by
  refine MetFree.of_bodySF pn_53 hisR ?_
  intro p e s m args below meth c s₁ Bd hml0 hP hK
  obtain ⟨rfl, hZ, hh⟩ := hP
  have hx := Bd.exec
  have hby := Bd.bytes
  have hml : c.maxLocals = 5 := hml0
  have hown : s.vm.findClass "java/lang/StringLatin1" = some m.cls := findClass_of_methodNamed Bd.named
  have hnm := (name_of_methodNamed Bd.named Bd.method).1
  have X0 : Stand p l e own_r53 s m #[(.ref a1), (.int (0 : Int32)), (.ref a3), (.int p3), (.int p4)] below meth c s₁ [] 0 0 := Stand.of_body Bd
  have e0 : s₁.heap = h0 := by rw [← hh, Bd.state]; rfl
  have N0 := Fr.nil n0
  refine own_at (castTop (ef_53 m a1 a3 p3 p4)) ?_
  have K0 := Keep.refl h0 [a3]
  obtain ⟨S1, P5, S2, rf, S3, S4, S5⟩ := id hst
  have sg6 : own_G p e below s₁ (mkF m 6 (own_ARIRII a1 (0 : Int32) a3 p3 p4) [(.int p4), (.int p3), (.ref a3), (.int (0 : Int32)), (.ref a1)]) s₁ (mkF m 0 (own_ARIRII a1 (0 : Int32) a3 p3 p4) []) := by
    intro t k
    refine XS.aloadN X0.here hx rfl (hb hby d53_0) rfl rfl ?_
    refine XS.iloadN X0.here hx rfl (hb hby d53_1) rfl ?_
    refine XS.aloadN X0.here hx rfl (hb hby d53_2) rfl rfl ?_
    refine XS.iloadN X0.here hx rfl (hb hby d53_3) rfl ?_
    refine XS.iload X0.here hx rfl (hb hby d53_4) rfl ?_
    exact k
  refine own_by sg6 ?_
  obtain ⟨_, _, ⟨T6, L6, k6, n6⟩, -, X6, ⟨Lc6, hQ6, l6, y6, z6⟩, st6⟩ := Jvm.LawKit.callS X0 hx (y := own_n15) hown (mvT hZ (own_w hw 263 rfl)) (mvT hZ (own_w hw 264 rfl)) (mvT hZ (own_w hw 18 rfl)) (mvT hZ (own_w hw 265 rfl)) (by decide) (backOf (W := 0) (rm54 l Z a0 hw [] a1 a3 p3 p4 kb Ns cs kd Nd ds gz gf h0 n0 Z0 O hst A_s A_d hp3 hp4 hsl hNs hfit hNd hlat n13 g_a3) hZ (own_w hw 265 rfl) (own_w hw 18 rfl) (by decide) (by decide)) (g := (mkF m 6 (own_ARIRII a1 (0 : Int32) a3 p3 p4) [(.int p4), (.int p3), (.ref a3), (.int (0 : Int32)), (.ref a1)])) rfl (by rw [hml]; rfl) (argsL := [(.ref a1), (.int (0 : Int32)), (.ref a3), (.int p3), (.int p4)]) (rest := []) (lenOf pd_53_0 rfl) rfl (Nat.le_of_eq rfl) (hb hby d53_6) (fun _ _ => ⟨rfl, e0, (by decide : 0 + 0 ≤ _), (by decide : 0 + 0 ≤ _)⟩)
  dsimp only [Pt.U, Pt.locs, Pt.cells, Pt.slots] at X6 l6 y6 z6 st6 hQ6
  subst l6 y6 z6
  obtain ⟨rfl, N6q, Kq6, Aq6⟩ := hQ6
  have N6 := Fr.app N0 N6q
  have K6 : Keep h0 T6.heap [a3] := K0.trans Kq6 (fun x hx => by cases List.mem_singleton.mp hx; exact (Or.inl (List.mem_of_getElem? (i := 0) rfl)))
  have Z6 : n0 ≤ T6.heap.size := Nat.le_trans Z0 Kq6.1
  refine own_by st6 ?_
  obtain ⟨fs, hr, hrun, hended, hW, hsame⟩ := X6.leave (v := none) (fun _ => rfl)
  refine ⟨_, _, ?_, hrun, hended, _, _, rfl, ?_, ⟨_, rfl⟩, hW, hsame.mono (by decide) (by decide)⟩
  · exact X6.returnOut hx Bd.returns (hb hby d53_9) hr
  · show Q53 Z a1 a3 p3 p4 kb Ns cs kd Nd ds gz gf h0 n0 _ T6.heap _
    exact ⟨rfl, N6, K6, Aq6⟩
abbrev own_b15 := jdk_68_method_68_code
theorem d15_0 : decode own_b15 0 = .ok (.getstatic 18, 3) := by decide +kernel
theorem d15_3 : decode own_b15 3 = .ok (.ifCond .eq 14, 3) := by decide +kernel
theorem d15_6 : decode own_b15 6 = .ok (.aload_n 0, 1) := by decide +kernel
theorem d15_7 : decode own_b15 7 = .ok (.getfield 22, 3) := by decide +kernel
theorem d15_10 : decode own_b15 10 = .ok (.ifCond .ne 7, 3) := by decide +kernel
theorem d15_13 : decode own_b15 13 = .ok (.iconst 1, 1) := by decide +kernel
theorem d15_14 : decode own_b15 14 = .ok (.goto 4, 3) := by decide +kernel
theorem d15_18 : decode own_b15 18 = .ok (.ireturn, 1) := by decide +kernel
theorem pn_150 : plainFor (⟨"java/lang/AbstractStringBuilder", "isLatin1", "()Z"⟩ : MethodName) = true := by first | exact plainFor_of_name (by first | (simp [plainName, overriddenIn]; done) | decide +kernel) | decide +kernel | exact Jvm.Free.JP.mathPlain rfl (by decide +kernel)
theorem ef_150 (m : MethodId) (a1 : Addr) : entryFrame m #[(.ref a1)] 1 = mkF m 0 #[.val (.ref a1)] [] := by first | (simp [entryFrame, mkF, argsToLocals, Value.category]; done) | rfl
abbrev own_r150 : Room := { frames := 0, cells := 0, slots := 0, locals := 0 }
def Q150 (Z : State) (a1 : Addr) (gz : Int32) (gf : Value) (h0 : Heap) (n0 : Nat) (v : Option Value) (h : Heap) (L : List Loc) : Prop := v = some (.int (1 : Int32)) ∧ Fr n0 L ∧ h = h0
theorem rm150 (l : Launch) (Z : State) (a0 : Array Value) (hw : ∀ d ∈ tables_1, d.before a0 Z = true) (ws : List Jvm.Cond) (a1 : Addr) (gz : Int32) (gf : Value) (h0 : Heap) (n0 : Nat) (Z0 : n0 ≤ h0.size) (O : Old Z n0 h0) (hst : own_ST Z gz gf) (F_c : Fld Z h0 a1 "java/lang/AbstractStringBuilder" "coder" "B" (.int (0 : Int32))) :
    MetFree l own_n16 (head1 (Jvm.Cond.code own_n16 jdk_68_method_68_code 1 (some .boolean) :: ws) own_r150) (fun a U => a = #[(.ref a1)] ∧ Z.Warmed39 U.vm ∧ U.heap = h0) (fun _ _ _ _ _ => True) (fun _ U o U' => ∃ v L, o = .returned v ∧ Q150 Z a1 gz gf h0 n0 v U'.heap L ∧ FrameEnd U o U' L own_r150.cells own_r150.slots) := by
  refine MetFree.of_bodySF pn_150 hisR ?_
  intro p e s m args below meth c s₁ Bd hml0 hP hK
  obtain ⟨rfl, hZ, hh⟩ := hP
  have hx := Bd.exec
  have hby := Bd.bytes
  have hml : c.maxLocals = 1 := hml0
  have hown : s.vm.findClass "java/lang/AbstractStringBuilder" = some m.cls := findClass_of_methodNamed Bd.named
  have hnm := (name_of_methodNamed Bd.named Bd.method).1
  have X0 : Stand p l e own_r150 s m #[(.ref a1)] below meth c s₁ [] 0 0 := Stand.of_body Bd
  have e0 : s₁.heap = h0 := by rw [← hh, Bd.state]; rfl
  have N0 := Fr.nil n0
  refine own_at (castTop (ef_150 m a1)) ?_
  have K0 := Keep.refl h0 []
  obtain ⟨S1, P5, S2, rf, S3, S4, S5⟩ := id hst
  obtain ⟨T00, X00, e00, st00⟩ := getS2 X0 hx hZ hown (host := "") (Or.inl (own_w hw 58 rfl)) Via.refl e0 (S1.ext O.2) (g := (mkF m 0 #[.val (.ref a1)] [])) rfl (hb hby d15_0)
  refine own_by st00 ?_
  have sg7 : own_G p e below T00 (mkF m 7 #[.val (.ref a1)] [(.ref a1)]) T00 (mkF m 3 #[.val (.ref a1)] [(.int gz)]) := by
    intro t k
    refine XS.ifNo X00.here hx rfl (hb hby d15_3) rfl ((if0 _ _).trans (feq P5).1) ?_
    refine XS.aloadN X00.here hx rfl (hb hby d15_6) rfl rfl ?_
    exact k
  refine own_by sg7 ?_
  obtain ⟨T7, X7, e7, st7⟩ := getF X00 hx hZ hown (host := "") (Or.inl (own_w hw 61 rfl)) Via.refl e00 F_c (g := (mkF m 7 #[.val (.ref a1)] [(.ref a1)])) rfl rfl (hb hby d15_7)
  refine own_by st7 ?_
  have sg18 : own_G p e below T7 (mkF m 18 #[.val (.ref a1)] [(.int (1 : Int32))]) T7 (mkF m 10 #[.val (.ref a1)] [(.int (0 : Int32))]) := by
    intro t k
    refine XS.ifNo X7.here hx rfl (hb hby d15_10) rfl ((if0 _ _).trans (teq (by decide : (0 : Int32) = (0 : Int32))).2) ?_
    refine XS.iconst X7.here hx rfl (hb hby d15_13) ?_
    refine XS.goto X7.here hx rfl (pc0 := 14) (pc' := 18) rfl (hb hby d15_14) (by decide) (by decide) ?_
    exact k
  refine own_by sg18 ?_
  obtain ⟨fs, hr, hrun, hended, hW, hsame⟩ := X7.leave (v := some (.int (1 : Int32))) (fun h => by rw [Bd.returns] at h; cases h)
  refine ⟨_, _, ?_, hrun, hended, _, _, rfl, ?_, ⟨_, rfl⟩, hW, hsame.mono (by decide) (by decide)⟩
  · exact retN X7 hx (t := .boolean) Bd.returns (by simp) (hb hby d15_18) hr
  · show Q150 Z a1 gz gf h0 n0 _ T7.heap _
    rw [e7]
    exact ⟨rfl, N0, rfl⟩
theorem d15_17 : decode own_b15 17 = .ok (.iconst 0, 1) := by decide +kernel
theorem pn_151 : plainFor (⟨"java/lang/AbstractStringBuilder", "isLatin1", "()Z"⟩ : MethodName) = true := by first | exact plainFor_of_name (by first | (simp [plainName, overriddenIn]; done) | decide +kernel) | decide +kernel | exact Jvm.Free.JP.mathPlain rfl (by decide +kernel)
theorem ef_151 (m : MethodId) (a1 : Addr) : entryFrame m #[(.ref a1)] 1 = mkF m 0 #[.val (.ref a1)] [] := by first | (simp [entryFrame, mkF, argsToLocals, Value.category]; done) | rfl
abbrev own_r151 : Room := { frames := 0, cells := 0, slots := 0, locals := 0 }
def Q151 (Z : State) (a1 : Addr) (gz : Int32) (gf : Value) (h0 : Heap) (n0 : Nat) (v : Option Value) (h : Heap) (L : List Loc) : Prop := v = some (.int (0 : Int32)) ∧ Fr n0 L ∧ h = h0
theorem rm151 (l : Launch) (Z : State) (a0 : Array Value) (hw : ∀ d ∈ tables_1, d.before a0 Z = true) (ws : List Jvm.Cond) (a1 : Addr) (gz : Int32) (gf : Value) (h0 : Heap) (n0 : Nat) (Z0 : n0 ≤ h0.size) (O : Old Z n0 h0) (hst : own_ST Z gz gf) (F_c : Fld Z h0 a1 "java/lang/AbstractStringBuilder" "coder" "B" (.int (1 : Int32))) :
    MetFree l own_n16 (head1 (Jvm.Cond.code own_n16 jdk_68_method_68_code 1 (some .boolean) :: ws) own_r151) (fun a U => a = #[(.ref a1)] ∧ Z.Warmed39 U.vm ∧ U.heap = h0) (fun _ _ _ _ _ => True) (fun _ U o U' => ∃ v L, o = .returned v ∧ Q151 Z a1 gz gf h0 n0 v U'.heap L ∧ FrameEnd U o U' L own_r151.cells own_r151.slots) := by
  refine MetFree.of_bodySF pn_151 hisR ?_
  intro p e s m args below meth c s₁ Bd hml0 hP hK
  obtain ⟨rfl, hZ, hh⟩ := hP
  have hx := Bd.exec
  have hby := Bd.bytes
  have hml : c.maxLocals = 1 := hml0
  have hown : s.vm.findClass "java/lang/AbstractStringBuilder" = some m.cls := findClass_of_methodNamed Bd.named
  have hnm := (name_of_methodNamed Bd.named Bd.method).1
  have X0 : Stand p l e own_r151 s m #[(.ref a1)] below meth c s₁ [] 0 0 := Stand.of_body Bd
  have e0 : s₁.heap = h0 := by rw [← hh, Bd.state]; rfl
  have N0 := Fr.nil n0
  refine own_at (castTop (ef_151 m a1)) ?_
  have K0 := Keep.refl h0 []
  obtain ⟨S1, P5, S2, rf, S3, S4, S5⟩ := id hst
  obtain ⟨T00, X00, e00, st00⟩ := getS2 X0 hx hZ hown (host := "") (Or.inl (own_w hw 58 rfl)) Via.refl e0 (S1.ext O.2) (g := (mkF m 0 #[.val (.ref a1)] [])) rfl (hb hby d15_0)
  refine own_by st00 ?_
  have sg7 : own_G p e below T00 (mkF m 7 #[.val (.ref a1)] [(.ref a1)]) T00 (mkF m 3 #[.val (.ref a1)] [(.int gz)]) := by
    intro t k
    refine XS.ifNo X00.here hx rfl (hb hby d15_3) rfl ((if0 _ _).trans (feq P5).1) ?_
    refine XS.aloadN X00.here hx rfl (hb hby d15_6) rfl rfl ?_
    exact k
  refine own_by sg7 ?_
  obtain ⟨T7, X7, e7, st7⟩ := getF X00 hx hZ hown (host := "") (Or.inl (own_w hw 61 rfl)) Via.refl e00 F_c (g := (mkF m 7 #[.val (.ref a1)] [(.ref a1)])) rfl rfl (hb hby d15_7)
  refine own_by st7 ?_
  have sg18 : own_G p e below T7 (mkF m 18 #[.val (.ref a1)] [(.int (0 : Int32))]) T7 (mkF m 10 #[.val (.ref a1)] [(.int (1 : Int32))]) := by
    intro t k
    refine XS.ifYes X7.here hx rfl (pc0 := 10) (pc' := 17) rfl (hb hby d15_10) rfl ((if0 _ _).trans (feq (by decide : ¬ ((1 : Int32) = (0 : Int32)))).2) (by decide) (by decide) ?_
    refine XS.iconst X7.here hx rfl (hb hby d15_17) ?_
    exact k
  refine own_by sg18 ?_
  obtain ⟨fs, hr, hrun, hended, hW, hsame⟩ := X7.leave (v := some (.int (0 : Int32))) (fun h => by rw [Bd.returns] at h; cases h)
  refine ⟨_, _, ?_, hrun, hended, _, _, rfl, ?_, ⟨_, rfl⟩, hW, hsame.mono (by decide) (by decide)⟩
  · exact retN X7 hx (t := .boolean) Bd.returns (by simp) (hb hby d15_18) hr
  · show Q151 Z a1 gz gf h0 n0 _ T7.heap _
    rw [e7]
    exact ⟨rfl, N0, rfl⟩
abbrev own_b52 := jdk_68_method_11_code
theorem d52_0 : decode own_b52 0 = .ok (.aload_n 0, 1) := by decide +kernel
theorem d52_1 : decode own_b52 1 = .ok (.invokevirtual 83, 3) := by decide +kernel
theorem d52_4 : decode own_b52 4 = .ok (.ifCond .ne 4, 3) := by decide +kernel
theorem d52_8 : decode own_b52 8 = .ok (.aload_n 0, 1) := by decide +kernel
theorem d52_9 : decode own_b52 9 = .ok (.getfield 15, 3) := by decide +kernel
theorem d52_12 : decode own_b52 12 = .ok (.arraylength, 1) := by decide +kernel
theorem d52_13 : decode own_b52 13 = .ok (.invokestatic 26, 3) := by decide +kernel
theorem d52_16 : decode own_b52 16 = .ok (.astore_n 1, 1) := by decide +kernel
theorem d52_17 : decode own_b52 17 = .ok (.aload_n 0, 1) := by decide +kernel
theorem d52_18 : decode own_b52 18 = .ok (.getfield 15, 3) := by decide +kernel
theorem d52_21 : decode own_b52 21 = .ok (.iconst 0, 1) := by decide +kernel
theorem d52_22 : decode own_b52 22 = .ok (.aload_n 1, 1) := by decide +kernel
theorem d52_23 : decode own_b52 23 = .ok (.iconst 0, 1) := by decide +kernel
theorem d52_24 : decode own_b52 24 = .ok (.aload_n 0, 1) := by decide +kernel
theorem d52_25 : decode own_b52 25 = .ok (.getfield 79, 3) := by decide +kernel
theorem d52_28 : decode own_b52 28 = .ok (.invokestatic 125, 3) := by decide +kernel
theorem d52_31 : decode own_b52 31 = .ok (.aload_n 0, 1) := by decide +kernel
theorem d52_32 : decode own_b52 32 = .ok (.aload_n 1, 1) := by decide +kernel
theorem d52_33 : decode own_b52 33 = .ok (.putfield 15, 3) := by decide +kernel
theorem d52_36 : decode own_b52 36 = .ok (.aload_n 0, 1) := by decide +kernel
theorem d52_37 : decode own_b52 37 = .ok (.iconst 1, 1) := by decide +kernel
theorem d52_38 : decode own_b52 38 = .ok (.putfield 22, 3) := by decide +kernel
theorem d52_41 : decode own_b52 41 = .ok (.return_, 1) := by decide +kernel
theorem pn_52 : plainFor (⟨"java/lang/AbstractStringBuilder", "inflate", "()V"⟩ : MethodName) = true := by first | exact plainFor_of_name (by first | (simp [plainName, overriddenIn]; done) | decide +kernel) | decide +kernel | exact Jvm.Free.JP.mathPlain rfl (by decide +kernel)
theorem pd_52_0 : parseMethodDescriptor "()Z" = some ⟨[], some .boolean⟩ := by decide +kernel
theorem pd_52_1 : parseMethodDescriptor "(I)[B" = some ⟨[.int], some (.array .byte)⟩ := by decide +kernel
theorem pd_52_2 : parseMethodDescriptor "([BI[BII)V" = some ⟨[(.array .byte), .int, (.array .byte), .int, .int], none⟩ := by decide +kernel
theorem ef_52 (m : MethodId) (a1 : Addr) : entryFrame m #[(.ref a1)] 2 = mkF m 0 #[.val (.ref a1), .unset] [] := by first | (simp [entryFrame, mkF, argsToLocals, Value.category]; done) | rfl
abbrev own_r52 : Room := { frames := 5, cells := 1, slots := 84, locals := 76 }
def Q52 (Z : State) (a1 : Addr) (vb : Addr) (kb : ClassId) (N : Nat) (cs : List Int32) (gz : Int32) (gf : Value) (h0 : Heap) (n0 : Nat) (v : Option Value) (h : Heap) (L : List Loc) : Prop := v = none ∧ Fr n0 L ∧ Keep h0 h [a1] ∧ ∃ (v' : Addr) (k' : ClassId), h0.size ≤ v' ∧ own_B Z h a1 v' k' (2 * N) (1 : Int32) cs
theorem rm52 (l : Launch) (Z : State) (a0 : Array Value) (hw : ∀ d ∈ tables_1, d.before a0 Z = true) (ws : List Jvm.Cond) (a1 : Addr) (vb : Addr) (kb : ClassId) (N : Nat) (cs : List Int32) (gz : Int32) (gf : Value) (h0 : Heap) (n0 : Nat) (Z0 : n0 ≤ h0.size) (O : Old Z n0 h0) (hst : own_ST Z gz gf) (BB : own_B Z h0 a1 vb kb N (0 : Int32) cs) (g_a1 : n0 ≤ a1) (hN : N ≤ 42) (hlN : cs.length ≤ N) (hlat : own_lat cs) :
    MetFree l own_n20 (head1 (Jvm.Cond.code own_n20 jdk_68_method_11_code 2 none :: ws) own_r52) (fun a U => a = #[(.ref a1)] ∧ Z.Warmed39 U.vm ∧ U.heap = h0) (fun _ _ _ _ _ => True) (fun _ U o U' => ∃ v L, o = .returned v ∧ Q52 Z a1 vb kb N cs gz gf h0 n0 v U'.heap L ∧ FrameEnd U o U' L own_r52.cells own_r52.slots) := by
  refine MetFree.of_bodySF pn_52 hisR ?_
  intro p e s m args below meth c s₁ Bd hml0 hP hK
  obtain ⟨rfl, hZ, hh⟩ := hP
  have hx := Bd.exec
  have hby := Bd.bytes
  have hml : c.maxLocals = 2 := hml0
  have hown : s.vm.findClass "java/lang/AbstractStringBuilder" = some m.cls := findClass_of_methodNamed Bd.named
  have hnm := (name_of_methodNamed Bd.named Bd.method).1
  have X0 : Stand p l e own_r52 s m #[(.ref a1)] below meth c s₁ [] 0 0 := Stand.of_body Bd
  have e0 : s₁.heap = h0 := by rw [← hh, Bd.state]; rfl
  have N0 := Fr.nil n0
  refine own_at (castTop (ef_52 m a1)) ?_
  have K0 := Keep.refl h0 [a1]
  obtain ⟨S1, P5, S2, rf, S3, S4, S5⟩ := id hst
  obtain ⟨E_b, F_v, F_c, F_m, F_n, E_v, A_v⟩ := id BB
  have n_b_v : a1 ≠ vb := E_b.neArv A_v (own_w hw 36 rfl)
  obtain ⟨cn, hcn⟩ : ∃ z : Int32, z = Int32.ofNat cs.length := ⟨_, rfl⟩
  rw [← hcn] at F_n
  rw [own_cod0] at A_v
  have sg1 : own_G p e below s₁ (mkF m 1 #[.val (.ref a1), .unset] [(.ref a1)]) s₁ (mkF m 0 #[.val (.ref a1), .unset] []) := by
    intro t k
    refine XS.aloadN X0.here hx rfl (hb hby d52_0) rfl rfl ?_
    exact k
  refine own_by sg1 ?_
  obtain ⟨cq1, kq1, q1a, q1b, q1c⟩ := isOf hZ e0 E_b
  obtain ⟨_, _, ⟨T1, L1, k1, n1⟩, -, X1, ⟨Lc1, hQ1, l1, y1, z1⟩, st1⟩ := X0.virtualBack hx (y := own_n16) (z := own_n16) hown (mvT hZ (own_w hw 80 rfl)) (mvT hZ (own_w hw 81 rfl)) (notFace_of_selects (args := #[]) (mvT hZ (own_w hw 83 rfl))) (mvT hZ (own_w hw 83 rfl)) (mvT hZ (own_w hw 82 rfl)) (by decide) (backOf (W := 0) (rm150 l Z a0 hw [] a1 gz gf h0 n0 Z0 O hst F_c) hZ (own_w hw 84 rfl) (own_w hw 55 rfl) (by decide) (by decide)) q1a q1c (g := (mkF m 1 #[.val (.ref a1), .unset] [(.ref a1)])) rfl (by rw [hml]; rfl) (Steps.refl _) (argsL := []) (rest := []) (lenOf pd_52_0 rfl) rfl (Nat.le_of_eq rfl) (hb hby d52_1) (fun _ _ => ⟨rfl, e0, (by decide : 0 + 0 ≤ _), (by decide : 0 + 0 ≤ _)⟩)
  dsimp only [Pt.U, Pt.locs, Pt.cells, Pt.slots] at X1 l1 y1 z1 st1 hQ1
  subst l1 y1 z1
  obtain ⟨rfl, N1q, hq1⟩ := hQ1
  have N1 := Fr.app N0 N1q
  refine own_by (fun t k => st1.trans k) ?_
  have sg9 : own_G p e below T1 (mkF m 9 #[.val (.ref a1), .unset] [(.ref a1)]) T1 (mkF m 4 #[.val (.ref a1), .unset] [(.int (1 : Int32))]) := by
    intro t k
    refine XS.ifYes X1.here hx rfl (pc0 := 4) (pc' := 8) rfl (hb hby d52_4) rfl ((if0 _ _).trans (feq (by decide : ¬ ((1 : Int32) = (0 : Int32)))).2) (by decide) (by decide) ?_
    refine XS.aloadN X1.here hx rfl (hb hby d52_8) rfl rfl ?_
    exact k
  refine own_by sg9 ?_
  obtain ⟨T9, X9, e9, st9⟩ := getF X1 hx hZ hown (host := "") (Or.inl (own_w hw 59 rfl)) Via.refl hq1 F_v (g := (mkF m 9 #[.val (.ref a1), .unset] [(.ref a1)])) rfl rfl (hb hby d52_9)
  refine own_by st9 ?_
  obtain ⟨cl12, Ar12, qa12, Sa12, Na12, Ha12, Ga12⟩ := id A_v
  obtain ⟨t12, ht12⟩ : ∃ z : Int32, z = (Int32.ofNat (N)) := ⟨_, rfl⟩
  have sg13 : own_G p e below T9 (mkF m 13 #[.val (.ref a1), .unset] [(.int t12)]) T9 (mkF m 12 #[.val (.ref a1), .unset] [(.ref vb)]) := by
    intro t k
    rw [ht12] at k
    refine X9.arraylength hx (by rw [e9]; exact Ar12.1) (State.isArrayOf_alike hZ.alike Ar12.2.1) (g := (mkF m 12 #[.val (.ref a1), .unset] [(.ref vb)])) rfl rfl (hb hby d52_12) _ ?_
    rw [len_of Sa12 Na12]
    exact k
  refine own_by sg13 ?_
  have nt_t12 : t12 = Int32.ofNat (N) := ht12
  obtain ⟨_, _, ⟨T13, L13, k13, n13⟩, -, X13, ⟨Lc13, hQ13, l13, y13, z13⟩, st13⟩ := Jvm.LawKit.callS X9 hx (y := own_n17) hown (mvT hZ (own_w hw 259 rfl)) (mvT hZ (own_w hw 229 rfl)) (mvT hZ (own_w hw 18 rfl)) (mvT hZ (own_w hw 230 rfl)) (by decide) (backOf (W := 0) (rm45 l Z a0 hw [] t12 N h0 n0 Z0 nt_t12 (by omega)) hZ (own_w hw 230 rfl) (own_w hw 18 rfl) (by decide) (by decide)) (g := (mkF m 13 #[.val (.ref a1), .unset] [(.int t12)])) rfl (by rw [hml]; rfl) (argsL := [(.int t12)]) (rest := []) (lenOf pd_52_1 rfl) rfl (Nat.le_of_eq rfl) (hb hby d52_13) (fun _ _ => ⟨rfl, e9, (by decide : 0 + 1 ≤ _), (by decide : 0 + 84 ≤ _)⟩)
  dsimp only [Pt.U, Pt.locs, Pt.cells, Pt.slots] at X13 l13 y13 z13 st13 hQ13
  subst l13 y13 z13
  obtain ⟨r13, kr13, rfl, ge13, N13q, Kq13, Eq13, Aq13⟩ := hQ13
  have N13 := Fr.app N1 N13q
  have ne_a1_r13 : a1 ≠ r13 := Nat.ne_of_lt (Nat.lt_of_lt_of_le E_b.lt ge13)
  have ne_vb_r13 : vb ≠ r13 := Nat.ne_of_lt (Nat.lt_of_lt_of_le E_v.lt ge13)
  have g_r13 : n0 ≤ r13 := Nat.le_trans Z0 ge13
  have sz_r13 : h0.size ≤ r13 := Nat.le_trans K0.1 ge13
  have K13 : Keep h0 T13.heap [a1] := K0.trans Kq13 (fun x hx => nomatch hx)
  have Z13 : n0 ≤ T13.heap.size := Nat.le_trans Z0 Kq13.1
  refine own_by st13 ?_
  have sg18 : own_G p e below T13 (mkF m 18 #[.val (.ref a1), .val (.ref r13)] [(.ref a1)]) T13 (mkF m 16 #[.val (.ref a1), .unset] [(.ref r13)]) := by
    intro t k
    refine XS.astoreN X13.here hx rfl (hb hby d52_16) rfl rfl (l' := #[.val (.ref a1), .val (.ref r13)]) rfl ?_
    refine XS.aloadN X13.here hx rfl (hb hby d52_17) rfl rfl ?_
    exact k
  refine own_by sg18 ?_
  obtain ⟨T18, X18, e18, st18⟩ := getF X13 hx hZ hown (host := "") (Or.inl (own_w hw 59 rfl)) Via.refl rfl (F_v.keep Kq13 List.not_mem_nil) (g := (mkF m 18 #[.val (.ref a1), .val (.ref r13)] [(.ref a1)])) rfl rfl (hb hby d52_18)
  refine own_by st18 ?_
  have sg25 : own_G p e below T18 (mkF m 25 #[.val (.ref a1), .val (.ref r13)] [(.ref a1), (.int (0 : Int32)), (.ref r13), (.int (0 : Int32)), (.ref vb)]) T18 (mkF m 21 #[.val (.ref a1), .val (.ref r13)] [(.ref vb)]) := by
    intro t k
    refine XS.iconst X18.here hx rfl (hb hby d52_21) ?_
    refine XS.aloadN X18.here hx rfl (hb hby d52_22) rfl rfl ?_
    refine XS.iconst X18.here hx rfl (hb hby d52_23) ?_
    refine XS.aloadN X18.here hx rfl (hb hby d52_24) rfl rfl ?_
    exact k
  refine own_by sg25 ?_
  obtain ⟨T25, X25, e25, st25⟩ := getF X18 hx hZ hown (host := "") (Or.inl (own_w hw 73 rfl)) Via.refl e18 (F_n.keep Kq13 List.not_mem_nil) (g := (mkF m 25 #[.val (.ref a1), .val (.ref r13)] [(.ref a1), (.int (0 : Int32)), (.ref r13), (.int (0 : Int32)), (.ref vb)])) rfl rfl (hb hby d52_25)
  refine own_by st25 ?_
  obtain ⟨_, _, ⟨T28, L28, k28, n28⟩, -, X28, ⟨Lc28, hQ28, l28, y28, z28⟩, st28⟩ := Jvm.LawKit.callS X25 hx (y := own_n18) hown (mvT hZ (own_w hw 260 rfl)) (mvT hZ (own_w hw 261 rfl)) (mvT hZ (own_w hw 87 rfl)) (mvT hZ (own_w hw 262 rfl)) (by decide) (backOf (W := 0) (rm53 l Z a0 hw [] vb r13 (0 : Int32) cn kb N cs kr13 (2 * N) [] gz gf T13.heap n0 Z13 (O.keep Kq13 all0) hst (A_v.keep Kq13 List.not_mem_nil) Aq13 rfl hcn (by omega) (by omega) (by simp; omega) (by omega) hlat ne_vb_r13 g_r13) hZ (own_w hw 262 rfl) (own_w hw 87 rfl) (by decide) (by decide)) (g := (mkF m 28 #[.val (.ref a1), .val (.ref r13)] [(.int cn), (.int (0 : Int32)), (.ref r13), (.int (0 : Int32)), (.ref vb)])) rfl (by rw [hml]; rfl) (argsL := [(.ref vb), (.int (0 : Int32)), (.ref r13), (.int (0 : Int32)), (.int cn)]) (rest := []) (lenOf pd_52_2 rfl) rfl (Nat.le_of_eq rfl) (hb hby d52_28) (fun _ _ => ⟨rfl, e25, (by decide : 1 + 0 ≤ _), (by decide : 84 + 0 ≤ _)⟩)
  dsimp only [Pt.U, Pt.locs, Pt.cells, Pt.slots] at X28 l28 y28 z28 st28 hQ28
  subst l28 y28 z28
  obtain ⟨rfl, N28q, Kq28, Aq28⟩ := hQ28
  have N28 := Fr.app N13 N28q
  have fc := ((F_v.keep Kq13 List.not_mem_nil).keep Kq28 (fun h => ne_a1_r13 (List.mem_singleton.mp h)))
  have fc_2 := ((F_c.keep Kq13 List.not_mem_nil).keep Kq28 (fun h => ne_a1_r13 (List.mem_singleton.mp h)))
  have fc_3 := ((F_m.keep Kq13 List.not_mem_nil).keep Kq28 (fun h => ne_a1_r13 (List.mem_singleton.mp h)))
  have fc_4 := ((F_n.keep Kq13 List.not_mem_nil).keep Kq28 (fun h => ne_a1_r13 (List.mem_singleton.mp h)))
  have fc_5 := ((A_v.keep Kq13 List.not_mem_nil).keep Kq28 (fun h => ne_vb_r13 (List.mem_singleton.mp h)))
  have K28 : Keep h0 T28.heap [a1] := K13.trans Kq28 (fun x hx => by cases List.mem_singleton.mp hx; exact (Or.inr sz_r13))
  have Z28 : n0 ≤ T28.heap.size := Nat.le_trans Z13 Kq28.1
  refine own_by st28 ?_
  have sg33 : own_G p e below T28 (mkF m 33 #[.val (.ref a1), .val (.ref r13)] [(.ref r13), (.ref a1)]) T28 (mkF m 31 #[.val (.ref a1), .val (.ref r13)] []) := by
    intro t k
    refine XS.aloadN X28.here hx rfl (hb hby d52_31) rfl rfl ?_
    refine XS.aloadN X28.here hx rfl (hb hby d52_32) rfl rfl ?_
    exact k
  refine own_by sg33 ?_
  obtain ⟨T33, h33, X33, e33, W33, st33⟩ := putF X28 hx hZ hown (host := "") (Or.inl (own_w hw 59 rfl)) Via.refl rfl fc ((E_b.keep Kq13).keep Kq28) (Or.inl (own_w hw 60 rfl)) (own_w hw 36 rfl) (ty := (.array .byte)) (by decide) rfl rfl (g := (mkF m 33 #[.val (.ref a1), .val (.ref r13)] [(.ref r13), (.ref a1)])) rfl rfl (hb hby d52_33)
  have Fw33 := fc.same W33
  have fc_6 := (fc_2.other W33 (Or.inr (slot_ne (Or.inl (own_w hw 62 rfl)) (Or.inl (own_w hw 60 rfl)) (by decide) (t := .byte) (t' := (.array .byte)) (by decide) (by decide))))
  have fc_7 := (fc_3.other W33 (Or.inr (slot_ne (Or.inl (own_w hw 279 rfl)) (Or.inl (own_w hw 60 rfl)) (by decide) (t := .boolean) (t' := (.array .byte)) (by decide) (by decide))))
  have fc_8 := (fc_4.other W33 (Or.inr (slot_ne (Or.inl (own_w hw 74 rfl)) (Or.inl (own_w hw 60 rfl)) (by decide) (t := .int) (t' := (.array .byte)) (by decide) (by decide))))
  have K33 : Keep h0 h33 [a1] := K28.wr W33 (Or.inl (List.mem_of_getElem? (i := 0) rfl))
  have Z33 : n0 ≤ h33.size := Nat.le_trans Z28 (Keep.of_wr W33).1
  have N33 := Fr.snoc X33 N28 g_a1
  refine own_by st33 ?_
  have sg38 : own_G p e below T33 (mkF m 38 #[.val (.ref a1), .val (.ref r13)] [(.int (1 : Int32)), (.ref a1)]) T33 (mkF m 36 #[.val (.ref a1), .val (.ref r13)] []) := by
    intro t k
    refine XS.aloadN X33.here hx rfl (hb hby d52_36) rfl rfl ?_
    refine XS.iconst X33.here hx rfl (hb hby d52_37) ?_
    exact k
  refine own_by sg38 ?_
  obtain ⟨T38, h38, X38, e38, W38, st38⟩ := putF X33 hx hZ hown (host := "") (Or.inl (own_w hw 61 rfl)) Via.refl e33 fc_6 (((E_b.keep Kq13).keep Kq28).wr W33) (Or.inl (own_w hw 62 rfl)) (own_w hw 36 rfl) (ty := .byte) (by decide) rfl rfl (g := (mkF m 38 #[.val (.ref a1), .val (.ref r13)] [(.int (1 : Int32)), (.ref a1)])) rfl rfl (hb hby d52_38)
  have Fw38 := fc_6.same W38
  have fc_9 := (Fw33.other W38 (Or.inr (slot_ne (Or.inl (own_w hw 60 rfl)) (Or.inl (own_w hw 62 rfl)) (by decide) (t := (.array .byte)) (t' := .byte) (by decide) (by decide))))
  have fc_10 := (fc_7.other W38 (Or.inr (slot_ne (Or.inl (own_w hw 279 rfl)) (Or.inl (own_w hw 62 rfl)) (by decide) (t := .boolean) (t' := .byte) (by decide) (by decide))))
  have fc_11 := (fc_8.other W38 (Or.inr (slot_ne (Or.inl (own_w hw 74 rfl)) (Or.inl (own_w hw 62 rfl)) (by decide) (t := .int) (t' := .byte) (by decide) (by decide))))
  have fc_12 := ((Aq28.other W33 (Ne.symm ne_a1_r13)).other W38 (Ne.symm ne_a1_r13))
  have K38 : Keep h0 h38 [a1] := K33.wr W38 (Or.inl (List.mem_of_getElem? (i := 0) rfl))
  have Z38 : n0 ≤ h38.size := Nat.le_trans Z33 (Keep.of_wr W38).1
  have N38 := Fr.snoc X38 N33 g_a1
  refine own_by st38 ?_
  obtain ⟨fs, hr, hrun, hended, hW, hsame⟩ := X38.leave (v := none) (fun _ => rfl)
  refine ⟨_, _, ?_, hrun, hended, _, _, rfl, ?_, ⟨_, rfl⟩, hW, hsame.mono (by decide) (by decide)⟩
  · exact X38.returnOut hx Bd.returns (hb hby d52_41) hr
  · show Q52 Z a1 vb kb N cs gz gf h0 n0 _ T38.heap _
    rw [e38]
    exact ⟨rfl, N38, K38, r13, _, sz_r13, ⟨((((E_b.keep Kq13).keep Kq28).wr W33).wr W38), fc_9, Fw38, fc_10, (by rw [← hcn]; exact fc_11), (((Eq13.keep Kq28).wr W33).wr W38), fc_12⟩⟩
theorem d52_7 : decode own_b52 7 = .ok (.return_, 1) := by decide +kernel
theorem pn_521 : plainFor (⟨"java/lang/AbstractStringBuilder", "inflate", "()V"⟩ : MethodName) = true := by first | exact plainFor_of_name (by first | (simp [plainName, overriddenIn]; done) | decide +kernel) | decide +kernel | exact Jvm.Free.JP.mathPlain rfl (by decide +kernel)
theorem pd_52_01 : parseMethodDescriptor "()Z" = some ⟨[], some .boolean⟩ := by decide +kernel
theorem ef_521 (m : MethodId) (a1 : Addr) : entryFrame m #[(.ref a1)] 2 = mkF m 0 #[.val (.ref a1), .unset] [] := by first | (simp [entryFrame, mkF, argsToLocals, Value.category]; done) | rfl
abbrev own_r521 : Room := { frames := 1, cells := 0, slots := 0, locals := 12 }
def Q521 (Z : State) (a1 : Addr) (gz : Int32) (gf : Value) (h0 : Heap) (n0 : Nat) (v : Option Value) (h : Heap) (L : List Loc) : Prop := v = none ∧ Fr n0 L ∧ h = h0
theorem rm521 (l : Launch) (Z : State) (a0 : Array Value) (hw : ∀ d ∈ tables_1, d.before a0 Z = true) (ws : List Jvm.Cond) (a1 : Addr) (gz : Int32) (gf : Value) (h0 : Heap) (n0 : Nat) (Z0 : n0 ≤ h0.size) (O : Old Z n0 h0) (hst : own_ST Z gz gf) (F_c : Fld Z h0 a1 "java/lang/AbstractStringBuilder" "coder" "B" (.int (1 : Int32))) (E_a1 : Exa Z h0 a1 "java/lang/StringBuilder") :
    MetFree l own_n20 (head1 (Jvm.Cond.code own_n20 jdk_68_method_11_code 2 none :: ws) own_r521) (fun a U => a = #[(.ref a1)] ∧ Z.Warmed39 U.vm ∧ U.heap = h0) (fun _ _ _ _ _ => True) (fun _ U o U' => ∃ v L, o = .returned v ∧ Q521 Z a1 gz gf h0 n0 v U'.heap L ∧ FrameEnd U o U' L own_r521.cells own_r521.slots) := by
  refine MetFree.of_bodySF pn_521 hisR ?_
  intro p e s m args below meth c s₁ Bd hml0 hP hK
  obtain ⟨rfl, hZ, hh⟩ := hP
  have hx := Bd.exec
  have hby := Bd.bytes
  have hml : c.maxLocals = 2 := hml0
  have hown : s.vm.findClass "java/lang/AbstractStringBuilder" = some m.cls := findClass_of_methodNamed Bd.named
  have hnm := (name_of_methodNamed Bd.named Bd.method).1
  have X0 : Stand p l e own_r521 s m #[(.ref a1)] below meth c s₁ [] 0 0 := Stand.of_body Bd
  have e0 : s₁.heap = h0 := by rw [← hh, Bd.state]; rfl
  have N0 := Fr.nil n0
  refine own_at (castTop (ef_521 m a1)) ?_
  have K0 := Keep.refl h0 []
  obtain ⟨S1, P5, S2, rf, S3, S4, S5⟩ := id hst
  have sg1 : own_G p e below s₁ (mkF m 1 #[.val (.ref a1), .unset] [(.ref a1)]) s₁ (mkF m 0 #[.val (.ref a1), .unset] []) := by
    intro t k
    refine XS.aloadN X0.here hx rfl (hb hby d52_0) rfl rfl ?_
    exact k
  refine own_by sg1 ?_
  obtain ⟨cq1, kq1, q1a, q1b, q1c⟩ := isOf hZ e0 E_a1
  obtain ⟨_, _, ⟨T1, L1, k1, n1⟩, -, X1, ⟨Lc1, hQ1, l1, y1, z1⟩, st1⟩ := X0.virtualBack hx (y := own_n16) (z := own_n16) hown (mvT hZ (own_w hw 80 rfl)) (mvT hZ (own_w hw 81 rfl)) (notFace_of_selects (args := #[]) (mvT hZ (own_w hw 83 rfl))) (mvT hZ (own_w hw 83 rfl)) (mvT hZ (own_w hw 82 rfl)) (by decide) (backOf (W := 0) (rm151 l Z a0 hw [] a1 gz gf h0 n0 Z0 O hst F_c) hZ (own_w hw 84 rfl) (own_w hw 55 rfl) (by decide) (by decide)) q1a q1c (g := (mkF m 1 #[.val (.ref a1), .unset] [(.ref a1)])) rfl (by rw [hml]; rfl) (Steps.refl _) (argsL := []) (rest := []) (lenOf pd_52_01 rfl) rfl (Nat.le_of_eq rfl) (hb hby d52_1) (fun _ _ => ⟨rfl, e0, (by decide : 0 + 0 ≤ _), (by decide : 0 + 0 ≤ _)⟩)
  dsimp only [Pt.U, Pt.locs, Pt.cells, Pt.slots] at X1 l1 y1 z1 st1 hQ1
  subst l1 y1 z1
  obtain ⟨rfl, N1q, hq1⟩ := hQ1
  have N1 := Fr.app N0 N1q
  refine own_by (fun t k => st1.trans k) ?_
  have sg7 : own_G p e below T1 (mkF m 7 #[.val (.ref a1), .unset] []) T1 (mkF m 4 #[.val (.ref a1), .unset] [(.int (0 : Int32))]) := by
    intro t k
    refine XS.ifNo X1.here hx rfl (hb hby d52_4) rfl ((if0 _ _).trans (teq (by decide : (0 : Int32) = (0 : Int32))).2) ?_
    exact k
  refine own_by sg7 ?_
  obtain ⟨fs, hr, hrun, hended, hW, hsame⟩ := X1.leave (v := none) (fun _ => rfl)
  refine ⟨_, _, ?_, hrun, hended, _, _, rfl, ?_, ⟨_, rfl⟩, hW, hsame.mono (by decide) (by decide)⟩
  · exact X1.returnOut hx Bd.returns (hb hby d52_7) hr
  · show Q521 Z a1 gz gf h0 n0 _ T1.heap _
    rw [hq1]
    exact ⟨rfl, N1, rfl⟩
abbrev own_b16 := jdk_43_method_3_code
theorem d16_0 : decode own_b16 0 = .ok (.iload_n 0, 1) := by decide +kernel
theorem d16_1 : decode own_b16 1 = .ok (.sipush 255, 3) := by decide +kernel
theorem d16_4 : decode own_b16 4 = .ok (.if_icmp .gt 7, 3) := by decide +kernel
theorem d16_7 : decode own_b16 7 = .ok (.iconst 1, 1) := by decide +kernel
theorem d16_8 : decode own_b16 8 = .ok (.goto 4, 3) := by decide +kernel
theorem d16_11 : decode own_b16 11 = .ok (.iconst 0, 1) := by decide +kernel
theorem d16_12 : decode own_b16 12 = .ok (.ireturn, 1) := by decide +kernel
theorem pn_16 : plainFor (⟨"java/lang/StringLatin1", "canEncode", "(C)Z"⟩ : MethodName) = true := by first | exact plainFor_of_name (by first | (simp [plainName, overriddenIn]; done) | decide +kernel) | decide +kernel | exact Jvm.Free.JP.mathPlain rfl (by decide +kernel)
theorem ef_16 (m : MethodId) (p0 : Int32) : entryFrame m #[(.int p0)] 1 = mkF m 0 #[.val (.int p0)] [] := by first | (simp [entryFrame, mkF, argsToLocals, Value.category]; done) | rfl
abbrev own_r16 : Room := { frames := 0, cells := 0, slots := 0, locals := 0 }
def Q16 (Z : State) (p0 : Int32) (h0 : Heap) (n0 : Nat) (v : Option Value) (h : Heap) (L : List Loc) : Prop := v = some (.int (if (255 : Int32) < p0 then (0 : Int32) else (1 : Int32))) ∧ Fr n0 L ∧ h = h0
theorem rm16 (l : Launch) (Z : State) (a0 : Array Value) (hw : ∀ d ∈ tables_1, d.before a0 Z = true) (ws : List Jvm.Cond) (p0 : Int32) (h0 : Heap) (n0 : Nat) (Z0 : n0 ≤ h0.size) :
    MetFree l own_n19 (head1 (Jvm.Cond.code own_n19 jdk_43_method_3_code 1 (some .boolean) :: ws) own_r16) (fun a U => a = #[(.int p0)] ∧ Z.Warmed39 U.vm ∧ U.heap = h0) (fun _ _ _ _ _ => True) (fun _ U o U' => ∃ v L, o = .returned v ∧ Q16 Z p0 h0 n0 v U'.heap L ∧ FrameEnd U o U' L own_r16.cells own_r16.slots) := by
  refine MetFree.of_bodySF pn_16 hisR ?_
  intro p e s m args below meth c s₁ Bd hml0 hP hK
  obtain ⟨rfl, hZ, hh⟩ := hP
  have hx := Bd.exec
  have hby := Bd.bytes
  have hml : c.maxLocals = 1 := hml0
  have hown : s.vm.findClass "java/lang/StringLatin1" = some m.cls := findClass_of_methodNamed Bd.named
  have hnm := (name_of_methodNamed Bd.named Bd.method).1
  have X0 : Stand p l e own_r16 s m #[(.int p0)] below meth c s₁ [] 0 0 := Stand.of_body Bd
  have e0 : s₁.heap = h0 := by rw [← hh, Bd.state]; rfl
  have N0 := Fr.nil n0
  refine own_at (castTop (ef_16 m p0)) ?_
  have K0 := Keep.refl h0 []
  have sg4 : own_G p e below s₁ (mkF m 4 #[.val (.int p0)] [(.int (255 : Int32)), (.int p0)]) s₁ (mkF m 0 #[.val (.int p0)] []) := by
    intro t k
    refine XS.iloadN X0.here hx rfl (hb hby d16_0) rfl ?_
    refine XS.sipush X0.here hx rfl (hb hby d16_1) ?_
    exact k
  refine own_by sg4 ?_
  by_cases hc4 : (255 : Int32) < p0
  · have sg12 : own_G p e below s₁ (mkF m 12 #[.val (.int p0)] [(.int (0 : Int32))]) s₁ (mkF m 4 #[.val (.int p0)] [(.int (255 : Int32)), (.int p0)]) := by
      intro t k
      refine XS.icmpYes X0.here hx rfl (pc0 := 4) (pc' := 11) rfl (hb hby d16_4) rfl (tlt hc4).2.2.1 (by decide) (by decide) ?_
      refine XS.iconst X0.here hx rfl (hb hby d16_11) ?_
      exact k
    refine own_by sg12 ?_
    obtain ⟨fs, hr, hrun, hended, hW, hsame⟩ := X0.leave (v := some (.int (0 : Int32))) (fun h => by rw [Bd.returns] at h; cases h)
    refine ⟨_, _, ?_, hrun, hended, _, _, rfl, ?_, ⟨_, rfl⟩, hW, hsame.mono (by decide) (by decide)⟩
    · exact retN X0 hx (t := .boolean) Bd.returns (by simp) (hb hby d16_12) hr
    · show Q16 Z p0 h0 n0 _ s₁.heap _
      rw [e0]
      exact ⟨by rw [if_pos hc4], N0, rfl⟩
  · have sg12 : own_G p e below s₁ (mkF m 12 #[.val (.int p0)] [(.int (1 : Int32))]) s₁ (mkF m 4 #[.val (.int p0)] [(.int (255 : Int32)), (.int p0)]) := by
      intro t k
      refine XS.icmpNo X0.here hx rfl (hb hby d16_4) rfl (flt hc4).2.2.1 ?_
      refine XS.iconst X0.here hx rfl (hb hby d16_7) ?_
      refine XS.goto X0.here hx rfl (pc0 := 8) (pc' := 12) rfl (hb hby d16_8) (by decide) (by decide) ?_
      exact k
    refine own_by sg12 ?_
    obtain ⟨fs, hr, hrun, hended, hW, hsame⟩ := X0.leave (v := some (.int (1 : Int32))) (fun h => by rw [Bd.returns] at h; cases h)
    refine ⟨_, _, ?_, hrun, hended, _, _, rfl, ?_, ⟨_, rfl⟩, hW, hsame.mono (by decide) (by decide)⟩
    · exact retN X0 hx (t := .boolean) Bd.returns (by simp) (hb hby d16_12) hr
    · show Q16 Z p0 h0 n0 _ s₁.heap _
      rw [e0]
      exact ⟨by rw [if_neg hc4], N0, rfl⟩
abbrev own_b13 := jdk_68_method_31_code
theorem d13_0 : decode own_b13 0 = .ok (.aload_n 0, 1) := by decide +kernel
theorem d13_1 : decode own_b13 1 = .ok (.aload_n 0, 1) := by decide +kernel
theorem d13_2 : decode own_b13 2 = .ok (.getfield 79, 3) := by decide +kernel
theorem d13_5 : decode own_b13 5 = .ok (.iconst 1, 1) := by decide +kernel
theorem d13_6 : decode own_b13 6 = .ok (.iadd, 1) := by decide +kernel
theorem d13_7 : decode own_b13 7 = .ok (.invokevirtual 100, 3) := by decide +kernel
theorem d13_10 : decode own_b13 10 = .ok (.aload_n 0, 1) := by decide +kernel
theorem d13_11 : decode own_b13 11 = .ok (.invokevirtual 83, 3) := by decide +kernel
theorem d13_14 : decode own_b13 14 = .ok (.ifCond .eq 31, 3) := by decide +kernel
theorem d13_17 : decode own_b13 17 = .ok (.iload_n 1, 1) := by decide +kernel
theorem d13_18 : decode own_b13 18 = .ok (.invokestatic 191, 3) := by decide +kernel
theorem d13_21 : decode own_b13 21 = .ok (.ifCond .eq 24, 3) := by decide +kernel
theorem d13_24 : decode own_b13 24 = .ok (.aload_n 0, 1) := by decide +kernel
theorem d13_25 : decode own_b13 25 = .ok (.getfield 15, 3) := by decide +kernel
theorem d13_28 : decode own_b13 28 = .ok (.aload_n 0, 1) := by decide +kernel
theorem d13_29 : decode own_b13 29 = .ok (.dup, 1) := by decide +kernel
theorem d13_30 : decode own_b13 30 = .ok (.getfield 79, 3) := by decide +kernel
theorem d13_33 : decode own_b13 33 = .ok (.dup_x1, 1) := by decide +kernel
theorem d13_34 : decode own_b13 34 = .ok (.iconst 1, 1) := by decide +kernel
theorem d13_35 : decode own_b13 35 = .ok (.iadd, 1) := by decide +kernel
theorem d13_36 : decode own_b13 36 = .ok (.putfield 79, 3) := by decide +kernel
theorem d13_39 : decode own_b13 39 = .ok (.iload_n 1, 1) := by decide +kernel
theorem d13_40 : decode own_b13 40 = .ok (.i2b, 1) := by decide +kernel
theorem d13_41 : decode own_b13 41 = .ok (.bastore, 1) := by decide +kernel
theorem d13_42 : decode own_b13 42 = .ok (.goto 33, 3) := by decide +kernel
theorem d13_45 : decode own_b13 45 = .ok (.aload_n 0, 1) := by decide +kernel
theorem d13_46 : decode own_b13 46 = .ok (.invokevirtual 83, 3) := by decide +kernel
theorem d13_49 : decode own_b13 49 = .ok (.ifCond .eq 7, 3) := by decide +kernel
theorem d13_52 : decode own_b13 52 = .ok (.aload_n 0, 1) := by decide +kernel
theorem d13_53 : decode own_b13 53 = .ok (.invokevirtual 195, 3) := by decide +kernel
theorem d13_56 : decode own_b13 56 = .ok (.aload_n 0, 1) := by decide +kernel
theorem d13_57 : decode own_b13 57 = .ok (.getfield 15, 3) := by decide +kernel
theorem d13_60 : decode own_b13 60 = .ok (.aload_n 0, 1) := by decide +kernel
theorem d13_61 : decode own_b13 61 = .ok (.dup, 1) := by decide +kernel
theorem d13_62 : decode own_b13 62 = .ok (.getfield 79, 3) := by decide +kernel
theorem d13_65 : decode own_b13 65 = .ok (.dup_x1, 1) := by decide +kernel
theorem d13_66 : decode own_b13 66 = .ok (.iconst 1, 1) := by decide +kernel
theorem d13_67 : decode own_b13 67 = .ok (.iadd, 1) := by decide +kernel
theorem d13_68 : decode own_b13 68 = .ok (.putfield 79, 3) := by decide +kernel
theorem d13_71 : decode own_b13 71 = .ok (.iload_n 1, 1) := by decide +kernel
theorem d13_72 : decode own_b13 72 = .ok (.invokestatic 197, 3) := by decide +kernel
theorem d13_75 : decode own_b13 75 = .ok (.aload_n 0, 1) := by decide +kernel
theorem d13_76 : decode own_b13 76 = .ok (.areturn, 1) := by decide +kernel
theorem pn_13 : plainFor (⟨"java/lang/AbstractStringBuilder", "append", "(C)Ljava/lang/AbstractStringBuilder;"⟩ : MethodName) = true := by first | exact plainFor_of_name (by first | (simp [plainName, overriddenIn]; done) | decide +kernel) | decide +kernel | exact Jvm.Free.JP.mathPlain rfl (by decide +kernel)
theorem pd_13_0 : parseMethodDescriptor "(I)V" = some ⟨[.int], none⟩ := by decide +kernel
theorem pd_13_1 : parseMethodDescriptor "()Z" = some ⟨[], some .boolean⟩ := by decide +kernel
theorem pd_13_2 : parseMethodDescriptor "(C)Z" = some ⟨[.char], some .boolean⟩ := by decide +kernel
theorem pd_13_3 : parseMethodDescriptor "()V" = some ⟨[], none⟩ := by decide +kernel
theorem pd_13_4 : parseMethodDescriptor "([BII)V" = some ⟨[(.array .byte), .int, .int], none⟩ := by decide +kernel
theorem ef_13 (m : MethodId) (a1 : Addr) (p1 : Int32) : entryFrame m #[(.ref a1), (.int p1)] 2 = mkF m 0 #[.val (.ref a1), .val (.int p1)] [] := by first | (simp [entryFrame, mkF, argsToLocals, Value.category]; done) | rfl
abbrev own_r13 : Room := { frames := 6, cells := 2, slots := 170, locals := 89 }
def Q13 (Z : State) (a1 : Addr) (p1 : Int32) (vb : Addr) (kb : ClassId) (N : Nat) (cd : Int32) (cs : List Int32) (gz : Int32) (gf : Value) (h0 : Heap) (n0 : Nat) (v : Option Value) (h : Heap) (L : List Loc) : Prop := ∃ (v' : Addr) (k' : ClassId) (N' : Nat) (cd' : Int32), v = some (.ref a1) ∧ (v' = vb ∨ h0.size ≤ v') ∧ (cd' = (0 : Int32) ∨ cd' = (1 : Int32)) ∧ Fr n0 L ∧ Keep h0 h [a1, vb] ∧ own_B Z h a1 v' k' N' cd' (cs ++ [p1]) ∧ ((cd' = (0 : Int32) → (cs ++ [p1]).length ≤ N' ∧ N' ≤ 42) ∧ (cd' = (1 : Int32) → 2 * ((cs ++ [p1]).length) ≤ N' ∧ N' ≤ 86)) ∧ (cd' = (0 : Int32) → own_lat (cs ++ [p1]))
theorem rm13 (l : Launch) (Z : State) (a0 : Array Value) (hw : ∀ d ∈ tables_1, d.before a0 Z = true) (ws : List Jvm.Cond) (a1 : Addr) (p1 : Int32) (vb : Addr) (kb : ClassId) (N : Nat) (cd : Int32) (cs : List Int32) (gz : Int32) (gf : Value) (h0 : Heap) (n0 : Nat) (Z0 : n0 ≤ h0.size) (O : Old Z n0 h0) (hst : own_ST Z gz gf) (BB : own_B Z h0 a1 vb kb N cd cs) (hcd : cd = (0 : Int32) ∨ cd = (1 : Int32)) (g_a1 : n0 ≤ a1) (g_vb : n0 ≤ vb) (hcap : (cd = (0 : Int32) → cs.length ≤ N ∧ N ≤ 42) ∧ (cd = (1 : Int32) → 2 * (cs.length) ≤ N ∧ N ≤ 86)) (hlat : cd = (0 : Int32) → own_lat cs) (hlen : cs.length ≤ 20) (hch : ¬ p1 < 0 ∧ ¬ (65535 : Int32) < p1) :
    MetFree l own_n22 (head1 (Jvm.Cond.code own_n22 jdk_68_method_31_code 2 (some (.object "java/lang/AbstractStringBuilder")) :: ws) own_r13) (fun a U => a = #[(.ref a1), (.int p1)] ∧ Z.Warmed39 U.vm ∧ U.heap = h0) (fun _ _ _ _ _ => True) (fun _ U o U' => ∃ v L, o = .returned v ∧ Q13 Z a1 p1 vb kb N cd cs gz gf h0 n0 v U'.heap L ∧ FrameEnd U o U' L own_r13.cells own_r13.slots) := by
  refine MetFree.of_bodySF pn_13 hisR ?_
  intro p e s m args below meth c s₁ Bd hml0 hP hK
  obtain ⟨rfl, hZ, hh⟩ := hP
  have hx := Bd.exec
  have hby := Bd.bytes
  have hml : c.maxLocals = 2 := hml0
  have hown : s.vm.findClass "java/lang/AbstractStringBuilder" = some m.cls := findClass_of_methodNamed Bd.named
  have hnm := (name_of_methodNamed Bd.named Bd.method).1
  have X0 : Stand p l e own_r13 s m #[(.ref a1), (.int p1)] below meth c s₁ [] 0 0 := Stand.of_body Bd
  have e0 : s₁.heap = h0 := by rw [← hh, Bd.state]; rfl
  have N0 := Fr.nil n0
  refine own_at (castTop (ef_13 m a1 p1)) ?_
  have K0 := Keep.refl h0 [a1, vb]
  obtain ⟨S1, P5, S2, rf, S3, S4, S5⟩ := id hst
  obtain ⟨E_b, F_v, F_c, F_m, F_n, E_v, A_v⟩ := id BB
  have n_b_v : a1 ≠ vb := E_b.neArv A_v (own_w hw 36 rfl)
  obtain ⟨cn, hcn⟩ : ∃ z : Int32, z = Int32.ofNat cs.length := ⟨_, rfl⟩
  rw [← hcn] at F_n
  rcases hcd with rfl | rfl
  · skip
    have hc_ := hcap.1 rfl
    rw [own_cod0] at A_v
    by_cases h255 : (255 : Int32) < p1
    · skip
      have sg2 : own_G p e below s₁ (mkF m 2 #[.val (.ref a1), .val (.int p1)] [(.ref a1), (.ref a1)]) s₁ (mkF m 0 #[.val (.ref a1), .val (.int p1)] []) := by
        intro t k
        refine XS.aloadN X0.here hx rfl (hb hby d13_0) rfl rfl ?_
        refine XS.aloadN X0.here hx rfl (hb hby d13_1) rfl rfl ?_
        exact k
      refine own_by sg2 ?_
      obtain ⟨T2, X2, e2, st2⟩ := getF X0 hx hZ hown (host := "") (Or.inl (own_w hw 73 rfl)) Via.refl e0 F_n (g := (mkF m 2 #[.val (.ref a1), .val (.int p1)] [(.ref a1), (.ref a1)])) rfl rfl (hb hby d13_2)
      refine own_by st2 ?_
      obtain ⟨t6, ht6⟩ : ∃ z : Int32, z = (cn + (1 : Int32)) := ⟨_, rfl⟩
      have sg7 : own_G p e below T2 (mkF m 7 #[.val (.ref a1), .val (.int p1)] [(.int t6), (.ref a1)]) T2 (mkF m 5 #[.val (.ref a1), .val (.int p1)] [(.int cn), (.ref a1)]) := by
        intro t k
        rw [ht6] at k
        refine XS.iconst X2.here hx rfl (hb hby d13_5) ?_
        refine XS.iadd X2.here hx rfl (hb hby d13_6) rfl ?_
        exact k
      refine own_by sg7 ?_
      have nt_t6 : t6 = Int32.ofNat (cs.length + 1) := ht6.trans (own_nadd hcn rfl)
      obtain ⟨cq7, q7, q7'⟩ := E_b.cell
      obtain ⟨_, _, ⟨T7, L7, k7, n7⟩, -, X7, ⟨Lc7, hQ7, l7, y7, z7⟩, st7⟩ := X2.privateBack hx (y := own_n4) hown (mvT hZ (own_w hw 75 rfl)) (mvT hZ (own_w hw 76 rfl)) (own_selp (z := own_n4) (Cond.privateMethod_at (mvP hZ (own_w hw 77 rfl) (args := #[]))) (mvT hZ (own_w hw 76 rfl)) (mvT hZ (own_w hw 78 rfl)) rfl (by decide)) (Cond.privateMethod_at (mvP hZ (own_w hw 77 rfl) (args := #[]))) (mvT hZ (own_w hw 79 rfl)) (by decide) (backOf (W := 0) (rm14 l Z a0 hw [] a1 t6 vb kb N (0 : Int32) cs (cs.length + 1) h0 n0 Z0 BB (Or.inl rfl) g_a1 g_vb hcap nt_t6 (by omega)) hZ (own_w hw 79 rfl) (own_w hw 55 rfl) (by decide) (by decide)) (g := (mkF m 7 #[.val (.ref a1), .val (.int p1)] [(.int t6), (.ref a1)])) rfl (by rw [hml]; rfl) (Steps.refl _) (a := a1) (by rw [e2]; exact q7) q7' (argsL := [(.int t6)]) (rest := []) (lenOf pd_13_0 rfl) rfl (Nat.le_of_eq rfl) (hb hby d13_7) (fun _ _ => ⟨rfl, e2, (by decide : 0 + 1 ≤ _), (by decide : 0 + 86 ≤ _)⟩)
      dsimp only [Pt.U, Pt.locs, Pt.cells, Pt.slots] at X7 l7 y7 z7 st7 hQ7
      subst l7 y7 z7
      obtain ⟨rfl, N7q, Kq7, v1, k1, N1, hv1, BB7, cp0, cp1⟩ := hQ7
      have N7 := Fr.app N0 N7q
      have cp := cp0 rfl
      have K7 : Keep h0 T7.heap [a1, vb] := K0.trans Kq7 (fun x hx => by cases List.mem_singleton.mp hx; exact (Or.inl (List.mem_of_getElem? (i := 0) rfl)))
      have Z7 : n0 ≤ T7.heap.size := Nat.le_trans Z0 Kq7.1
      have g_v1 : n0 ≤ v1 := hv1.elim (fun q => q ▸ g_vb) (fun q => Nat.le_trans Z0 q)
      have wm1 : v1 ∈ [a1, vb] ∨ h0.size ≤ v1 := hv1.elim (fun q => Or.inl (q ▸ List.mem_of_getElem? (i := 1) rfl)) Or.inr
      obtain ⟨E_q7, V_q7, C_q7, M_q7, N_q7, D_q7, A_q7⟩ := id BB7
      rw [← hcn] at N_q7
      rw [own_cod0] at A_q7
      have n_q7 : a1 ≠ v1 := E_q7.neArv A_q7 (own_w hw 36 rfl)
      refine own_by (fun t k => st7.trans k) ?_
      have sg11 : own_G p e below T7 (mkF m 11 #[.val (.ref a1), .val (.int p1)] [(.ref a1)]) T7 (mkF m 10 #[.val (.ref a1), .val (.int p1)] []) := by
        intro t k
        refine XS.aloadN X7.here hx rfl (hb hby d13_10) rfl rfl ?_
        exact k
      refine own_by sg11 ?_
      obtain ⟨cq11, kq11, q11a, q11b, q11c⟩ := isOf hZ rfl E_q7
      obtain ⟨_, _, ⟨T11, L11, k11, n11⟩, -, X11, ⟨Lc11, hQ11, l11, y11, z11⟩, st11⟩ := X7.virtualBack hx (y := own_n16) (z := own_n16) hown (mvT hZ (own_w hw 80 rfl)) (mvT hZ (own_w hw 81 rfl)) (notFace_of_selects (args := #[]) (mvT hZ (own_w hw 83 rfl))) (mvT hZ (own_w hw 83 rfl)) (mvT hZ (own_w hw 82 rfl)) (by decide) (backOf (W := 0) (rm150 l Z a0 hw [] a1 gz gf T7.heap n0 Z7 (O.keep Kq7 (allS g_a1 all0)) hst C_q7) hZ (own_w hw 84 rfl) (own_w hw 55 rfl) (by decide) (by decide)) q11a q11c (g := (mkF m 11 #[.val (.ref a1), .val (.int p1)] [(.ref a1)])) rfl (by rw [hml]; rfl) (Steps.refl _) (argsL := []) (rest := []) (lenOf pd_13_1 rfl) rfl (Nat.le_of_eq rfl) (hb hby d13_11) (fun _ _ => ⟨rfl, rfl, (by decide : 1 + 0 ≤ _), (by decide : 86 + 0 ≤ _)⟩)
      dsimp only [Pt.U, Pt.locs, Pt.cells, Pt.slots] at X11 l11 y11 z11 st11 hQ11
      subst l11 y11 z11
      obtain ⟨rfl, N11q, hq11⟩ := hQ11
      have N11 := Fr.app N7 N11q
      refine own_by (fun t k => st11.trans k) ?_
      have sg18 : own_G p e below T11 (mkF m 18 #[.val (.ref a1), .val (.int p1)] [(.int p1)]) T11 (mkF m 14 #[.val (.ref a1), .val (.int p1)] [(.int (1 : Int32))]) := by
        intro t k
        refine XS.ifNo X11.here hx rfl (hb hby d13_14) rfl ((if0 _ _).trans (feq (by decide : ¬ ((1 : Int32) = (0 : Int32)))).1) ?_
        refine XS.iloadN X11.here hx rfl (hb hby d13_17) rfl ?_
        exact k
      refine own_by sg18 ?_
      obtain ⟨_, _, ⟨T18, L18, k18, n18⟩, -, X18, ⟨Lc18, hQ18, l18, y18, z18⟩, st18⟩ := Jvm.LawKit.callS X11 hx (y := own_n19) hown (mvT hZ (own_w hw 85 rfl)) (mvT hZ (own_w hw 86 rfl)) (mvT hZ (own_w hw 87 rfl)) (mvT hZ (own_w hw 88 rfl)) (by decide) (backOf (W := 0) (rm16 l Z a0 hw [] p1 T7.heap n0 Z7) hZ (own_w hw 88 rfl) (own_w hw 87 rfl) (by decide) (by decide)) (g := (mkF m 18 #[.val (.ref a1), .val (.int p1)] [(.int p1)])) rfl (by rw [hml]; rfl) (argsL := [(.int p1)]) (rest := []) (lenOf pd_13_2 rfl) rfl (Nat.le_of_eq rfl) (hb hby d13_18) (fun _ _ => ⟨rfl, hq11, (by decide : 1 + 0 ≤ _), (by decide : 86 + 0 ≤ _)⟩)
      dsimp only [Pt.U, Pt.locs, Pt.cells, Pt.slots] at X18 l18 y18 z18 st18 hQ18
      subst l18 y18 z18
      obtain ⟨rfl, N18q, hq18⟩ := hQ18
      have N18 := Fr.app N11 N18q
      obtain ⟨c18, hc18⟩ : ∃ z : Int32, z = (if (255 : Int32) < p1 then (0 : Int32) else (1 : Int32)) := ⟨_, rfl⟩
      rw [← hc18] at st18
      refine own_by st18 ?_
      have sg46 : own_G p e below T18 (mkF m 46 #[.val (.ref a1), .val (.int p1)] [(.ref a1)]) T18 (mkF m 21 #[.val (.ref a1), .val (.int p1)] [(.int c18)]) := by
        intro t k
        refine XS.ifYes X18.here hx rfl (pc0 := 21) (pc' := 45) rfl (hb hby d13_21) rfl ((if0 _ _).trans (teq (by rw [hc18, if_pos h255] : c18 = (0 : Int32))).1) (by decide) (by decide) ?_
        refine XS.aloadN X18.here hx rfl (hb hby d13_45) rfl rfl ?_
        exact k
      refine own_by sg46 ?_
      obtain ⟨cq46, kq46, q46a, q46b, q46c⟩ := isOf hZ hq18 E_q7
      obtain ⟨_, _, ⟨T46, L46, k46, n46⟩, -, X46, ⟨Lc46, hQ46, l46, y46, z46⟩, st46⟩ := X18.virtualBack hx (y := own_n16) (z := own_n16) hown (mvT hZ (own_w hw 80 rfl)) (mvT hZ (own_w hw 81 rfl)) (notFace_of_selects (args := #[]) (mvT hZ (own_w hw 83 rfl))) (mvT hZ (own_w hw 83 rfl)) (mvT hZ (own_w hw 82 rfl)) (by decide) (backOf (W := 0) (rm150 l Z a0 hw [] a1 gz gf T7.heap n0 Z7 (O.keep Kq7 (allS g_a1 all0)) hst C_q7) hZ (own_w hw 84 rfl) (own_w hw 55 rfl) (by decide) (by decide)) q46a q46c (g := (mkF m 46 #[.val (.ref a1), .val (.int p1)] [(.ref a1)])) rfl (by rw [hml]; rfl) (Steps.refl _) (argsL := []) (rest := []) (lenOf pd_13_1 rfl) rfl (Nat.le_of_eq rfl) (hb hby d13_46) (fun _ _ => ⟨rfl, hq18, (by decide : 1 + 0 ≤ _), (by decide : 86 + 0 ≤ _)⟩)
      dsimp only [Pt.U, Pt.locs, Pt.cells, Pt.slots] at X46 l46 y46 z46 st46 hQ46
      subst l46 y46 z46
      obtain ⟨rfl, N46q, hq46⟩ := hQ46
      have N46 := Fr.app N18 N46q
      refine own_by (fun t k => st46.trans k) ?_
      have sg53 : own_G p e below T46 (mkF m 53 #[.val (.ref a1), .val (.int p1)] [(.ref a1)]) T46 (mkF m 49 #[.val (.ref a1), .val (.int p1)] [(.int (1 : Int32))]) := by
        intro t k
        refine XS.ifNo X46.here hx rfl (hb hby d13_49) rfl ((if0 _ _).trans (feq (by decide : ¬ ((1 : Int32) = (0 : Int32)))).1) ?_
        refine XS.aloadN X46.here hx rfl (hb hby d13_52) rfl rfl ?_
        exact k
      refine own_by sg53 ?_
      obtain ⟨cq53, q53, q53'⟩ := E_q7.cell
      obtain ⟨_, _, ⟨T53, L53, k53, n53⟩, -, X53, ⟨Lc53, hQ53, l53, y53, z53⟩, st53⟩ := X46.privateBack hx (y := own_n20) hown (mvT hZ (own_w hw 254 rfl)) (mvT hZ (own_w hw 255 rfl)) (own_selp (z := own_n4) (Cond.privateMethod_at (mvP hZ (own_w hw 256 rfl) (args := #[]))) (mvT hZ (own_w hw 255 rfl)) (mvT hZ (own_w hw 78 rfl)) rfl (by decide)) (Cond.privateMethod_at (mvP hZ (own_w hw 256 rfl) (args := #[]))) (mvT hZ (own_w hw 258 rfl)) (by decide) (backOf (W := 0) (rm52 l Z a0 hw [] a1 v1 k1 N1 cs gz gf T7.heap n0 Z7 (O.keep Kq7 (allS g_a1 all0)) hst ⟨E_q7, V_q7, C_q7, M_q7, (by rw [← hcn]; exact N_q7), D_q7, (by rw [own_cod0]; exact A_q7)⟩ g_a1 (by omega) (by omega) (hlat rfl)) hZ (own_w hw 258 rfl) (own_w hw 55 rfl) (by decide) (by decide)) (g := (mkF m 53 #[.val (.ref a1), .val (.int p1)] [(.ref a1)])) rfl (by rw [hml]; rfl) (Steps.refl _) (a := a1) (by rw [hq46]; exact q53) q53' (argsL := []) (rest := []) (lenOf pd_13_3 rfl) rfl (Nat.le_of_eq rfl) (hb hby d13_53) (fun _ _ => ⟨rfl, hq46, (by decide : 1 + 1 ≤ _), (by decide : 86 + 84 ≤ _)⟩)
      dsimp only [Pt.U, Pt.locs, Pt.cells, Pt.slots] at X53 l53 y53 z53 st53 hQ53
      subst l53 y53 z53
      obtain ⟨rfl, N53q, Kq53, v2, k2, ge2, BB53⟩ := hQ53
      have N53 := Fr.app N46 N53q
      have g_v2 : n0 ≤ v2 := Nat.le_trans Z7 ge2
      have sz_v2 : h0.size ≤ v2 := Nat.le_trans K7.1 ge2
      have K53 : Keep h0 T53.heap [a1, vb] := K7.trans Kq53 (fun x hx => by cases List.mem_singleton.mp hx; exact (Or.inl (List.mem_of_getElem? (i := 0) rfl)))
      have Z53 : n0 ≤ T53.heap.size := Nat.le_trans Z7 Kq53.1
      obtain ⟨E_q53, V_q53, C_q53, M_q53, N_q53, D_q53, A_q53⟩ := id BB53
      rw [← hcn] at N_q53
      rw [own_cod1] at A_q53
      have n_q53 : a1 ≠ v2 := E_q53.neArv A_q53 (own_w hw 36 rfl)
      refine own_by (fun t k => st53.trans k) ?_
      have sg57 : own_G p e below T53 (mkF m 57 #[.val (.ref a1), .val (.int p1)] [(.ref a1)]) T53 (mkF m 56 #[.val (.ref a1), .val (.int p1)] []) := by
        intro t k
        refine XS.aloadN X53.here hx rfl (hb hby d13_56) rfl rfl ?_
        exact k
      refine own_by sg57 ?_
      obtain ⟨T57, X57, e57, st57⟩ := getF X53 hx hZ hown (host := "") (Or.inl (own_w hw 59 rfl)) Via.refl rfl V_q53 (g := (mkF m 57 #[.val (.ref a1), .val (.int p1)] [(.ref a1)])) rfl rfl (hb hby d13_57)
      refine own_by st57 ?_
      have sg62 : own_G p e below T57 (mkF m 62 #[.val (.ref a1), .val (.int p1)] [(.ref a1), (.ref a1), (.ref v2)]) T57 (mkF m 60 #[.val (.ref a1), .val (.int p1)] [(.ref v2)]) := by
        intro t k
        refine XS.aloadN X57.here hx rfl (hb hby d13_60) rfl rfl ?_
        refine XS.dup X57.here hx rfl (hb hby d13_61) rfl rfl ?_
        exact k
      refine own_by sg62 ?_
      obtain ⟨T62, X62, e62, st62⟩ := getF X57 hx hZ hown (host := "") (Or.inl (own_w hw 73 rfl)) Via.refl e57 N_q53 (g := (mkF m 62 #[.val (.ref a1), .val (.int p1)] [(.ref a1), (.ref a1), (.ref v2)])) rfl rfl (hb hby d13_62)
      refine own_by st62 ?_
      obtain ⟨t67, ht67⟩ : ∃ z : Int32, z = (cn + (1 : Int32)) := ⟨_, rfl⟩
      have sg68 : own_G p e below T62 (mkF m 68 #[.val (.ref a1), .val (.int p1)] [(.int t67), (.ref a1), (.int cn), (.ref v2)]) T62 (mkF m 65 #[.val (.ref a1), .val (.int p1)] [(.int cn), (.ref a1), (.ref v2)]) := by
        intro t k
        rw [ht67] at k
        refine XT.dupX1 X62.here hx rfl (hb hby d13_65) rfl rfl rfl ?_
        refine XS.iconst X62.here hx rfl (hb hby d13_66) ?_
        refine XS.iadd X62.here hx rfl (hb hby d13_67) rfl ?_
        exact k
      refine own_by sg68 ?_
      have nt_t67 : t67 = Int32.ofNat (cs.length + 1) := ht67.trans (own_nadd hcn rfl)
      obtain ⟨T68, h68, X68, e68, W68, st68⟩ := putF X62 hx hZ hown (host := "") (Or.inl (own_w hw 73 rfl)) Via.refl e62 N_q53 E_q53 (Or.inl (own_w hw 74 rfl)) (own_w hw 36 rfl) (ty := .int) (by decide) rfl rfl (g := (mkF m 68 #[.val (.ref a1), .val (.int p1)] [(.int t67), (.ref a1), (.int cn), (.ref v2)])) rfl rfl (hb hby d13_68)
      have Fw68 := N_q53.same W68
      have fc := (V_q53.other W68 (Or.inr (slot_ne (Or.inl (own_w hw 60 rfl)) (Or.inl (own_w hw 74 rfl)) (by decide) (t := (.array .byte)) (t' := .int) (by decide) (by decide))))
      have fc_2 := (C_q53.other W68 (Or.inr (slot_ne (Or.inl (own_w hw 62 rfl)) (Or.inl (own_w hw 74 rfl)) (by decide) (t := .byte) (t' := .int) (by decide) (by decide))))
      have fc_3 := (M_q53.other W68 (Or.inr (slot_ne (Or.inl (own_w hw 279 rfl)) (Or.inl (own_w hw 74 rfl)) (by decide) (t := .boolean) (t' := .int) (by decide) (by decide))))
      have K68 : Keep h0 h68 [a1, vb] := K53.wr W68 (Or.inl (List.mem_of_getElem? (i := 0) rfl))
      have Z68 : n0 ≤ h68.size := Nat.le_trans Z53 (Keep.of_wr W68).1
      have N68 := Fr.snoc X68 N53 g_a1
      refine own_by st68 ?_
      have sg72 : own_G p e below T68 (mkF m 72 #[.val (.ref a1), .val (.int p1)] [(.int p1), (.int cn), (.ref v2)]) T68 (mkF m 71 #[.val (.ref a1), .val (.int p1)] [(.int cn), (.ref v2)]) := by
        intro t k
        refine XS.iloadN X68.here hx rfl (hb hby d13_71) rfl ?_
        exact k
      refine own_by sg72 ?_
      obtain ⟨_, _, ⟨T72, L72, k72, n72⟩, -, X72, ⟨Lc72, hQ72, l72, y72, z72⟩, st72⟩ := Jvm.LawKit.callS X68 hx (y := own_n21) hown (mvT hZ (own_w hw 275 rfl)) (mvT hZ (own_w hw 276 rfl)) (mvT hZ (own_w hw 18 rfl)) (mvT hZ (own_w hw 277 rfl)) (by decide) (backOf (W := 0) (rm58 l Z a0 hw [] v2 cn p1 k2 (2 * N1) cs.length (own_c1 cs) gz gf h68 n0 Z68 (((O.keep Kq7 (allS g_a1 all0)).keep Kq53 (allS g_a1 all0)).wr W68 g_a1) hst (A_q53.other W68 (Ne.symm n_q53)) hcn (own_c1_len cs) (by omega) (by omega) g_v2) hZ (own_w hw 277 rfl) (own_w hw 18 rfl) (by decide) (by decide)) (g := (mkF m 72 #[.val (.ref a1), .val (.int p1)] [(.int p1), (.int cn), (.ref v2)])) rfl (by rw [hml]; rfl) (argsL := [(.ref v2), (.int cn), (.int p1)]) (rest := []) (lenOf pd_13_4 rfl) rfl (Nat.le_of_eq rfl) (hb hby d13_72) (fun _ _ => ⟨rfl, e68, (by decide : 2 + 0 ≤ _), (by decide : 170 + 0 ≤ _)⟩)
      dsimp only [Pt.U, Pt.locs, Pt.cells, Pt.slots] at X72 l72 y72 z72 st72 hQ72
      subst l72 y72 z72
      obtain ⟨rfl, N72q, Kq72, Aq72⟩ := hQ72
      have N72 := Fr.app N68 N72q
      have K72 : Keep h0 T72.heap [a1, vb] := K68.trans Kq72 (fun x hx => by cases List.mem_singleton.mp hx; exact (Or.inr sz_v2))
      have Z72 : n0 ≤ T72.heap.size := Nat.le_trans Z68 Kq72.1
      refine own_by st72 ?_
      have sg76 : own_G p e below T72 (mkF m 76 #[.val (.ref a1), .val (.int p1)] [(.ref a1)]) T72 (mkF m 75 #[.val (.ref a1), .val (.int p1)] []) := by
        intro t k
        refine XS.aloadN X72.here hx rfl (hb hby d13_75) rfl rfl ?_
        exact k
      refine own_by sg76 ?_
      obtain ⟨fs, hr, hrun, hended, hW, hsame⟩ := X72.leave (v := some (.ref a1)) (fun h => by rw [Bd.returns] at h; cases h)
      refine ⟨_, _, ?_, hrun, hended, _, _, rfl, ?_, ⟨_, rfl⟩, hW, hsame.mono (by decide) (by decide)⟩
      · show Steps p.tables e below (T72.setTop (mkF m 76 #[.val (.ref a1), .val (.int p1)] [(.ref a1)])) _
        jvm_step X72.here [X72.here.top, hx, (hb hby d13_76), X72.method', Bd.returns, Value.isRef, FieldType.isReference]
        first | (intro acts; rw [hr _ acts rfl rfl rfl]) | rw [hr _ _ rfl rfl rfl]
        exact Steps.refl _
      · show Q13 Z a1 p1 vb kb N (0 : Int32) cs gz gf h0 n0 _ T72.heap _
        exact ⟨v2, _, 2 * N1, (1 : Int32), rfl, Or.inr sz_v2, Or.inr rfl, N72, K72, ⟨((E_q53.wr W68).keep Kq72), (fc.keep Kq72 (fun h => n_q53 (List.mem_singleton.mp h))), (fc_2.keep Kq72 (fun h => n_q53 (List.mem_singleton.mp h))), (fc_3.keep Kq72 (fun h => n_q53 (List.mem_singleton.mp h))), (by rw [List.length_append, List.length_singleton, ← nt_t67]; exact (Fw68.keep Kq72 (fun h => n_q53 (List.mem_singleton.mp h)))), ((D_q53.wr W68).keep Kq72), (by rw [own_cod1, own_c1_snoc]; exact Aq72)⟩, ⟨(fun q => absurd q (by decide)), (fun _ => ⟨by simp; omega, by omega⟩)⟩, (fun q => absurd q (by decide))⟩
    · skip
      have sg2 : own_G p e below s₁ (mkF m 2 #[.val (.ref a1), .val (.int p1)] [(.ref a1), (.ref a1)]) s₁ (mkF m 0 #[.val (.ref a1), .val (.int p1)] []) := by
        intro t k
        refine XS.aloadN X0.here hx rfl (hb hby d13_0) rfl rfl ?_
        refine XS.aloadN X0.here hx rfl (hb hby d13_1) rfl rfl ?_
        exact k
      refine own_by sg2 ?_
      obtain ⟨T2, X2, e2, st2⟩ := getF X0 hx hZ hown (host := "") (Or.inl (own_w hw 73 rfl)) Via.refl e0 F_n (g := (mkF m 2 #[.val (.ref a1), .val (.int p1)] [(.ref a1), (.ref a1)])) rfl rfl (hb hby d13_2)
      refine own_by st2 ?_
      obtain ⟨t6, ht6⟩ : ∃ z : Int32, z = (cn + (1 : Int32)) := ⟨_, rfl⟩
      have sg7 : own_G p e below T2 (mkF m 7 #[.val (.ref a1), .val (.int p1)] [(.int t6), (.ref a1)]) T2 (mkF m 5 #[.val (.ref a1), .val (.int p1)] [(.int cn), (.ref a1)]) := by
        intro t k
        rw [ht6] at k
        refine XS.iconst X2.here hx rfl (hb hby d13_5) ?_
        refine XS.iadd X2.here hx rfl (hb hby d13_6) rfl ?_
        exact k
      refine own_by sg7 ?_
      have nt_t6 : t6 = Int32.ofNat (cs.length + 1) := ht6.trans (own_nadd hcn rfl)
      obtain ⟨cq7, q7, q7'⟩ := E_b.cell
      obtain ⟨_, _, ⟨T7, L7, k7, n7⟩, -, X7, ⟨Lc7, hQ7, l7, y7, z7⟩, st7⟩ := X2.privateBack hx (y := own_n4) hown (mvT hZ (own_w hw 75 rfl)) (mvT hZ (own_w hw 76 rfl)) (own_selp (z := own_n4) (Cond.privateMethod_at (mvP hZ (own_w hw 77 rfl) (args := #[]))) (mvT hZ (own_w hw 76 rfl)) (mvT hZ (own_w hw 78 rfl)) rfl (by decide)) (Cond.privateMethod_at (mvP hZ (own_w hw 77 rfl) (args := #[]))) (mvT hZ (own_w hw 79 rfl)) (by decide) (backOf (W := 0) (rm14 l Z a0 hw [] a1 t6 vb kb N (0 : Int32) cs (cs.length + 1) h0 n0 Z0 BB (Or.inl rfl) g_a1 g_vb hcap nt_t6 (by omega)) hZ (own_w hw 79 rfl) (own_w hw 55 rfl) (by decide) (by decide)) (g := (mkF m 7 #[.val (.ref a1), .val (.int p1)] [(.int t6), (.ref a1)])) rfl (by rw [hml]; rfl) (Steps.refl _) (a := a1) (by rw [e2]; exact q7) q7' (argsL := [(.int t6)]) (rest := []) (lenOf pd_13_0 rfl) rfl (Nat.le_of_eq rfl) (hb hby d13_7) (fun _ _ => ⟨rfl, e2, (by decide : 0 + 1 ≤ _), (by decide : 0 + 86 ≤ _)⟩)
      dsimp only [Pt.U, Pt.locs, Pt.cells, Pt.slots] at X7 l7 y7 z7 st7 hQ7
      subst l7 y7 z7
      obtain ⟨rfl, N7q, Kq7, v1, k1, N1, hv1, BB7, cp0, cp1⟩ := hQ7
      have N7 := Fr.app N0 N7q
      have cp := cp0 rfl
      have K7 : Keep h0 T7.heap [a1, vb] := K0.trans Kq7 (fun x hx => by cases List.mem_singleton.mp hx; exact (Or.inl (List.mem_of_getElem? (i := 0) rfl)))
      have Z7 : n0 ≤ T7.heap.size := Nat.le_trans Z0 Kq7.1
      have g_v1 : n0 ≤ v1 := hv1.elim (fun q => q ▸ g_vb) (fun q => Nat.le_trans Z0 q)
      have wm1 : v1 ∈ [a1, vb] ∨ h0.size ≤ v1 := hv1.elim (fun q => Or.inl (q ▸ List.mem_of_getElem? (i := 1) rfl)) Or.inr
      obtain ⟨E_q7, V_q7, C_q7, M_q7, N_q7, D_q7, A_q7⟩ := id BB7
      rw [← hcn] at N_q7
      rw [own_cod0] at A_q7
      have n_q7 : a1 ≠ v1 := E_q7.neArv A_q7 (own_w hw 36 rfl)
      refine own_by (fun t k => st7.trans k) ?_
      have sg11 : own_G p e below T7 (mkF m 11 #[.val (.ref a1), .val (.int p1)] [(.ref a1)]) T7 (mkF m 10 #[.val (.ref a1), .val (.int p1)] []) := by
        intro t k
        refine XS.aloadN X7.here hx rfl (hb hby d13_10) rfl rfl ?_
        exact k
      refine own_by sg11 ?_
      obtain ⟨cq11, kq11, q11a, q11b, q11c⟩ := isOf hZ rfl E_q7
      obtain ⟨_, _, ⟨T11, L11, k11, n11⟩, -, X11, ⟨Lc11, hQ11, l11, y11, z11⟩, st11⟩ := X7.virtualBack hx (y := own_n16) (z := own_n16) hown (mvT hZ (own_w hw 80 rfl)) (mvT hZ (own_w hw 81 rfl)) (notFace_of_selects (args := #[]) (mvT hZ (own_w hw 83 rfl))) (mvT hZ (own_w hw 83 rfl)) (mvT hZ (own_w hw 82 rfl)) (by decide) (backOf (W := 0) (rm150 l Z a0 hw [] a1 gz gf T7.heap n0 Z7 (O.keep Kq7 (allS g_a1 all0)) hst C_q7) hZ (own_w hw 84 rfl) (own_w hw 55 rfl) (by decide) (by decide)) q11a q11c (g := (mkF m 11 #[.val (.ref a1), .val (.int p1)] [(.ref a1)])) rfl (by rw [hml]; rfl) (Steps.refl _) (argsL := []) (rest := []) (lenOf pd_13_1 rfl) rfl (Nat.le_of_eq rfl) (hb hby d13_11) (fun _ _ => ⟨rfl, rfl, (by decide : 1 + 0 ≤ _), (by decide : 86 + 0 ≤ _)⟩)
      dsimp only [Pt.U, Pt.locs, Pt.cells, Pt.slots] at X11 l11 y11 z11 st11 hQ11
      subst l11 y11 z11
      obtain ⟨rfl, N11q, hq11⟩ := hQ11
      have N11 := Fr.app N7 N11q
      refine own_by (fun t k => st11.trans k) ?_
      have sg18 : own_G p e below T11 (mkF m 18 #[.val (.ref a1), .val (.int p1)] [(.int p1)]) T11 (mkF m 14 #[.val (.ref a1), .val (.int p1)] [(.int (1 : Int32))]) := by
        intro t k
        refine XS.ifNo X11.here hx rfl (hb hby d13_14) rfl ((if0 _ _).trans (feq (by decide : ¬ ((1 : Int32) = (0 : Int32)))).1) ?_
        refine XS.iloadN X11.here hx rfl (hb hby d13_17) rfl ?_
        exact k
      refine own_by sg18 ?_
      obtain ⟨_, _, ⟨T18, L18, k18, n18⟩, -, X18, ⟨Lc18, hQ18, l18, y18, z18⟩, st18⟩ := Jvm.LawKit.callS X11 hx (y := own_n19) hown (mvT hZ (own_w hw 85 rfl)) (mvT hZ (own_w hw 86 rfl)) (mvT hZ (own_w hw 87 rfl)) (mvT hZ (own_w hw 88 rfl)) (by decide) (backOf (W := 0) (rm16 l Z a0 hw [] p1 T7.heap n0 Z7) hZ (own_w hw 88 rfl) (own_w hw 87 rfl) (by decide) (by decide)) (g := (mkF m 18 #[.val (.ref a1), .val (.int p1)] [(.int p1)])) rfl (by rw [hml]; rfl) (argsL := [(.int p1)]) (rest := []) (lenOf pd_13_2 rfl) rfl (Nat.le_of_eq rfl) (hb hby d13_18) (fun _ _ => ⟨rfl, hq11, (by decide : 1 + 0 ≤ _), (by decide : 86 + 0 ≤ _)⟩)
      dsimp only [Pt.U, Pt.locs, Pt.cells, Pt.slots] at X18 l18 y18 z18 st18 hQ18
      subst l18 y18 z18
      obtain ⟨rfl, N18q, hq18⟩ := hQ18
      have N18 := Fr.app N11 N18q
      obtain ⟨c18, hc18⟩ : ∃ z : Int32, z = (if (255 : Int32) < p1 then (0 : Int32) else (1 : Int32)) := ⟨_, rfl⟩
      rw [← hc18] at st18
      refine own_by st18 ?_
      have sg25 : own_G p e below T18 (mkF m 25 #[.val (.ref a1), .val (.int p1)] [(.ref a1)]) T18 (mkF m 21 #[.val (.ref a1), .val (.int p1)] [(.int c18)]) := by
        intro t k
        refine XS.ifNo X18.here hx rfl (hb hby d13_21) rfl ((if0 _ _).trans (feq (by rw [hc18, if_neg h255]; decide : ¬ (c18 = (0 : Int32)))).1) ?_
        refine XS.aloadN X18.here hx rfl (hb hby d13_24) rfl rfl ?_
        exact k
      refine own_by sg25 ?_
      obtain ⟨T25, X25, e25, st25⟩ := getF X18 hx hZ hown (host := "") (Or.inl (own_w hw 59 rfl)) Via.refl hq18 V_q7 (g := (mkF m 25 #[.val (.ref a1), .val (.int p1)] [(.ref a1)])) rfl rfl (hb hby d13_25)
      refine own_by st25 ?_
      have sg30 : own_G p e below T25 (mkF m 30 #[.val (.ref a1), .val (.int p1)] [(.ref a1), (.ref a1), (.ref v1)]) T25 (mkF m 28 #[.val (.ref a1), .val (.int p1)] [(.ref v1)]) := by
        intro t k
        refine XS.aloadN X25.here hx rfl (hb hby d13_28) rfl rfl ?_
        refine XS.dup X25.here hx rfl (hb hby d13_29) rfl rfl ?_
        exact k
      refine own_by sg30 ?_
      obtain ⟨T30, X30, e30, st30⟩ := getF X25 hx hZ hown (host := "") (Or.inl (own_w hw 73 rfl)) Via.refl e25 N_q7 (g := (mkF m 30 #[.val (.ref a1), .val (.int p1)] [(.ref a1), (.ref a1), (.ref v1)])) rfl rfl (hb hby d13_30)
      refine own_by st30 ?_
      obtain ⟨t35, ht35⟩ : ∃ z : Int32, z = (cn + (1 : Int32)) := ⟨_, rfl⟩
      have sg36 : own_G p e below T30 (mkF m 36 #[.val (.ref a1), .val (.int p1)] [(.int t35), (.ref a1), (.int cn), (.ref v1)]) T30 (mkF m 33 #[.val (.ref a1), .val (.int p1)] [(.int cn), (.ref a1), (.ref v1)]) := by
        intro t k
        rw [ht35] at k
        refine XT.dupX1 X30.here hx rfl (hb hby d13_33) rfl rfl rfl ?_
        refine XS.iconst X30.here hx rfl (hb hby d13_34) ?_
        refine XS.iadd X30.here hx rfl (hb hby d13_35) rfl ?_
        exact k
      refine own_by sg36 ?_
      have nt_t35 : t35 = Int32.ofNat (cs.length + 1) := ht35.trans (own_nadd hcn rfl)
      obtain ⟨T36, h36, X36, e36, W36, st36⟩ := putF X30 hx hZ hown (host := "") (Or.inl (own_w hw 73 rfl)) Via.refl e30 N_q7 E_q7 (Or.inl (own_w hw 74 rfl)) (own_w hw 36 rfl) (ty := .int) (by decide) rfl rfl (g := (mkF m 36 #[.val (.ref a1), .val (.int p1)] [(.int t35), (.ref a1), (.int cn), (.ref v1)])) rfl rfl (hb hby d13_36)
      have Fw36 := N_q7.same W36
      have fc := (V_q7.other W36 (Or.inr (slot_ne (Or.inl (own_w hw 60 rfl)) (Or.inl (own_w hw 74 rfl)) (by decide) (t := (.array .byte)) (t' := .int) (by decide) (by decide))))
      have fc_2 := (C_q7.other W36 (Or.inr (slot_ne (Or.inl (own_w hw 62 rfl)) (Or.inl (own_w hw 74 rfl)) (by decide) (t := .byte) (t' := .int) (by decide) (by decide))))
      have fc_3 := (M_q7.other W36 (Or.inr (slot_ne (Or.inl (own_w hw 279 rfl)) (Or.inl (own_w hw 74 rfl)) (by decide) (t := .boolean) (t' := .int) (by decide) (by decide))))
      have K36 : Keep h0 h36 [a1, vb] := K7.wr W36 (Or.inl (List.mem_of_getElem? (i := 0) rfl))
      have Z36 : n0 ≤ h36.size := Nat.le_trans Z7 (Keep.of_wr W36).1
      have N36 := Fr.snoc X36 N18 g_a1
      refine own_by st36 ?_
      obtain ⟨k41, hk41⟩ : ∃ z : Int32, z = (p1.toInt8.toInt32) := ⟨_, rfl⟩
      have sg41 : own_G p e below T36 (mkF m 41 #[.val (.ref a1), .val (.int p1)] [(.int k41), (.int cn), (.ref v1)]) T36 (mkF m 39 #[.val (.ref a1), .val (.int p1)] [(.int cn), (.ref v1)]) := by
        intro t k
        rw [hk41] at k
        refine XS.iloadN X36.here hx rfl (hb hby d13_39) rfl ?_
        refine XS.i2b X36.here hx rfl (hb hby d13_40) rfl ?_
        exact k
      refine own_by sg41 ?_
      have nb_k41 : k41.toInt8.toInt32 = k41 := by rw [hk41]; exact own_i2b2 _
      have Pd41 : Arv Z h36 v1 k1 .byte (Int32.ofNat (N1)) (own_c0 cs ++ List.replicate 1 (.int (0 : Int32))) (.int (0 : Int32)) := ((A_q7.other W36 (Ne.symm n_q7))).pad (own_padr _ _ 1)
      obtain ⟨cl41, Ar41, qa41, Sa41, Na41, Ha41, Ga41⟩ := id Pd41
      obtain ⟨T41, h41, X41, e41, W41, st41⟩ := stB X36 hx hZ e36 Ar41 (j := cn) (inb_of Sa41 ⟨(own_nge (hcn) (by omega)), (own_nlt hcn (rfl : Int32.ofNat (N1) = Int32.ofNat (N1)) (by omega) (by omega)).mpr (by omega)⟩) (g := (mkF m 41 #[.val (.ref a1), .val (.int p1)] [(.int k41), (.int cn), (.ref v1)])) rfl rfl (hb hby d13_41)
      have V41 : Arv Z h41 v1 k1 .byte (Int32.ofNat (N1)) (List.set (own_c0 cs ++ List.replicate 1 (.int (0 : Int32))) (cs.length) (.int k41)) (.int (0 : Int32)) := by
        have q := Arv.set Ar41 qa41 Sa41 Na41 Ha41 Ga41 (fits_nar_byte _) W41 (cs.length) ((own_ntc (hcn) (by omega)).trans (by omega)) (by simp [own_c0_len])
        rw [nb_k41] at q
        exact q
      have K41 : Keep h0 h41 [a1, vb] := K36.wr W41 wm1
      have Z41 : n0 ≤ h41.size := Nat.le_trans Z36 (Keep.of_wr W41).1
      have N41 := Fr.snoc X41 N36 g_v1
      refine own_by st41 ?_
      have sg76 : own_G p e below T41 (mkF m 76 #[.val (.ref a1), .val (.int p1)] [(.ref a1)]) T41 (mkF m 42 #[.val (.ref a1), .val (.int p1)] []) := by
        intro t k
        refine XS.goto X41.here hx rfl (pc0 := 42) (pc' := 75) rfl (hb hby d13_42) (by decide) (by decide) ?_
        refine XS.aloadN X41.here hx rfl (hb hby d13_75) rfl rfl ?_
        exact k
      refine own_by sg76 ?_
      obtain ⟨fs, hr, hrun, hended, hW, hsame⟩ := X41.leave (v := some (.ref a1)) (fun h => by rw [Bd.returns] at h; cases h)
      refine ⟨_, _, ?_, hrun, hended, _, _, rfl, ?_, ⟨_, rfl⟩, hW, hsame.mono (by decide) (by decide)⟩
      · show Steps p.tables e below (T41.setTop (mkF m 76 #[.val (.ref a1), .val (.int p1)] [(.ref a1)])) _
        jvm_step X41.here [X41.here.top, hx, (hb hby d13_76), X41.method', Bd.returns, Value.isRef, FieldType.isReference]
        first | (intro acts; rw [hr _ acts rfl rfl rfl]) | rw [hr _ _ rfl rfl rfl]
        exact Steps.refl _
      · show Q13 Z a1 p1 vb kb N (0 : Int32) cs gz gf h0 n0 _ T41.heap _
        rw [e41]
        exact ⟨v1, _, N1, (0 : Int32), rfl, hv1, Or.inl rfl, N41, K41, ⟨((E_q7.wr W36).wr W41), (fc.other W41 (Or.inl n_q7)), (fc_2.other W41 (Or.inl n_q7)), (fc_3.other W41 (Or.inl n_q7)), (by rw [List.length_append, List.length_singleton, ← nt_t35]; exact (Fw36.other W41 (Or.inl n_q7))), ((D_q7.wr W36).wr W41), (by have q := V41; rw [own_set1 (own_c0 cs) _ _ cs.length (own_c0_len cs), hk41] at q; rw [own_cod0, own_c0_snoc]; exact q)⟩, ⟨(fun _ => ⟨by simp; omega, by omega⟩), (fun q => absurd q (by decide))⟩, (fun _ => own_lat_snoc (hlat rfl) ⟨hch.1, h255⟩)⟩
  · skip
    have hc_ := hcap.2 rfl
    rw [own_cod1] at A_v
    have sg2 : own_G p e below s₁ (mkF m 2 #[.val (.ref a1), .val (.int p1)] [(.ref a1), (.ref a1)]) s₁ (mkF m 0 #[.val (.ref a1), .val (.int p1)] []) := by
      intro t k
      refine XS.aloadN X0.here hx rfl (hb hby d13_0) rfl rfl ?_
      refine XS.aloadN X0.here hx rfl (hb hby d13_1) rfl rfl ?_
      exact k
    refine own_by sg2 ?_
    obtain ⟨T2, X2, e2, st2⟩ := getF X0 hx hZ hown (host := "") (Or.inl (own_w hw 73 rfl)) Via.refl e0 F_n (g := (mkF m 2 #[.val (.ref a1), .val (.int p1)] [(.ref a1), (.ref a1)])) rfl rfl (hb hby d13_2)
    refine own_by st2 ?_
    obtain ⟨t6, ht6⟩ : ∃ z : Int32, z = (cn + (1 : Int32)) := ⟨_, rfl⟩
    have sg7 : own_G p e below T2 (mkF m 7 #[.val (.ref a1), .val (.int p1)] [(.int t6), (.ref a1)]) T2 (mkF m 5 #[.val (.ref a1), .val (.int p1)] [(.int cn), (.ref a1)]) := by
      intro t k
      rw [ht6] at k
      refine XS.iconst X2.here hx rfl (hb hby d13_5) ?_
      refine XS.iadd X2.here hx rfl (hb hby d13_6) rfl ?_
      exact k
    refine own_by sg7 ?_
    have nt_t6 : t6 = Int32.ofNat (cs.length + 1) := ht6.trans (own_nadd hcn rfl)
    obtain ⟨cq7, q7, q7'⟩ := E_b.cell
    obtain ⟨_, _, ⟨T7, L7, k7, n7⟩, -, X7, ⟨Lc7, hQ7, l7, y7, z7⟩, st7⟩ := X2.privateBack hx (y := own_n4) hown (mvT hZ (own_w hw 75 rfl)) (mvT hZ (own_w hw 76 rfl)) (own_selp (z := own_n4) (Cond.privateMethod_at (mvP hZ (own_w hw 77 rfl) (args := #[]))) (mvT hZ (own_w hw 76 rfl)) (mvT hZ (own_w hw 78 rfl)) rfl (by decide)) (Cond.privateMethod_at (mvP hZ (own_w hw 77 rfl) (args := #[]))) (mvT hZ (own_w hw 79 rfl)) (by decide) (backOf (W := 0) (rm14 l Z a0 hw [] a1 t6 vb kb N (1 : Int32) cs (cs.length + 1) h0 n0 Z0 BB (Or.inr rfl) g_a1 g_vb hcap nt_t6 (by omega)) hZ (own_w hw 79 rfl) (own_w hw 55 rfl) (by decide) (by decide)) (g := (mkF m 7 #[.val (.ref a1), .val (.int p1)] [(.int t6), (.ref a1)])) rfl (by rw [hml]; rfl) (Steps.refl _) (a := a1) (by rw [e2]; exact q7) q7' (argsL := [(.int t6)]) (rest := []) (lenOf pd_13_0 rfl) rfl (Nat.le_of_eq rfl) (hb hby d13_7) (fun _ _ => ⟨rfl, e2, (by decide : 0 + 1 ≤ _), (by decide : 0 + 86 ≤ _)⟩)
    dsimp only [Pt.U, Pt.locs, Pt.cells, Pt.slots] at X7 l7 y7 z7 st7 hQ7
    subst l7 y7 z7
    obtain ⟨rfl, N7q, Kq7, v1, k1, N1, hv1, BB7, cp0, cp1⟩ := hQ7
    have N7 := Fr.app N0 N7q
    have cp := cp1 rfl
    have K7 : Keep h0 T7.heap [a1, vb] := K0.trans Kq7 (fun x hx => by cases List.mem_singleton.mp hx; exact (Or.inl (List.mem_of_getElem? (i := 0) rfl)))
    have Z7 : n0 ≤ T7.heap.size := Nat.le_trans Z0 Kq7.1
    have g_v1 : n0 ≤ v1 := hv1.elim (fun q => q ▸ g_vb) (fun q => Nat.le_trans Z0 q)
    have wm1 : v1 ∈ [a1, vb] ∨ h0.size ≤ v1 := hv1.elim (fun q => Or.inl (q ▸ List.mem_of_getElem? (i := 1) rfl)) Or.inr
    obtain ⟨E_q7, V_q7, C_q7, M_q7, N_q7, D_q7, A_q7⟩ := id BB7
    rw [← hcn] at N_q7
    rw [own_cod1] at A_q7
    have n_q7 : a1 ≠ v1 := E_q7.neArv A_q7 (own_w hw 36 rfl)
    refine own_by (fun t k => st7.trans k) ?_
    have sg11 : own_G p e below T7 (mkF m 11 #[.val (.ref a1), .val (.int p1)] [(.ref a1)]) T7 (mkF m 10 #[.val (.ref a1), .val (.int p1)] []) := by
      intro t k
      refine XS.aloadN X7.here hx rfl (hb hby d13_10) rfl rfl ?_
      exact k
    refine own_by sg11 ?_
    obtain ⟨cq11, kq11, q11a, q11b, q11c⟩ := isOf hZ rfl E_q7
    obtain ⟨_, _, ⟨T11, L11, k11, n11⟩, -, X11, ⟨Lc11, hQ11, l11, y11, z11⟩, st11⟩ := X7.virtualBack hx (y := own_n16) (z := own_n16) hown (mvT hZ (own_w hw 80 rfl)) (mvT hZ (own_w hw 81 rfl)) (notFace_of_selects (args := #[]) (mvT hZ (own_w hw 83 rfl))) (mvT hZ (own_w hw 83 rfl)) (mvT hZ (own_w hw 82 rfl)) (by decide) (backOf (W := 0) (rm151 l Z a0 hw [] a1 gz gf T7.heap n0 Z7 (O.keep Kq7 (allS g_a1 all0)) hst C_q7) hZ (own_w hw 84 rfl) (own_w hw 55 rfl) (by decide) (by decide)) q11a q11c (g := (mkF m 11 #[.val (.ref a1), .val (.int p1)] [(.ref a1)])) rfl (by rw [hml]; rfl) (Steps.refl _) (argsL := []) (rest := []) (lenOf pd_13_1 rfl) rfl (Nat.le_of_eq rfl) (hb hby d13_11) (fun _ _ => ⟨rfl, rfl, (by decide : 1 + 0 ≤ _), (by decide : 86 + 0 ≤ _)⟩)
    dsimp only [Pt.U, Pt.locs, Pt.cells, Pt.slots] at X11 l11 y11 z11 st11 hQ11
    subst l11 y11 z11
    obtain ⟨rfl, N11q, hq11⟩ := hQ11
    have N11 := Fr.app N7 N11q
    refine own_by (fun t k => st11.trans k) ?_
    have sg46 : own_G p e below T11 (mkF m 46 #[.val (.ref a1), .val (.int p1)] [(.ref a1)]) T11 (mkF m 14 #[.val (.ref a1), .val (.int p1)] [(.int (0 : Int32))]) := by
      intro t k
      refine XS.ifYes X11.here hx rfl (pc0 := 14) (pc' := 45) rfl (hb hby d13_14) rfl ((if0 _ _).trans (teq (by decide : (0 : Int32) = (0 : Int32))).1) (by decide) (by decide) ?_
      refine XS.aloadN X11.here hx rfl (hb hby d13_45) rfl rfl ?_
      exact k
    refine own_by sg46 ?_
    obtain ⟨cq46, kq46, q46a, q46b, q46c⟩ := isOf hZ hq11 E_q7
    obtain ⟨_, _, ⟨T46, L46, k46, n46⟩, -, X46, ⟨Lc46, hQ46, l46, y46, z46⟩, st46⟩ := X11.virtualBack hx (y := own_n16) (z := own_n16) hown (mvT hZ (own_w hw 80 rfl)) (mvT hZ (own_w hw 81 rfl)) (notFace_of_selects (args := #[]) (mvT hZ (own_w hw 83 rfl))) (mvT hZ (own_w hw 83 rfl)) (mvT hZ (own_w hw 82 rfl)) (by decide) (backOf (W := 0) (rm151 l Z a0 hw [] a1 gz gf T7.heap n0 Z7 (O.keep Kq7 (allS g_a1 all0)) hst C_q7) hZ (own_w hw 84 rfl) (own_w hw 55 rfl) (by decide) (by decide)) q46a q46c (g := (mkF m 46 #[.val (.ref a1), .val (.int p1)] [(.ref a1)])) rfl (by rw [hml]; rfl) (Steps.refl _) (argsL := []) (rest := []) (lenOf pd_13_1 rfl) rfl (Nat.le_of_eq rfl) (hb hby d13_46) (fun _ _ => ⟨rfl, hq11, (by decide : 1 + 0 ≤ _), (by decide : 86 + 0 ≤ _)⟩)
    dsimp only [Pt.U, Pt.locs, Pt.cells, Pt.slots] at X46 l46 y46 z46 st46 hQ46
    subst l46 y46 z46
    obtain ⟨rfl, N46q, hq46⟩ := hQ46
    have N46 := Fr.app N11 N46q
    refine own_by (fun t k => st46.trans k) ?_
    have sg57 : own_G p e below T46 (mkF m 57 #[.val (.ref a1), .val (.int p1)] [(.ref a1)]) T46 (mkF m 49 #[.val (.ref a1), .val (.int p1)] [(.int (0 : Int32))]) := by
      intro t k
      refine XS.ifYes X46.here hx rfl (pc0 := 49) (pc' := 56) rfl (hb hby d13_49) rfl ((if0 _ _).trans (teq (by decide : (0 : Int32) = (0 : Int32))).1) (by decide) (by decide) ?_
      refine XS.aloadN X46.here hx rfl (hb hby d13_56) rfl rfl ?_
      exact k
    refine own_by sg57 ?_
    obtain ⟨T57, X57, e57, st57⟩ := getF X46 hx hZ hown (host := "") (Or.inl (own_w hw 59 rfl)) Via.refl hq46 V_q7 (g := (mkF m 57 #[.val (.ref a1), .val (.int p1)] [(.ref a1)])) rfl rfl (hb hby d13_57)
    refine own_by st57 ?_
    have sg62 : own_G p e below T57 (mkF m 62 #[.val (.ref a1), .val (.int p1)] [(.ref a1), (.ref a1), (.ref v1)]) T57 (mkF m 60 #[.val (.ref a1), .val (.int p1)] [(.ref v1)]) := by
      intro t k
      refine XS.aloadN X57.here hx rfl (hb hby d13_60) rfl rfl ?_
      refine XS.dup X57.here hx rfl (hb hby d13_61) rfl rfl ?_
      exact k
    refine own_by sg62 ?_
    obtain ⟨T62, X62, e62, st62⟩ := getF X57 hx hZ hown (host := "") (Or.inl (own_w hw 73 rfl)) Via.refl e57 N_q7 (g := (mkF m 62 #[.val (.ref a1), .val (.int p1)] [(.ref a1), (.ref a1), (.ref v1)])) rfl rfl (hb hby d13_62)
    refine own_by st62 ?_
    obtain ⟨t67, ht67⟩ : ∃ z : Int32, z = (cn + (1 : Int32)) := ⟨_, rfl⟩
    have sg68 : own_G p e below T62 (mkF m 68 #[.val (.ref a1), .val (.int p1)] [(.int t67), (.ref a1), (.int cn), (.ref v1)]) T62 (mkF m 65 #[.val (.ref a1), .val (.int p1)] [(.int cn), (.ref a1), (.ref v1)]) := by
      intro t k
      rw [ht67] at k
      refine XT.dupX1 X62.here hx rfl (hb hby d13_65) rfl rfl rfl ?_
      refine XS.iconst X62.here hx rfl (hb hby d13_66) ?_
      refine XS.iadd X62.here hx rfl (hb hby d13_67) rfl ?_
      exact k
    refine own_by sg68 ?_
    have nt_t67 : t67 = Int32.ofNat (cs.length + 1) := ht67.trans (own_nadd hcn rfl)
    obtain ⟨T68, h68, X68, e68, W68, st68⟩ := putF X62 hx hZ hown (host := "") (Or.inl (own_w hw 73 rfl)) Via.refl e62 N_q7 E_q7 (Or.inl (own_w hw 74 rfl)) (own_w hw 36 rfl) (ty := .int) (by decide) rfl rfl (g := (mkF m 68 #[.val (.ref a1), .val (.int p1)] [(.int t67), (.ref a1), (.int cn), (.ref v1)])) rfl rfl (hb hby d13_68)
    have Fw68 := N_q7.same W68
    have fc := (V_q7.other W68 (Or.inr (slot_ne (Or.inl (own_w hw 60 rfl)) (Or.inl (own_w hw 74 rfl)) (by decide) (t := (.array .byte)) (t' := .int) (by decide) (by decide))))
    have fc_2 := (C_q7.other W68 (Or.inr (slot_ne (Or.inl (own_w hw 62 rfl)) (Or.inl (own_w hw 74 rfl)) (by decide) (t := .byte) (t' := .int) (by decide) (by decide))))
    have fc_3 := (M_q7.other W68 (Or.inr (slot_ne (Or.inl (own_w hw 279 rfl)) (Or.inl (own_w hw 74 rfl)) (by decide) (t := .boolean) (t' := .int) (by decide) (by decide))))
    have K68 : Keep h0 h68 [a1, vb] := K7.wr W68 (Or.inl (List.mem_of_getElem? (i := 0) rfl))
    have Z68 : n0 ≤ h68.size := Nat.le_trans Z7 (Keep.of_wr W68).1
    have N68 := Fr.snoc X68 N46 g_a1
    refine own_by st68 ?_
    have sg72 : own_G p e below T68 (mkF m 72 #[.val (.ref a1), .val (.int p1)] [(.int p1), (.int cn), (.ref v1)]) T68 (mkF m 71 #[.val (.ref a1), .val (.int p1)] [(.int cn), (.ref v1)]) := by
      intro t k
      refine XS.iloadN X68.here hx rfl (hb hby d13_71) rfl ?_
      exact k
    refine own_by sg72 ?_
    obtain ⟨_, _, ⟨T72, L72, k72, n72⟩, -, X72, ⟨Lc72, hQ72, l72, y72, z72⟩, st72⟩ := Jvm.LawKit.callS X68 hx (y := own_n21) hown (mvT hZ (own_w hw 275 rfl)) (mvT hZ (own_w hw 276 rfl)) (mvT hZ (own_w hw 18 rfl)) (mvT hZ (own_w hw 277 rfl)) (by decide) (backOf (W := 0) (rm58 l Z a0 hw [] v1 cn p1 k1 (N1) cs.length (own_c1 cs) gz gf h68 n0 Z68 ((O.keep Kq7 (allS g_a1 all0)).wr W68 g_a1) hst (A_q7.other W68 (Ne.symm n_q7)) hcn (own_c1_len cs) (by omega) (by omega) g_v1) hZ (own_w hw 277 rfl) (own_w hw 18 rfl) (by decide) (by decide)) (g := (mkF m 72 #[.val (.ref a1), .val (.int p1)] [(.int p1), (.int cn), (.ref v1)])) rfl (by rw [hml]; rfl) (argsL := [(.ref v1), (.int cn), (.int p1)]) (rest := []) (lenOf pd_13_4 rfl) rfl (Nat.le_of_eq rfl) (hb hby d13_72) (fun _ _ => ⟨rfl, e68, (by decide : 1 + 0 ≤ _), (by decide : 86 + 0 ≤ _)⟩)
    dsimp only [Pt.U, Pt.locs, Pt.cells, Pt.slots] at X72 l72 y72 z72 st72 hQ72
    subst l72 y72 z72
    obtain ⟨rfl, N72q, Kq72, Aq72⟩ := hQ72
    have N72 := Fr.app N68 N72q
    have K72 : Keep h0 T72.heap [a1, vb] := K68.trans Kq72 (fun x hx => by cases List.mem_singleton.mp hx; exact wm1)
    have Z72 : n0 ≤ T72.heap.size := Nat.le_trans Z68 Kq72.1
    refine own_by st72 ?_
    have sg76 : own_G p e below T72 (mkF m 76 #[.val (.ref a1), .val (.int p1)] [(.ref a1)]) T72 (mkF m 75 #[.val (.ref a1), .val (.int p1)] []) := by
      intro t k
      refine XS.aloadN X72.here hx rfl (hb hby d13_75) rfl rfl ?_
      exact k
    refine own_by sg76 ?_
    obtain ⟨fs, hr, hrun, hended, hW, hsame⟩ := X72.leave (v := some (.ref a1)) (fun h => by rw [Bd.returns] at h; cases h)
    refine ⟨_, _, ?_, hrun, hended, _, _, rfl, ?_, ⟨_, rfl⟩, hW, hsame.mono (by decide) (by decide)⟩
    · show Steps p.tables e below (T72.setTop (mkF m 76 #[.val (.ref a1), .val (.int p1)] [(.ref a1)])) _
      jvm_step X72.here [X72.here.top, hx, (hb hby d13_76), X72.method', Bd.returns, Value.isRef, FieldType.isReference]
      first | (intro acts; rw [hr _ acts rfl rfl rfl]) | rw [hr _ _ rfl rfl rfl]
      exact Steps.refl _
    · show Q13 Z a1 p1 vb kb N (1 : Int32) cs gz gf h0 n0 _ T72.heap _
      exact ⟨v1, _, N1, (1 : Int32), rfl, hv1, Or.inr rfl, N72, K72, ⟨((E_q7.wr W68).keep Kq72), (fc.keep Kq72 (fun h => n_q7 (List.mem_singleton.mp h))), (fc_2.keep Kq72 (fun h => n_q7 (List.mem_singleton.mp h))), (fc_3.keep Kq72 (fun h => n_q7 (List.mem_singleton.mp h))), (by rw [List.length_append, List.length_singleton, ← nt_t67]; exact (Fw68.keep Kq72 (fun h => n_q7 (List.mem_singleton.mp h)))), ((D_q7.wr W68).keep Kq72), (by rw [own_cod1, own_c1_snoc]; exact Aq72)⟩, ⟨(fun q => absurd q (by decide)), (fun _ => ⟨by simp; omega, by omega⟩)⟩, (fun q => absurd q (by decide))⟩
abbrev own_b12 := jdk_67_method_14_code
theorem d12_0 : decode own_b12 0 = .ok (.aload_n 0, 1) := by decide +kernel
theorem d12_1 : decode own_b12 1 = .ok (.iload_n 1, 1) := by decide +kernel
theorem d12_2 : decode own_b12 2 = .ok (.invokespecial 50, 3) := by decide +kernel
theorem d12_5 : decode own_b12 5 = .ok (.pop, 1) := by decide +kernel
theorem d12_6 : decode own_b12 6 = .ok (.aload_n 0, 1) := by decide +kernel
theorem d12_7 : decode own_b12 7 = .ok (.areturn, 1) := by decide +kernel
theorem pn_12 : plainFor (⟨"java/lang/StringBuilder", "append", "(C)Ljava/lang/StringBuilder;"⟩ : MethodName) = true := by first | exact plainFor_of_name (by first | (simp [plainName, overriddenIn]; done) | decide +kernel) | decide +kernel | exact Jvm.Free.JP.mathPlain rfl (by decide +kernel)
theorem pd_12_0 : parseMethodDescriptor "(C)Ljava/lang/AbstractStringBuilder;" = some ⟨[.char], some (.object "java/lang/AbstractStringBuilder")⟩ := by decide +kernel
theorem ef_12 (m : MethodId) (a1 : Addr) (p1 : Int32) : entryFrame m #[(.ref a1), (.int p1)] 2 = mkF m 0 #[.val (.ref a1), .val (.int p1)] [] := by first | (simp [entryFrame, mkF, argsToLocals, Value.category]; done) | rfl
abbrev own_r12 : Room := { frames := 7, cells := 2, slots := 170, locals := 102 }
def Q12 (Z : State) (a1 : Addr) (p1 : Int32) (vb : Addr) (kb : ClassId) (N : Nat) (cd : Int32) (cs : List Int32) (gz : Int32) (gf : Value) (h0 : Heap) (n0 : Nat) (v : Option Value) (h : Heap) (L : List Loc) : Prop := ∃ (v' : Addr) (k' : ClassId) (N' : Nat) (cd' : Int32), v = some (.ref a1) ∧ (v' = vb ∨ h0.size ≤ v') ∧ (cd' = (0 : Int32) ∨ cd' = (1 : Int32)) ∧ Fr n0 L ∧ Keep h0 h [a1, vb] ∧ own_B Z h a1 v' k' N' cd' (cs ++ [p1]) ∧ ((cd' = (0 : Int32) → (cs ++ [p1]).length ≤ N' ∧ N' ≤ 42) ∧ (cd' = (1 : Int32) → 2 * ((cs ++ [p1]).length) ≤ N' ∧ N' ≤ 86)) ∧ (cd' = (0 : Int32) → own_lat (cs ++ [p1]))
theorem rm12 (l : Launch) (Z : State) (a0 : Array Value) (hw : ∀ d ∈ tables_1, d.before a0 Z = true) (ws : List Jvm.Cond) (a1 : Addr) (p1 : Int32) (vb : Addr) (kb : ClassId) (N : Nat) (cd : Int32) (cs : List Int32) (gz : Int32) (gf : Value) (h0 : Heap) (n0 : Nat) (Z0 : n0 ≤ h0.size) (O : Old Z n0 h0) (hst : own_ST Z gz gf) (BB : own_B Z h0 a1 vb kb N cd cs) (hcd : cd = (0 : Int32) ∨ cd = (1 : Int32)) (g_a1 : n0 ≤ a1) (g_vb : n0 ≤ vb) (hcap : (cd = (0 : Int32) → cs.length ≤ N ∧ N ≤ 42) ∧ (cd = (1 : Int32) → 2 * (cs.length) ≤ N ∧ N ≤ 86)) (hlat : cd = (0 : Int32) → own_lat cs) (hlen : cs.length ≤ 20) (hch : ¬ p1 < 0 ∧ ¬ (65535 : Int32) < p1) :
    MetFree l own_n50 (head1 (Jvm.Cond.code own_n50 jdk_67_method_14_code 2 (some (.object "java/lang/StringBuilder")) :: ws) own_r12) (fun a U => a = #[(.ref a1), (.int p1)] ∧ Z.Warmed39 U.vm ∧ U.heap = h0) (fun _ _ _ _ _ => True) (fun _ U o U' => ∃ v L, o = .returned v ∧ Q12 Z a1 p1 vb kb N cd cs gz gf h0 n0 v U'.heap L ∧ FrameEnd U o U' L own_r12.cells own_r12.slots) := by
  refine MetFree.of_bodySF pn_12 hisR ?_
  intro p e s m args below meth c s₁ Bd hml0 hP hK
  obtain ⟨rfl, hZ, hh⟩ := hP
  have hx := Bd.exec
  have hby := Bd.bytes
  have hml : c.maxLocals = 2 := hml0
  have hown : s.vm.findClass "java/lang/StringBuilder" = some m.cls := findClass_of_methodNamed Bd.named
  have hnm := (name_of_methodNamed Bd.named Bd.method).1
  have X0 : Stand p l e own_r12 s m #[(.ref a1), (.int p1)] below meth c s₁ [] 0 0 := Stand.of_body Bd
  have e0 : s₁.heap = h0 := by rw [← hh, Bd.state]; rfl
  have N0 := Fr.nil n0
  refine own_at (castTop (ef_12 m a1 p1)) ?_
  have K0 := Keep.refl h0 [a1, vb]
  obtain ⟨S1, P5, S2, rf, S3, S4, S5⟩ := id hst
  have E_b := BB.1
  have sg2 : own_G p e below s₁ (mkF m 2 #[.val (.ref a1), .val (.int p1)] [(.int p1), (.ref a1)]) s₁ (mkF m 0 #[.val (.ref a1), .val (.int p1)] []) := by
    intro t k
    refine XS.aloadN X0.here hx rfl (hb hby d12_0) rfl rfl ?_
    refine XS.iloadN X0.here hx rfl (hb hby d12_1) rfl ?_
    exact k
  refine own_by sg2 ?_
  obtain ⟨_, _, ⟨T2, L2, k2, n2⟩, -, X2, ⟨Lc2, hQ2, l2, y2, z2⟩, st2⟩ := superBack X0 hx hZ (y := own_n22) hown (own_w hw 68 rfl) (own_sameM (z := own_n4) (own_w hw 69 rfl) (own_w hw 78 rfl) rfl (by decide)) (own_w hw 69 rfl) (own_w hw 70 rfl) (by decide) (backOf (W := 0) (rm13 l Z a0 hw [] a1 p1 vb kb N cd cs gz gf h0 n0 Z0 O hst BB hcd g_a1 g_vb hcap hlat hlen hch) hZ (own_w hw 72 rfl) (own_w hw 55 rfl) (by decide) (by decide)) e0 (Ins.self E_b) (g := (mkF m 2 #[.val (.ref a1), .val (.int p1)] [(.int p1), (.ref a1)])) rfl (by rw [hml]; rfl) (own_w hw 72 rfl) (argsL := [(.int p1)]) (rest := []) (lenOf pd_12_0 rfl) rfl (Nat.le_of_eq rfl) (hb hby d12_2) (fun _ _ => ⟨rfl, e0, (by decide : 0 + 2 ≤ _), (by decide : 0 + 170 ≤ _)⟩)
  dsimp only [Pt.U, Pt.locs, Pt.cells, Pt.slots] at X2 l2 y2 z2 st2 hQ2
  subst l2 y2 z2
  obtain ⟨v_2, k_2, N_2, d_2, rfl, hv_2, hd_2, N2q, Kq2, BB2, cp_2, lt_2⟩ := hQ2
  have N2 := Fr.app N0 N2q
  have K2 : Keep h0 T2.heap [a1, vb] := Kq2
  have Z2 : n0 ≤ T2.heap.size := Nat.le_trans Z0 Kq2.1
  refine own_by (fun t k => st2.trans k) ?_
  have sg7 : own_G p e below T2 (mkF m 7 #[.val (.ref a1), .val (.int p1)] [(.ref a1)]) T2 (mkF m 5 #[.val (.ref a1), .val (.int p1)] [(.ref a1)]) := by
    intro t k
    refine XS.pop X2.here hx rfl (hb hby d12_5) rfl rfl ?_
    refine XS.aloadN X2.here hx rfl (hb hby d12_6) rfl rfl ?_
    exact k
  refine own_by sg7 ?_
  obtain ⟨fs, hr, hrun, hended, hW, hsame⟩ := X2.leave (v := some (.ref a1)) (fun h => by rw [Bd.returns] at h; cases h)
  refine ⟨_, _, ?_, hrun, hended, _, _, rfl, ?_, ⟨_, rfl⟩, hW, hsame.mono (by decide) (by decide)⟩
  · show Steps p.tables e below (T2.setTop (mkF m 7 #[.val (.ref a1), .val (.int p1)] [(.ref a1)])) _
    jvm_step X2.here [X2.here.top, hx, (hb hby d12_7), X2.method', Bd.returns, Value.isRef, FieldType.isReference]
    first | (intro acts; rw [hr _ acts rfl rfl rfl]) | rw [hr _ _ rfl rfl rfl]
    exact Steps.refl _
  · show Q12 Z a1 p1 vb kb N cd cs gz gf h0 n0 _ T2.heap _
    exact ⟨v_2, k_2, N_2, d_2, rfl, hv_2, hd_2, N2, K2, BB2, cp_2, lt_2⟩
abbrev own_b9 := jdk_42_method_152_code
theorem d9_0 : decode own_b9 0 = .ok (.getstatic 38, 3) := by decide +kernel
theorem d9_3 : decode own_b9 3 = .ok (.ifCond .eq 10, 3) := by decide +kernel
theorem d9_6 : decode own_b9 6 = .ok (.aload_n 0, 1) := by decide +kernel
theorem d9_7 : decode own_b9 7 = .ok (.getfield 15, 3) := by decide +kernel
theorem d9_10 : decode own_b9 10 = .ok (.goto 4, 3) := by decide +kernel
theorem d9_14 : decode own_b9 14 = .ok (.ireturn, 1) := by decide +kernel
theorem pn_90 : plainFor (⟨"java/lang/String", "coder", "()B"⟩ : MethodName) = true := by first | exact plainFor_of_name (by first | (simp [plainName, overriddenIn]; done) | decide +kernel) | decide +kernel | exact Jvm.Free.JP.mathPlain rfl (by decide +kernel)
theorem ef_90 (m : MethodId) (a1 : Addr) : entryFrame m #[(.ref a1)] 1 = mkF m 0 #[.val (.ref a1)] [] := by first | (simp [entryFrame, mkF, argsToLocals, Value.category]; done) | rfl
abbrev own_r90 : Room := { frames := 0, cells := 0, slots := 0, locals := 0 }
def Q90 (Z : State) (a1 : Addr) (gz : Int32) (gf : Value) (h0 : Heap) (n0 : Nat) (v : Option Value) (h : Heap) (L : List Loc) : Prop := v = some (.int (0 : Int32)) ∧ Fr n0 L ∧ h = h0
theorem rm90 (l : Launch) (Z : State) (a0 : Array Value) (hw : ∀ d ∈ tables_1, d.before a0 Z = true) (ws : List Jvm.Cond) (a1 : Addr) (gz : Int32) (gf : Value) (h0 : Heap) (n0 : Nat) (Z0 : n0 ≤ h0.size) (O : Old Z n0 h0) (hst : own_ST Z gz gf) (F_c : Fld Z h0 a1 "java/lang/String" "coder" "B" (.int (0 : Int32))) :
    MetFree l own_n23 (head1 (Jvm.Cond.code own_n23 jdk_42_method_152_code 1 (some .byte) :: ws) own_r90) (fun a U => a = #[(.ref a1)] ∧ Z.Warmed39 U.vm ∧ U.heap = h0) (fun _ _ _ _ _ => True) (fun _ U o U' => ∃ v L, o = .returned v ∧ Q90 Z a1 gz gf h0 n0 v U'.heap L ∧ FrameEnd U o U' L own_r90.cells own_r90.slots) := by
  refine MetFree.of_bodySF pn_90 hisR ?_
  intro p e s m args below meth c s₁ Bd hml0 hP hK
  obtain ⟨rfl, hZ, hh⟩ := hP
  have hx := Bd.exec
  have hby := Bd.bytes
  have hml : c.maxLocals = 1 := hml0
  have hown : s.vm.findClass "java/lang/String" = some m.cls := findClass_of_methodNamed Bd.named
  have hnm := (name_of_methodNamed Bd.named Bd.method).1
  have X0 : Stand p l e own_r90 s m #[(.ref a1)] below meth c s₁ [] 0 0 := Stand.of_body Bd
  have e0 : s₁.heap = h0 := by rw [← hh, Bd.state]; rfl
  have N0 := Fr.nil n0
  refine own_at (castTop (ef_90 m a1)) ?_
  have K0 := Keep.refl h0 []
  obtain ⟨S1, P5, S2, rf, S3, S4, S5⟩ := id hst
  obtain ⟨T00, X00, e00, st00⟩ := getS2 X0 hx hZ hown (host := "") (Or.inl (own_w hw 15 rfl)) Via.refl e0 (S1.ext O.2) (g := (mkF m 0 #[.val (.ref a1)] [])) rfl (hb hby d9_0)
  refine own_by st00 ?_
  have sg7 : own_G p e below T00 (mkF m 7 #[.val (.ref a1)] [(.ref a1)]) T00 (mkF m 3 #[.val (.ref a1)] [(.int gz)]) := by
    intro t k
    refine XS.ifNo X00.here hx rfl (hb hby d9_3) rfl ((if0 _ _).trans (feq P5).1) ?_
    refine XS.aloadN X00.here hx rfl (hb hby d9_6) rfl rfl ?_
    exact k
  refine own_by sg7 ?_
  obtain ⟨T7, X7, e7, st7⟩ := getF X00 hx hZ hown (host := "") (Or.inl (own_w hw 27 rfl)) Via.refl e00 F_c (g := (mkF m 7 #[.val (.ref a1)] [(.ref a1)])) rfl rfl (hb hby d9_7)
  refine own_by st7 ?_
  have sg14 : own_G p e below T7 (mkF m 14 #[.val (.ref a1)] [(.int (0 : Int32))]) T7 (mkF m 10 #[.val (.ref a1)] [(.int (0 : Int32))]) := by
    intro t k
    refine XS.goto X7.here hx rfl (pc0 := 10) (pc' := 14) rfl (hb hby d9_10) (by decide) (by decide) ?_
    exact k
  refine own_by sg14 ?_
  obtain ⟨fs, hr, hrun, hended, hW, hsame⟩ := X7.leave (v := some (.int (0 : Int32))) (fun h => by rw [Bd.returns] at h; cases h)
  refine ⟨_, _, ?_, hrun, hended, _, _, rfl, ?_, ⟨_, rfl⟩, hW, hsame.mono (by decide) (by decide)⟩
  · exact retN X7 hx (t := .byte) Bd.returns (by simp) (hb hby d9_14) hr
  · show Q90 Z a1 gz gf h0 n0 _ T7.heap _
    rw [e7]
    exact ⟨rfl, N0, rfl⟩
theorem pn_91 : plainFor (⟨"java/lang/String", "coder", "()B"⟩ : MethodName) = true := by first | exact plainFor_of_name (by first | (simp [plainName, overriddenIn]; done) | decide +kernel) | decide +kernel | exact Jvm.Free.JP.mathPlain rfl (by decide +kernel)
theorem ef_91 (m : MethodId) (a1 : Addr) : entryFrame m #[(.ref a1)] 1 = mkF m 0 #[.val (.ref a1)] [] := by first | (simp [entryFrame, mkF, argsToLocals, Value.category]; done) | rfl
abbrev own_r91 : Room := { frames := 0, cells := 0, slots := 0, locals := 0 }
def Q91 (Z : State) (a1 : Addr) (gz : Int32) (gf : Value) (h0 : Heap) (n0 : Nat) (v : Option Value) (h : Heap) (L : List Loc) : Prop := v = some (.int (1 : Int32)) ∧ Fr n0 L ∧ h = h0
theorem rm91 (l : Launch) (Z : State) (a0 : Array Value) (hw : ∀ d ∈ tables_1, d.before a0 Z = true) (ws : List Jvm.Cond) (a1 : Addr) (gz : Int32) (gf : Value) (h0 : Heap) (n0 : Nat) (Z0 : n0 ≤ h0.size) (O : Old Z n0 h0) (hst : own_ST Z gz gf) (F_c : Fld Z h0 a1 "java/lang/String" "coder" "B" (.int (1 : Int32))) :
    MetFree l own_n23 (head1 (Jvm.Cond.code own_n23 jdk_42_method_152_code 1 (some .byte) :: ws) own_r91) (fun a U => a = #[(.ref a1)] ∧ Z.Warmed39 U.vm ∧ U.heap = h0) (fun _ _ _ _ _ => True) (fun _ U o U' => ∃ v L, o = .returned v ∧ Q91 Z a1 gz gf h0 n0 v U'.heap L ∧ FrameEnd U o U' L own_r91.cells own_r91.slots) := by
  refine MetFree.of_bodySF pn_91 hisR ?_
  intro p e s m args below meth c s₁ Bd hml0 hP hK
  obtain ⟨rfl, hZ, hh⟩ := hP
  have hx := Bd.exec
  have hby := Bd.bytes
  have hml : c.maxLocals = 1 := hml0
  have hown : s.vm.findClass "java/lang/String" = some m.cls := findClass_of_methodNamed Bd.named
  have hnm := (name_of_methodNamed Bd.named Bd.method).1
  have X0 : Stand p l e own_r91 s m #[(.ref a1)] below meth c s₁ [] 0 0 := Stand.of_body Bd
  have e0 : s₁.heap = h0 := by rw [← hh, Bd.state]; rfl
  have N0 := Fr.nil n0
  refine own_at (castTop (ef_91 m a1)) ?_
  have K0 := Keep.refl h0 []
  obtain ⟨S1, P5, S2, rf, S3, S4, S5⟩ := id hst
  obtain ⟨T00, X00, e00, st00⟩ := getS2 X0 hx hZ hown (host := "") (Or.inl (own_w hw 15 rfl)) Via.refl e0 (S1.ext O.2) (g := (mkF m 0 #[.val (.ref a1)] [])) rfl (hb hby d9_0)
  refine own_by st00 ?_
  have sg7 : own_G p e below T00 (mkF m 7 #[.val (.ref a1)] [(.ref a1)]) T00 (mkF m 3 #[.val (.ref a1)] [(.int gz)]) := by
    intro t k
    refine XS.ifNo X00.here hx rfl (hb hby d9_3) rfl ((if0 _ _).trans (feq P5).1) ?_
    refine XS.aloadN X00.here hx rfl (hb hby d9_6) rfl rfl ?_
    exact k
  refine own_by sg7 ?_
  obtain ⟨T7, X7, e7, st7⟩ := getF X00 hx hZ hown (host := "") (Or.inl (own_w hw 27 rfl)) Via.refl e00 F_c (g := (mkF m 7 #[.val (.ref a1)] [(.ref a1)])) rfl rfl (hb hby d9_7)
  refine own_by st7 ?_
  have sg14 : own_G p e below T7 (mkF m 14 #[.val (.ref a1)] [(.int (1 : Int32))]) T7 (mkF m 10 #[.val (.ref a1)] [(.int (1 : Int32))]) := by
    intro t k
    refine XS.goto X7.here hx rfl (pc0 := 10) (pc' := 14) rfl (hb hby d9_10) (by decide) (by decide) ?_
    exact k
  refine own_by sg14 ?_
  obtain ⟨fs, hr, hrun, hended, hW, hsame⟩ := X7.leave (v := some (.int (1 : Int32))) (fun h => by rw [Bd.returns] at h; cases h)
  refine ⟨_, _, ?_, hrun, hended, _, _, rfl, ?_, ⟨_, rfl⟩, hW, hsame.mono (by decide) (by decide)⟩
  · exact retN X7 hx (t := .byte) Bd.returns (by simp) (hb hby d9_14) hr
  · show Q91 Z a1 gz gf h0 n0 _ T7.heap _
    rw [e7]
    exact ⟨rfl, N0, rfl⟩
abbrev own_b8 := jdk_42_method_54_code
theorem d8_0 : decode own_b8 0 = .ok (.aload_n 0, 1) := by decide +kernel
theorem d8_1 : decode own_b8 1 = .ok (.getfield 9, 3) := by decide +kernel
theorem d8_4 : decode own_b8 4 = .ok (.arraylength, 1) := by decide +kernel
theorem d8_5 : decode own_b8 5 = .ok (.aload_n 0, 1) := by decide +kernel
theorem d8_6 : decode own_b8 6 = .ok (.invokevirtual 335, 3) := by decide +kernel
theorem d8_9 : decode own_b8 9 = .ok (.ishr, 1) := by decide +kernel
theorem d8_10 : decode own_b8 10 = .ok (.ireturn, 1) := by decide +kernel
theorem pn_8 : plainFor (⟨"java/lang/String", "length", "()I"⟩ : MethodName) = true := by first | exact plainFor_of_name (by first | (simp [plainName, overriddenIn]; done) | decide +kernel) | decide +kernel | exact Jvm.Free.JP.mathPlain rfl (by decide +kernel)
theorem pd_8_0 : parseMethodDescriptor "()B" = some ⟨[], some .byte⟩ := by decide +kernel
theorem ef_8 (m : MethodId) (a1 : Addr) : entryFrame m #[(.ref a1)] 1 = mkF m 0 #[.val (.ref a1)] [] := by first | (simp [entryFrame, mkF, argsToLocals, Value.category]; done) | rfl
abbrev own_r8 : Room := { frames := 1, cells := 0, slots := 0, locals := 13 }
def Q8 (Z : State) (a1 : Addr) (ta : Addr) (kb : ClassId) (N : Nat) (cd : Int32) (cs : List Int32) (gz : Int32) (gf : Value) (h0 : Heap) (n0 : Nat) (v : Option Value) (h : Heap) (L : List Loc) : Prop := v = some (.int (Int32.ofNat cs.length)) ∧ Fr n0 L ∧ h = h0
theorem rm8 (l : Launch) (Z : State) (a0 : Array Value) (hw : ∀ d ∈ tables_1, d.before a0 Z = true) (ws : List Jvm.Cond) (a1 : Addr) (ta : Addr) (kb : ClassId) (N : Nat) (cd : Int32) (cs : List Int32) (gz : Int32) (gf : Value) (h0 : Heap) (n0 : Nat) (Z0 : n0 ≤ h0.size) (O : Old Z n0 h0) (hst : own_ST Z gz gf) (TT : own_T Z h0 a1 ta kb N cd cs) :
    MetFree l own_n30 (head1 (Jvm.Cond.code own_n30 jdk_42_method_54_code 1 (some .int) :: ws) own_r8) (fun a U => a = #[(.ref a1)] ∧ Z.Warmed39 U.vm ∧ U.heap = h0) (fun _ _ _ _ _ => True) (fun _ U o U' => ∃ v L, o = .returned v ∧ Q8 Z a1 ta kb N cd cs gz gf h0 n0 v U'.heap L ∧ FrameEnd U o U' L own_r8.cells own_r8.slots) := by
  refine MetFree.of_bodySF pn_8 hisR ?_
  intro p e s m args below meth c s₁ Bd hml0 hP hK
  obtain ⟨rfl, hZ, hh⟩ := hP
  have hx := Bd.exec
  have hby := Bd.bytes
  have hml : c.maxLocals = 1 := hml0
  have hown : s.vm.findClass "java/lang/String" = some m.cls := findClass_of_methodNamed Bd.named
  have hnm := (name_of_methodNamed Bd.named Bd.method).1
  have X0 : Stand p l e own_r8 s m #[(.ref a1)] below meth c s₁ [] 0 0 := Stand.of_body Bd
  have e0 : s₁.heap = h0 := by rw [← hh, Bd.state]; rfl
  have N0 := Fr.nil n0
  refine own_at (castTop (ef_8 m a1)) ?_
  have K0 := Keep.refl h0 []
  obtain ⟨S1, P5, S2, rf, S3, S4, S5⟩ := id hst
  obtain ⟨E_s, F_v, F_c, A_v, hcd, ⟨hs0, hs1⟩, hcs, hln⟩ := id TT
  rcases hcd with rfl | rfl
  · skip
    have hs_ := hs0 rfl
    rw [own_cod0] at A_v
    have sg1 : own_G p e below s₁ (mkF m 1 #[.val (.ref a1)] [(.ref a1)]) s₁ (mkF m 0 #[.val (.ref a1)] []) := by
      intro t k
      refine XS.aloadN X0.here hx rfl (hb hby d8_0) rfl rfl ?_
      exact k
    refine own_by sg1 ?_
    obtain ⟨T1, X1, e1, st1⟩ := getF X0 hx hZ hown (host := "") (Or.inl (own_w hw 29 rfl)) Via.refl e0 F_v (g := (mkF m 1 #[.val (.ref a1)] [(.ref a1)])) rfl rfl (hb hby d8_1)
    refine own_by st1 ?_
    obtain ⟨cl4, Ar4, qa4, Sa4, Na4, Ha4, Ga4⟩ := id A_v
    obtain ⟨t4, ht4⟩ : ∃ z : Int32, z = (Int32.ofNat (N)) := ⟨_, rfl⟩
    have sg5 : own_G p e below T1 (mkF m 5 #[.val (.ref a1)] [(.int t4)]) T1 (mkF m 4 #[.val (.ref a1)] [(.ref ta)]) := by
      intro t k
      rw [ht4] at k
      refine X1.arraylength hx (by rw [e1]; exact Ar4.1) (State.isArrayOf_alike hZ.alike Ar4.2.1) (g := (mkF m 4 #[.val (.ref a1)] [(.ref ta)])) rfl rfl (hb hby d8_4) _ ?_
      rw [len_of Sa4 Na4]
      exact k
    refine own_by sg5 ?_
    have nt_t4 : t4 = Int32.ofNat (N) := ht4
    have sg6 : own_G p e below T1 (mkF m 6 #[.val (.ref a1)] [(.ref a1), (.int t4)]) T1 (mkF m 5 #[.val (.ref a1)] [(.int t4)]) := by
      intro t k
      refine XS.aloadN X1.here hx rfl (hb hby d8_5) rfl rfl ?_
      exact k
    refine own_by sg6 ?_
    obtain ⟨cq6, kq6, q6a, q6b, q6c⟩ := isOf hZ e1 E_s
    obtain ⟨_, _, ⟨T6, L6, k6, n6⟩, -, X6, ⟨Lc6, hQ6, l6, y6, z6⟩, st6⟩ := X1.virtualBack hx (y := own_n23) (z := own_n23) hown (mvT hZ (own_w hw 43 rfl)) (mvT hZ (own_w hw 44 rfl)) (notFace_of_selects (args := #[]) (mvT hZ (own_w hw 46 rfl))) (mvT hZ (own_w hw 46 rfl)) (mvT hZ (own_w hw 45 rfl)) (by decide) (backOf (W := 1) (rm90 l Z a0 hw [] a1 gz gf h0 n0 Z0 O hst F_c) hZ (own_w hw 47 rfl) (own_w hw 4 rfl) (by decide) (by decide)) q6a q6c (g := (mkF m 6 #[.val (.ref a1)] [(.ref a1), (.int t4)])) rfl (by rw [hml]; rfl) (Steps.refl _) (argsL := []) (rest := [(.int t4)]) (lenOf pd_8_0 rfl) rfl (Nat.le_of_eq rfl) (hb hby d8_6) (fun _ _ => ⟨rfl, e1, (by decide : 0 + 0 ≤ _), (by decide : 0 + 0 ≤ _)⟩)
    dsimp only [Pt.U, Pt.locs, Pt.cells, Pt.slots] at X6 l6 y6 z6 st6 hQ6
    subst l6 y6 z6
    obtain ⟨rfl, N6q, hq6⟩ := hQ6
    have N6 := Fr.app N0 N6q
    refine own_by (fun t k => st6.trans k) ?_
    obtain ⟨t9, ht9⟩ : ∃ z : Int32, z = (t4 >>> ((0 : Int32) &&& 31)) := ⟨_, rfl⟩
    have sg10 : own_G p e below T6 (mkF m 10 #[.val (.ref a1)] [(.int t9)]) T6 (mkF m 9 #[.val (.ref a1)] [(.int (0 : Int32)), (.int t4)]) := by
      intro t k
      rw [ht9] at k
      refine XS.ishr X6.here hx rfl (hb hby d8_9) rfl ?_
      exact k
    refine own_by sg10 ?_
    have nt_t9 : t9 = Int32.ofNat (N) := ht9.trans ((own_nshr0 _).trans nt_t4)
    obtain ⟨fs, hr, hrun, hended, hW, hsame⟩ := X6.leave (v := some (.int t9)) (fun h => by rw [Bd.returns] at h; cases h)
    refine ⟨_, _, ?_, hrun, hended, _, _, rfl, ?_, ⟨_, rfl⟩, hW, hsame.mono (by decide) (by decide)⟩
    · exact retI X6 hx Bd.returns (hb hby d8_10) hr
    · show Q8 Z a1 ta kb N (0 : Int32) cs gz gf h0 n0 _ T6.heap _
      rw [hq6]
      exact ⟨by rw [show t9 = Int32.ofNat cs.length from by rw [nt_t9]; congr 1; omega], N6, rfl⟩
  · skip
    have hs_ := hs1 rfl
    rw [own_cod1] at A_v
    have sg1 : own_G p e below s₁ (mkF m 1 #[.val (.ref a1)] [(.ref a1)]) s₁ (mkF m 0 #[.val (.ref a1)] []) := by
      intro t k
      refine XS.aloadN X0.here hx rfl (hb hby d8_0) rfl rfl ?_
      exact k
    refine own_by sg1 ?_
    obtain ⟨T1, X1, e1, st1⟩ := getF X0 hx hZ hown (host := "") (Or.inl (own_w hw 29 rfl)) Via.refl e0 F_v (g := (mkF m 1 #[.val (.ref a1)] [(.ref a1)])) rfl rfl (hb hby d8_1)
    refine own_by st1 ?_
    obtain ⟨cl4, Ar4, qa4, Sa4, Na4, Ha4, Ga4⟩ := id A_v
    obtain ⟨t4, ht4⟩ : ∃ z : Int32, z = (Int32.ofNat (N)) := ⟨_, rfl⟩
    have sg5 : own_G p e below T1 (mkF m 5 #[.val (.ref a1)] [(.int t4)]) T1 (mkF m 4 #[.val (.ref a1)] [(.ref ta)]) := by
      intro t k
      rw [ht4] at k
      refine X1.arraylength hx (by rw [e1]; exact Ar4.1) (State.isArrayOf_alike hZ.alike Ar4.2.1) (g := (mkF m 4 #[.val (.ref a1)] [(.ref ta)])) rfl rfl (hb hby d8_4) _ ?_
      rw [len_of Sa4 Na4]
      exact k
    refine own_by sg5 ?_
    have nt_t4 : t4 = Int32.ofNat (N) := ht4
    have sg6 : own_G p e below T1 (mkF m 6 #[.val (.ref a1)] [(.ref a1), (.int t4)]) T1 (mkF m 5 #[.val (.ref a1)] [(.int t4)]) := by
      intro t k
      refine XS.aloadN X1.here hx rfl (hb hby d8_5) rfl rfl ?_
      exact k
    refine own_by sg6 ?_
    obtain ⟨cq6, kq6, q6a, q6b, q6c⟩ := isOf hZ e1 E_s
    obtain ⟨_, _, ⟨T6, L6, k6, n6⟩, -, X6, ⟨Lc6, hQ6, l6, y6, z6⟩, st6⟩ := X1.virtualBack hx (y := own_n23) (z := own_n23) hown (mvT hZ (own_w hw 43 rfl)) (mvT hZ (own_w hw 44 rfl)) (notFace_of_selects (args := #[]) (mvT hZ (own_w hw 46 rfl))) (mvT hZ (own_w hw 46 rfl)) (mvT hZ (own_w hw 45 rfl)) (by decide) (backOf (W := 1) (rm91 l Z a0 hw [] a1 gz gf h0 n0 Z0 O hst F_c) hZ (own_w hw 47 rfl) (own_w hw 4 rfl) (by decide) (by decide)) q6a q6c (g := (mkF m 6 #[.val (.ref a1)] [(.ref a1), (.int t4)])) rfl (by rw [hml]; rfl) (Steps.refl _) (argsL := []) (rest := [(.int t4)]) (lenOf pd_8_0 rfl) rfl (Nat.le_of_eq rfl) (hb hby d8_6) (fun _ _ => ⟨rfl, e1, (by decide : 0 + 0 ≤ _), (by decide : 0 + 0 ≤ _)⟩)
    dsimp only [Pt.U, Pt.locs, Pt.cells, Pt.slots] at X6 l6 y6 z6 st6 hQ6
    subst l6 y6 z6
    obtain ⟨rfl, N6q, hq6⟩ := hQ6
    have N6 := Fr.app N0 N6q
    refine own_by (fun t k => st6.trans k) ?_
    obtain ⟨t9, ht9⟩ : ∃ z : Int32, z = (t4 >>> ((1 : Int32) &&& 31)) := ⟨_, rfl⟩
    have sg10 : own_G p e below T6 (mkF m 10 #[.val (.ref a1)] [(.int t9)]) T6 (mkF m 9 #[.val (.ref a1)] [(.int (1 : Int32)), (.int t4)]) := by
      intro t k
      rw [ht9] at k
      refine XS.ishr X6.here hx rfl (hb hby d8_9) rfl ?_
      exact k
    refine own_by sg10 ?_
    have nt_t9 : t9 = Int32.ofNat ((N) / 2) := ht9.trans (own_nshr1 nt_t4 (by omega))
    obtain ⟨fs, hr, hrun, hended, hW, hsame⟩ := X6.leave (v := some (.int t9)) (fun h => by rw [Bd.returns] at h; cases h)
    refine ⟨_, _, ?_, hrun, hended, _, _, rfl, ?_, ⟨_, rfl⟩, hW, hsame.mono (by decide) (by decide)⟩
    · exact retI X6 hx Bd.returns (hb hby d8_10) hr
    · show Q8 Z a1 ta kb N (1 : Int32) cs gz gf h0 n0 _ T6.heap _
      rw [hq6]
      exact ⟨by rw [show t9 = Int32.ofNat cs.length from by rw [nt_t9]; congr 1; omega], N6, rfl⟩
abbrev own_b19 := jdk_43_method_2_code
theorem d19_0 : decode own_b19 0 = .ok (.iload_n 1, 1) := by decide +kernel
theorem d19_1 : decode own_b19 1 = .ok (.aload_n 0, 1) := by decide +kernel
theorem d19_2 : decode own_b19 2 = .ok (.arraylength, 1) := by decide +kernel
theorem d19_3 : decode own_b19 3 = .ok (.invokestatic 9, 3) := by decide +kernel
theorem d19_6 : decode own_b19 6 = .ok (.aload_n 0, 1) := by decide +kernel
theorem d19_7 : decode own_b19 7 = .ok (.iload_n 1, 1) := by decide +kernel
theorem d19_8 : decode own_b19 8 = .ok (.baload, 1) := by decide +kernel
theorem d19_9 : decode own_b19 9 = .ok (.sipush 255, 3) := by decide +kernel
theorem d19_12 : decode own_b19 12 = .ok (.iand, 1) := by decide +kernel
theorem d19_13 : decode own_b19 13 = .ok (.i2c, 1) := by decide +kernel
theorem d19_14 : decode own_b19 14 = .ok (.ireturn, 1) := by decide +kernel
theorem pn_19 : plainFor (⟨"java/lang/StringLatin1", "charAt", "([BI)C"⟩ : MethodName) = true := by first | exact plainFor_of_name (by first | (simp [plainName, overriddenIn]; done) | decide +kernel) | decide +kernel | exact Jvm.Free.JP.mathPlain rfl (by decide +kernel)
theorem pd_19_0 : parseMethodDescriptor "(II)V" = some ⟨[.int, .int], none⟩ := by decide +kernel
theorem ef_19 (m : MethodId) (a1 : Addr) (p1 : Int32) : entryFrame m #[(.ref a1), (.int p1)] 2 = mkF m 0 #[.val (.ref a1), .val (.int p1)] [] := by first | (simp [entryFrame, mkF, argsToLocals, Value.category]; done) | rfl
abbrev own_r19 : Room := { frames := 2, cells := 0, slots := 0, locals := 27 }
def Q19 (Z : State) (a1 : Addr) (p1 : Int32) (kb : ClassId) (N : Nat) (cs : List Int32) (i : Nat) (ch : Int32) (gz : Int32) (gf : Value) (h0 : Heap) (n0 : Nat) (v : Option Value) (h : Heap) (L : List Loc) : Prop := v = some (.int ch) ∧ Fr n0 L ∧ h = h0
theorem rm19 (l : Launch) (Z : State) (a0 : Array Value) (hw : ∀ d ∈ tables_1, d.before a0 Z = true) (ws : List Jvm.Cond) (a1 : Addr) (p1 : Int32) (kb : ClassId) (N : Nat) (cs : List Int32) (i : Nat) (ch : Int32) (gz : Int32) (gf : Value) (h0 : Heap) (n0 : Nat) (Z0 : n0 ≤ h0.size) (O : Old Z n0 h0) (hst : own_ST Z gz gf) (A_1 : Arv Z h0 a1 kb .byte (Int32.ofNat (N)) (own_c0 cs) (.int (0 : Int32))) (hp1 : p1 = Int32.ofNat i) (hq : cs[i]? = some ch) (hN1 : N ≤ 1000) (hc : ¬ ch < 0 ∧ ¬ (255 : Int32) < ch) (hle : cs.length ≤ N) :
    MetFree l own_n26 (head1 (Jvm.Cond.code own_n26 jdk_43_method_2_code 2 (some .char) :: ws) own_r19) (fun a U => a = #[(.ref a1), (.int p1)] ∧ Z.Warmed39 U.vm ∧ U.heap = h0) (fun _ _ _ _ _ => True) (fun _ U o U' => ∃ v L, o = .returned v ∧ Q19 Z a1 p1 kb N cs i ch gz gf h0 n0 v U'.heap L ∧ FrameEnd U o U' L own_r19.cells own_r19.slots) := by
  refine MetFree.of_bodySF pn_19 hisR ?_
  intro p e s m args below meth c s₁ Bd hml0 hP hK
  obtain ⟨rfl, hZ, hh⟩ := hP
  have hx := Bd.exec
  have hby := Bd.bytes
  have hml : c.maxLocals = 2 := hml0
  have hown : s.vm.findClass "java/lang/StringLatin1" = some m.cls := findClass_of_methodNamed Bd.named
  have hnm := (name_of_methodNamed Bd.named Bd.method).1
  have X0 : Stand p l e own_r19 s m #[(.ref a1), (.int p1)] below meth c s₁ [] 0 0 := Stand.of_body Bd
  have e0 : s₁.heap = h0 := by rw [← hh, Bd.state]; rfl
  have N0 := Fr.nil n0
  refine own_at (castTop (ef_19 m a1 p1)) ?_
  have K0 := Keep.refl h0 []
  obtain ⟨S1, P5, S2, rf, S3, S4, S5⟩ := id hst
  have hil : i < cs.length := (List.getElem?_eq_some_iff.mp hq).1
  have sg2 : own_G p e below s₁ (mkF m 2 #[.val (.ref a1), .val (.int p1)] [(.ref a1), (.int p1)]) s₁ (mkF m 0 #[.val (.ref a1), .val (.int p1)] []) := by
    intro t k
    refine XS.iloadN X0.here hx rfl (hb hby d19_0) rfl ?_
    refine XS.aloadN X0.here hx rfl (hb hby d19_1) rfl rfl ?_
    exact k
  refine own_by sg2 ?_
  obtain ⟨cl2, Ar2, qa2, Sa2, Na2, Ha2, Ga2⟩ := id A_1
  obtain ⟨t2, ht2⟩ : ∃ z : Int32, z = (Int32.ofNat (N)) := ⟨_, rfl⟩
  have sg3 : own_G p e below s₁ (mkF m 3 #[.val (.ref a1), .val (.int p1)] [(.int t2), (.int p1)]) s₁ (mkF m 2 #[.val (.ref a1), .val (.int p1)] [(.ref a1), (.int p1)]) := by
    intro t k
    rw [ht2] at k
    refine X0.arraylength hx (by rw [e0]; exact Ar2.1) (State.isArrayOf_alike hZ.alike Ar2.2.1) (g := (mkF m 2 #[.val (.ref a1), .val (.int p1)] [(.ref a1), (.int p1)])) rfl rfl (hb hby d19_2) _ ?_
    rw [len_of Sa2 Na2]
    exact k
  refine own_by sg3 ?_
  have nt_t2 : t2 = Int32.ofNat (N) := ht2
  obtain ⟨_, _, ⟨T3, L3, k3, n3⟩, -, X3, ⟨Lc3, hQ3, l3, y3, z3⟩, st3⟩ := Jvm.LawKit.callS X0 hx (y := own_n9) hown (mvT hZ (own_w hw 102 rfl)) (mvT hZ (own_w hw 103 rfl)) (mvT hZ (own_w hw 4 rfl)) (mvT hZ (own_w hw 104 rfl)) (by decide) (backOf (W := 0) (rm20 l Z a0 hw [] p1 t2 i (N) gz gf h0 n0 Z0 O hst hp1 nt_t2 (by omega) (by omega)) hZ (own_w hw 104 rfl) (own_w hw 4 rfl) (by decide) (by decide)) (g := (mkF m 3 #[.val (.ref a1), .val (.int p1)] [(.int t2), (.int p1)])) rfl (by rw [hml]; rfl) (argsL := [(.int p1), (.int t2)]) (rest := []) (lenOf pd_19_0 rfl) rfl (Nat.le_of_eq rfl) (hb hby d19_3) (fun _ _ => ⟨rfl, e0, (by decide : 0 + 0 ≤ _), (by decide : 0 + 0 ≤ _)⟩)
  dsimp only [Pt.U, Pt.locs, Pt.cells, Pt.slots] at X3 l3 y3 z3 st3 hQ3
  subst l3 y3 z3
  obtain ⟨rfl, N3q, hq3⟩ := hQ3
  have N3 := Fr.app N0 N3q
  refine own_by st3 ?_
  have sg8 : own_G p e below T3 (mkF m 8 #[.val (.ref a1), .val (.int p1)] [(.int p1), (.ref a1)]) T3 (mkF m 6 #[.val (.ref a1), .val (.int p1)] []) := by
    intro t k
    refine XS.aloadN X3.here hx rfl (hb hby d19_6) rfl rfl ?_
    refine XS.iloadN X3.here hx rfl (hb hby d19_7) rfl ?_
    exact k
  refine own_by sg8 ?_
  obtain ⟨cl8, Ar8, qa8, Sa8, Na8, Ha8, Ga8⟩ := id A_1
  have ib8 : ¬ (p1 < 0 ∨ cl8.slots.size ≤ p1.toNatClampNeg) := inb_of Sa8 ⟨(own_nge (hp1) (by omega)), (own_nlt hp1 (rfl : Int32.ofNat (N) = Int32.ofNat (N)) (by omega) (by omega)).mpr (by omega)⟩
  obtain ⟨k, hk⟩ : ∃ z : Int32, z = ((ch.toInt8.toInt32 &&& (255 : Int32)).toUInt32.toUInt16.toUInt32.toInt32) := ⟨_, rfl⟩
  have hk_k : ¬ k < 0 ∧ ¬ (255 : Int32) < k := by rw [hk]; exact own_c255 _
  have sg14 : own_G p e below T3 (mkF m 14 #[.val (.ref a1), .val (.int p1)] [(.int k)]) T3 (mkF m 8 #[.val (.ref a1), .val (.int p1)] [(.int p1), (.ref a1)]) := by
    intro t k
    rw [hk] at k
    refine X3.baloadBytes hx (j := p1) (v := (.int ch.toInt8.toInt32)) (by rw [hq3]; exact Ar8.1) (State.isArrayOf_alike hZ.alike Ar8.2.1) Ar8.2.2 ib8 (Has.at Ha8 ib8 (by rw [own_ntc (hp1) (by omega)]; exact own_c0_at hq _)) (g := (mkF m 8 #[.val (.ref a1), .val (.int p1)] [(.int p1), (.ref a1)])) rfl rfl (hb hby d19_8) _ ?_
    refine XS.sipush X3.here hx rfl (hb hby d19_9) ?_
    refine XS.iand X3.here hx rfl (hb hby d19_12) rfl ?_
    refine XS.i2c X3.here hx rfl (hb hby d19_13) rfl ?_
    exact k
  refine own_by sg14 ?_
  have hkc : k = ch := by rw [hk, own_mask hc]; exact own_nar16 (own_up1 hc)
  obtain ⟨fs, hr, hrun, hended, hW, hsame⟩ := X3.leave (v := some (.int k)) (fun h => by rw [Bd.returns] at h; cases h)
  refine ⟨_, _, ?_, hrun, hended, _, _, rfl, ?_, ⟨_, rfl⟩, hW, hsame.mono (by decide) (by decide)⟩
  · exact retN X3 hx (t := .char) Bd.returns (by simp) (hb hby d19_14) (by rw [show nar .char k = k from own_nar16 (by rw [hkc]; exact own_up1 hc)]; exact hr)
  · show Q19 Z a1 p1 kb N cs i ch gz gf h0 n0 _ T3.heap _
    rw [hq3]
    exact ⟨by rw [hkc], N3, rfl⟩
abbrev own_b48 := jdk_52_method_5_code
theorem d48_0 : decode own_b48 0 = .ok (.getstatic 44, 3) := by decide +kernel
theorem d48_3 : decode own_b48 3 = .ok (.ifCond .ne 25, 3) := by decide +kernel
theorem d48_28 : decode own_b48 28 = .ok (.iload_n 1, 1) := by decide +kernel
theorem d48_29 : decode own_b48 29 = .ok (.iconst 1, 1) := by decide +kernel
theorem d48_30 : decode own_b48 30 = .ok (.ishl, 1) := by decide +kernel
theorem d48_31 : decode own_b48 31 = .ok (.istore_n 1, 1) := by decide +kernel
theorem d48_32 : decode own_b48 32 = .ok (.aload_n 0, 1) := by decide +kernel
theorem d48_33 : decode own_b48 33 = .ok (.iload_n 1, 1) := by decide +kernel
theorem d48_34 : decode own_b48 34 = .ok (.iinc 1 1, 3) := by decide +kernel
theorem d48_37 : decode own_b48 37 = .ok (.baload, 1) := by decide +kernel
theorem d48_38 : decode own_b48 38 = .ok (.sipush 255, 3) := by decide +kernel
theorem d48_41 : decode own_b48 41 = .ok (.iand, 1) := by decide +kernel
theorem d48_42 : decode own_b48 42 = .ok (.getstatic 59, 3) := by decide +kernel
theorem d48_45 : decode own_b48 45 = .ok (.ishl, 1) := by decide +kernel
theorem d48_46 : decode own_b48 46 = .ok (.aload_n 0, 1) := by decide +kernel
theorem d48_47 : decode own_b48 47 = .ok (.iload_n 1, 1) := by decide +kernel
theorem d48_48 : decode own_b48 48 = .ok (.baload, 1) := by decide +kernel
theorem d48_49 : decode own_b48 49 = .ok (.sipush 255, 3) := by decide +kernel
theorem d48_52 : decode own_b48 52 = .ok (.iand, 1) := by decide +kernel
theorem d48_53 : decode own_b48 53 = .ok (.getstatic 63, 3) := by decide +kernel
theorem d48_56 : decode own_b48 56 = .ok (.ishl, 1) := by decide +kernel
theorem d48_57 : decode own_b48 57 = .ok (.ior, 1) := by decide +kernel
theorem d48_58 : decode own_b48 58 = .ok (.i2c, 1) := by decide +kernel
theorem d48_59 : decode own_b48 59 = .ok (.ireturn, 1) := by decide +kernel
theorem pn_48 : plainFor (⟨"java/lang/StringUTF16", "getChar", "([BI)C"⟩ : MethodName) = true := by first | exact plainFor_of_name (by first | (simp [plainName, overriddenIn]; done) | decide +kernel) | decide +kernel | exact Jvm.Free.JP.mathPlain rfl (by decide +kernel)
theorem ef_48 (m : MethodId) (a1 : Addr) (p1 : Int32) : entryFrame m #[(.ref a1), (.int p1)] 2 = mkF m 0 #[.val (.ref a1), .val (.int p1)] [] := by first | (simp [entryFrame, mkF, argsToLocals, Value.category]; done) | rfl
abbrev own_r48 : Room := { frames := 0, cells := 0, slots := 0, locals := 0 }
def Q48 (Z : State) (a1 : Addr) (p1 : Int32) (kb : ClassId) (N : Nat) (cs : List Int32) (i : Nat) (ch : Int32) (gz : Int32) (gf : Value) (h0 : Heap) (n0 : Nat) (v : Option Value) (h : Heap) (L : List Loc) : Prop := v = some (.int ch) ∧ Fr n0 L ∧ h = h0
theorem rm48 (l : Launch) (Z : State) (a0 : Array Value) (hw : ∀ d ∈ tables_1, d.before a0 Z = true) (ws : List Jvm.Cond) (a1 : Addr) (p1 : Int32) (kb : ClassId) (N : Nat) (cs : List Int32) (i : Nat) (ch : Int32) (gz : Int32) (gf : Value) (h0 : Heap) (n0 : Nat) (Z0 : n0 ≤ h0.size) (O : Old Z n0 h0) (hst : own_ST Z gz gf) (A_1 : Arv Z h0 a1 kb .byte (Int32.ofNat (N)) (own_c1 cs) (.int (0 : Int32))) (hp1 : p1 = Int32.ofNat i) (hq : cs[i]? = some ch) (hN1 : N ≤ 1000) (hc : ¬ ch < 0 ∧ ¬ (65535 : Int32) < ch) (hle : 2 * cs.length ≤ N) :
    MetFree l own_n24 (head1 (Jvm.Cond.code own_n24 jdk_52_method_5_code 2 (some .char) :: ws) own_r48) (fun a U => a = #[(.ref a1), (.int p1)] ∧ Z.Warmed39 U.vm ∧ U.heap = h0) (fun _ _ _ _ _ => True) (fun _ U o U' => ∃ v L, o = .returned v ∧ Q48 Z a1 p1 kb N cs i ch gz gf h0 n0 v U'.heap L ∧ FrameEnd U o U' L own_r48.cells own_r48.slots) := by
  refine MetFree.of_bodySF pn_48 hisR ?_
  intro p e s m args below meth c s₁ Bd hml0 hP hK
  obtain ⟨rfl, hZ, hh⟩ := hP
  have hx := Bd.exec
  have hby := Bd.bytes
  have hml : c.maxLocals = 2 := hml0
  have hown : s.vm.findClass "java/lang/StringUTF16" = some m.cls := findClass_of_methodNamed Bd.named
  have hnm := (name_of_methodNamed Bd.named Bd.method).1
  have X0 : Stand p l e own_r48 s m #[(.ref a1), (.int p1)] below meth c s₁ [] 0 0 := Stand.of_body Bd
  have e0 : s₁.heap = h0 := by rw [← hh, Bd.state]; rfl
  have N0 := Fr.nil n0
  refine own_at (castTop (ef_48 m a1 p1)) ?_
  have K0 := Keep.refl h0 []
  obtain ⟨S1, P5, S2, rf, S3, S4, S5⟩ := id hst
  have hil : i < cs.length := (List.getElem?_eq_some_iff.mp hq).1
  obtain ⟨T00, X00, e00, st00⟩ := getS2 X0 hx hZ hown (host := "") (Or.inl (own_w hw 238 rfl)) Via.refl e0 (S3.ext O.2) (g := (mkF m 0 #[.val (.ref a1), .val (.int p1)] [])) rfl (hb hby d48_0)
  refine own_by st00 ?_
  obtain ⟨t30, ht30⟩ : ∃ z : Int32, z = (p1 <<< ((1 : Int32) &&& 31)) := ⟨_, rfl⟩
  have sg31 : own_G p e below T00 (mkF m 31 #[.val (.ref a1), .val (.int p1)] [(.int t30)]) T00 (mkF m 3 #[.val (.ref a1), .val (.int p1)] [(.int (1 : Int32))]) := by
    intro t k
    rw [ht30] at k
    refine XS.ifYes X00.here hx rfl (pc0 := 3) (pc' := 28) rfl (hb hby d48_3) rfl ((if0 _ _).trans (feq (by decide : ¬ ((1 : Int32) = (0 : Int32)))).2) (by decide) (by decide) ?_
    refine XS.iloadN X00.here hx rfl (hb hby d48_28) rfl ?_
    refine XS.iconst X00.here hx rfl (hb hby d48_29) ?_
    refine XS.ishl X00.here hx rfl (hb hby d48_30) rfl ?_
    exact k
  refine own_by sg31 ?_
  have nt_t30 : t30 = Int32.ofNat (2 * (i)) := ht30.trans (own_nshl1 hp1)
  have sg37 : own_G p e below T00 (mkF m 37 #[.val (.ref a1), .val (.int (t30 + (1 : Int32)))] [(.int t30), (.ref a1)]) T00 (mkF m 31 #[.val (.ref a1), .val (.int p1)] [(.int t30)]) := by
    intro t k
    refine XS.istoreN X00.here hx rfl (hb hby d48_31) rfl (l' := #[.val (.ref a1), .val (.int t30)]) rfl ?_
    refine XS.aloadN X00.here hx rfl (hb hby d48_32) rfl rfl ?_
    refine XS.iloadN X00.here hx rfl (hb hby d48_33) rfl ?_
    refine XS.iinc X00.here hx rfl (hb hby d48_34) rfl (l' := #[.val (.ref a1), .val (.int (t30 + (1 : Int32)))]) rfl ?_
    exact k
  refine own_by sg37 ?_
  obtain ⟨cl37, Ar37, qa37, Sa37, Na37, Ha37, Ga37⟩ := id A_1
  have ib37 : ¬ (t30 < 0 ∨ cl37.slots.size ≤ t30.toNatClampNeg) := inb_of Sa37 ⟨(own_nge (nt_t30) (by omega)), (own_nlt nt_t30 (rfl : Int32.ofNat (N) = Int32.ofNat (N)) (by omega) (by omega)).mpr (by omega)⟩
  have sg42 : own_G p e below T00 (mkF m 42 #[.val (.ref a1), .val (.int (t30 + (1 : Int32)))] [(.int ((own_lo ch) &&& (255 : Int32)))]) T00 (mkF m 37 #[.val (.ref a1), .val (.int (t30 + (1 : Int32)))] [(.int t30), (.ref a1)]) := by
    intro t k
    refine X00.baloadBytes hx (j := t30) (v := (.int (own_lo ch))) (by rw [e00]; exact Ar37.1) (State.isArrayOf_alike hZ.alike Ar37.2.1) Ar37.2.2 ib37 (Has.at Ha37 ib37 (by rw [own_ntc (nt_t30) (by omega)]; exact (own_c1_at hq _).1)) (g := (mkF m 37 #[.val (.ref a1), .val (.int (t30 + (1 : Int32)))] [(.int t30), (.ref a1)])) rfl rfl (hb hby d48_37) _ ?_
    refine XS.sipush X00.here hx rfl (hb hby d48_38) ?_
    refine XS.iand X00.here hx rfl (hb hby d48_41) rfl ?_
    exact k
  refine own_by sg42 ?_
  obtain ⟨T42, X42, e42, st42⟩ := getS2 X00 hx hZ hown (host := "") (Or.inl (own_w hw 239 rfl)) Via.refl e00 (S4.ext O.2) (g := (mkF m 42 #[.val (.ref a1), .val (.int (t30 + (1 : Int32)))] [(.int ((own_lo ch) &&& (255 : Int32)))])) rfl (hb hby d48_42)
  refine own_by st42 ?_
  have sg48 : own_G p e below T42 (mkF m 48 #[.val (.ref a1), .val (.int (t30 + (1 : Int32)))] [(.int (t30 + (1 : Int32))), (.ref a1), (.int (((own_lo ch) &&& (255 : Int32)) <<< ((0 : Int32) &&& 31)))]) T42 (mkF m 45 #[.val (.ref a1), .val (.int (t30 + (1 : Int32)))] [(.int (0 : Int32)), (.int ((own_lo ch) &&& (255 : Int32)))]) := by
    intro t k
    refine XS.ishl X42.here hx rfl (hb hby d48_45) rfl ?_
    refine XS.aloadN X42.here hx rfl (hb hby d48_46) rfl rfl ?_
    refine XS.iloadN X42.here hx rfl (hb hby d48_47) rfl ?_
    exact k
  refine own_by sg48 ?_
  obtain ⟨cl48, Ar48, qa48, Sa48, Na48, Ha48, Ga48⟩ := id A_1
  have ib48 : ¬ ((t30 + (1 : Int32)) < 0 ∨ cl48.slots.size ≤ (t30 + (1 : Int32)).toNatClampNeg) := inb_of Sa48 ⟨(own_nge ((own_nadd (n := 1) nt_t30 (rfl : (1 : Int32) = Int32.ofNat 1))) (by omega)), (own_nlt (own_nadd (n := 1) nt_t30 (rfl : (1 : Int32) = Int32.ofNat 1)) (rfl : Int32.ofNat (N) = Int32.ofNat (N)) (by omega) (by omega)).mpr (by omega)⟩
  have sg53 : own_G p e below T42 (mkF m 53 #[.val (.ref a1), .val (.int (t30 + (1 : Int32)))] [(.int ((own_hi ch) &&& (255 : Int32))), (.int (((own_lo ch) &&& (255 : Int32)) <<< ((0 : Int32) &&& 31)))]) T42 (mkF m 48 #[.val (.ref a1), .val (.int (t30 + (1 : Int32)))] [(.int (t30 + (1 : Int32))), (.ref a1), (.int (((own_lo ch) &&& (255 : Int32)) <<< ((0 : Int32) &&& 31)))]) := by
    intro t k
    refine X42.baloadBytes hx (j := (t30 + (1 : Int32))) (v := (.int (own_hi ch))) (by rw [e42]; exact Ar48.1) (State.isArrayOf_alike hZ.alike Ar48.2.1) Ar48.2.2 ib48 (Has.at Ha48 ib48 (by rw [own_ntc ((own_nadd (n := 1) nt_t30 (rfl : (1 : Int32) = Int32.ofNat 1))) (by omega)]; exact (own_c1_at hq _).2)) (g := (mkF m 48 #[.val (.ref a1), .val (.int (t30 + (1 : Int32)))] [(.int (t30 + (1 : Int32))), (.ref a1), (.int (((own_lo ch) &&& (255 : Int32)) <<< ((0 : Int32) &&& 31)))])) rfl rfl (hb hby d48_48) _ ?_
    refine XS.sipush X42.here hx rfl (hb hby d48_49) ?_
    refine XS.iand X42.here hx rfl (hb hby d48_52) rfl ?_
    exact k
  refine own_by sg53 ?_
  obtain ⟨T53, X53, e53, st53⟩ := getS2 X42 hx hZ hown (host := "") (Or.inl (own_w hw 240 rfl)) Via.refl e42 (S5.ext O.2) (g := (mkF m 53 #[.val (.ref a1), .val (.int (t30 + (1 : Int32)))] [(.int ((own_hi ch) &&& (255 : Int32))), (.int (((own_lo ch) &&& (255 : Int32)) <<< ((0 : Int32) &&& 31)))])) rfl (hb hby d48_53)
  refine own_by st53 ?_
  obtain ⟨k, hk⟩ : ∃ z : Int32, z = (((((own_lo ch) &&& (255 : Int32)) <<< ((0 : Int32) &&& 31)) ||| (((own_hi ch) &&& (255 : Int32)) <<< ((8 : Int32) &&& 31))).toUInt32.toUInt16.toUInt32.toInt32) := ⟨_, rfl⟩
  have sg59 : own_G p e below T53 (mkF m 59 #[.val (.ref a1), .val (.int (t30 + (1 : Int32)))] [(.int k)]) T53 (mkF m 56 #[.val (.ref a1), .val (.int (t30 + (1 : Int32)))] [(.int (8 : Int32)), (.int ((own_hi ch) &&& (255 : Int32))), (.int (((own_lo ch) &&& (255 : Int32)) <<< ((0 : Int32) &&& 31)))]) := by
    intro t k
    rw [hk] at k
    refine XS.ishl X53.here hx rfl (hb hby d48_56) rfl ?_
    refine XS.ior X53.here hx rfl (hb hby d48_57) rfl ?_
    refine XS.i2c X53.here hx rfl (hb hby d48_58) rfl ?_
    exact k
  refine own_by sg59 ?_
  have hkc : k = ch := by rw [hk]; exact own_pair hc
  obtain ⟨fs, hr, hrun, hended, hW, hsame⟩ := X53.leave (v := some (.int k)) (fun h => by rw [Bd.returns] at h; cases h)
  refine ⟨_, _, ?_, hrun, hended, _, _, rfl, ?_, ⟨_, rfl⟩, hW, hsame.mono (by decide) (by decide)⟩
  · exact retN X53 hx (t := .char) Bd.returns (by simp) (hb hby d48_59) (by rw [show nar .char k = k from own_nar16 (by rw [hkc]; exact hc)]; exact hr)
  · show Q48 Z a1 p1 kb N cs i ch gz gf h0 n0 _ T53.heap _
    rw [e53]
    exact ⟨by rw [hkc], N0, rfl⟩
abbrev own_b49 := jdk_52_method_83_code
theorem d49_0 : decode own_b49 0 = .ok (.iload_n 1, 1) := by decide +kernel
theorem d49_1 : decode own_b49 1 = .ok (.aload_n 0, 1) := by decide +kernel
theorem d49_2 : decode own_b49 2 = .ok (.invokestatic 67, 3) := by decide +kernel
theorem d49_5 : decode own_b49 5 = .ok (.aload_n 0, 1) := by decide +kernel
theorem d49_6 : decode own_b49 6 = .ok (.iload_n 1, 1) := by decide +kernel
theorem d49_7 : decode own_b49 7 = .ok (.invokestatic 71, 3) := by decide +kernel
theorem d49_10 : decode own_b49 10 = .ok (.ireturn, 1) := by decide +kernel
theorem pn_49 : plainFor (⟨"java/lang/StringUTF16", "charAt", "([BI)C"⟩ : MethodName) = true := by first | exact plainFor_of_name (by first | (simp [plainName, overriddenIn]; done) | decide +kernel) | decide +kernel | exact Jvm.Free.JP.mathPlain rfl (by decide +kernel)
theorem pd_49_0 : parseMethodDescriptor "(I[B)V" = some ⟨[.int, (.array .byte)], none⟩ := by decide +kernel
theorem pd_49_1 : parseMethodDescriptor "([BI)C" = some ⟨[(.array .byte), .int], some .char⟩ := by decide +kernel
theorem ef_49 (m : MethodId) (a1 : Addr) (p1 : Int32) : entryFrame m #[(.ref a1), (.int p1)] 2 = mkF m 0 #[.val (.ref a1), .val (.int p1)] [] := by first | (simp [entryFrame, mkF, argsToLocals, Value.category]; done) | rfl
abbrev own_r49 : Room := { frames := 3, cells := 0, slots := 0, locals := 40 }
def Q49 (Z : State) (a1 : Addr) (p1 : Int32) (kb : ClassId) (N : Nat) (cs : List Int32) (i : Nat) (ch : Int32) (gz : Int32) (gf : Value) (h0 : Heap) (n0 : Nat) (v : Option Value) (h : Heap) (L : List Loc) : Prop := v = some (.int ch) ∧ Fr n0 L ∧ h = h0
theorem rm49 (l : Launch) (Z : State) (a0 : Array Value) (hw : ∀ d ∈ tables_1, d.before a0 Z = true) (ws : List Jvm.Cond) (a1 : Addr) (p1 : Int32) (kb : ClassId) (N : Nat) (cs : List Int32) (i : Nat) (ch : Int32) (gz : Int32) (gf : Value) (h0 : Heap) (n0 : Nat) (Z0 : n0 ≤ h0.size) (O : Old Z n0 h0) (hst : own_ST Z gz gf) (A_1 : Arv Z h0 a1 kb .byte (Int32.ofNat (N)) (own_c1 cs) (.int (0 : Int32))) (hp1 : p1 = Int32.ofNat i) (hq : cs[i]? = some ch) (hN1 : N ≤ 1000) (hc : ¬ ch < 0 ∧ ¬ (65535 : Int32) < ch) (hle : 2 * cs.length ≤ N) :
    MetFree l own_n27 (head1 (Jvm.Cond.code own_n27 jdk_52_method_83_code 2 (some .char) :: ws) own_r49) (fun a U => a = #[(.ref a1), (.int p1)] ∧ Z.Warmed39 U.vm ∧ U.heap = h0) (fun _ _ _ _ _ => True) (fun _ U o U' => ∃ v L, o = .returned v ∧ Q49 Z a1 p1 kb N cs i ch gz gf h0 n0 v U'.heap L ∧ FrameEnd U o U' L own_r49.cells own_r49.slots) := by
  refine MetFree.of_bodySF pn_49 hisR ?_
  intro p e s m args below meth c s₁ Bd hml0 hP hK
  obtain ⟨rfl, hZ, hh⟩ := hP
  have hx := Bd.exec
  have hby := Bd.bytes
  have hml : c.maxLocals = 2 := hml0
  have hown : s.vm.findClass "java/lang/StringUTF16" = some m.cls := findClass_of_methodNamed Bd.named
  have hnm := (name_of_methodNamed Bd.named Bd.method).1
  have X0 : Stand p l e own_r49 s m #[(.ref a1), (.int p1)] below meth c s₁ [] 0 0 := Stand.of_body Bd
  have e0 : s₁.heap = h0 := by rw [← hh, Bd.state]; rfl
  have N0 := Fr.nil n0
  refine own_at (castTop (ef_49 m a1 p1)) ?_
  have K0 := Keep.refl h0 []
  obtain ⟨S1, P5, S2, rf, S3, S4, S5⟩ := id hst
  have hil : i < cs.length := (List.getElem?_eq_some_iff.mp hq).1
  have sg2 : own_G p e below s₁ (mkF m 2 #[.val (.ref a1), .val (.int p1)] [(.ref a1), (.int p1)]) s₁ (mkF m 0 #[.val (.ref a1), .val (.int p1)] []) := by
    intro t k
    refine XS.iloadN X0.here hx rfl (hb hby d49_0) rfl ?_
    refine XS.aloadN X0.here hx rfl (hb hby d49_1) rfl rfl ?_
    exact k
  refine own_by sg2 ?_
  obtain ⟨_, _, ⟨T2, L2, k2, n2⟩, -, X2, ⟨Lc2, hQ2, l2, y2, z2⟩, st2⟩ := Jvm.LawKit.callS X0 hx (y := own_n10) hown (mvT hZ (own_w hw 247 rfl)) (mvT hZ (own_w hw 248 rfl)) (mvT hZ (own_w hw 18 rfl)) (mvT hZ (own_w hw 249 rfl)) (by decide) (backOf (W := 0) (rm50 l Z a0 hw [] p1 a1 kb N (own_c1 cs) i gz gf h0 n0 Z0 O hst A_1 hp1 (by omega) hN1) hZ (own_w hw 249 rfl) (own_w hw 18 rfl) (by decide) (by decide)) (g := (mkF m 2 #[.val (.ref a1), .val (.int p1)] [(.ref a1), (.int p1)])) rfl (by rw [hml]; rfl) (argsL := [(.int p1), (.ref a1)]) (rest := []) (lenOf pd_49_0 rfl) rfl (Nat.le_of_eq rfl) (hb hby d49_2) (fun _ _ => ⟨rfl, e0, (by decide : 0 + 0 ≤ _), (by decide : 0 + 0 ≤ _)⟩)
  dsimp only [Pt.U, Pt.locs, Pt.cells, Pt.slots] at X2 l2 y2 z2 st2 hQ2
  subst l2 y2 z2
  obtain ⟨rfl, N2q, hq2⟩ := hQ2
  have N2 := Fr.app N0 N2q
  refine own_by st2 ?_
  have sg7 : own_G p e below T2 (mkF m 7 #[.val (.ref a1), .val (.int p1)] [(.int p1), (.ref a1)]) T2 (mkF m 5 #[.val (.ref a1), .val (.int p1)] []) := by
    intro t k
    refine XS.aloadN X2.here hx rfl (hb hby d49_5) rfl rfl ?_
    refine XS.iloadN X2.here hx rfl (hb hby d49_6) rfl ?_
    exact k
  refine own_by sg7 ?_
  obtain ⟨_, _, ⟨T7, L7, k7, n7⟩, -, X7, ⟨Lc7, hQ7, l7, y7, z7⟩, st7⟩ := Jvm.LawKit.callS X2 hx (y := own_n24) hown (mvT hZ (own_w hw 241 rfl)) (mvT hZ (own_w hw 242 rfl)) (mvT hZ (own_w hw 18 rfl)) (mvT hZ (own_w hw 243 rfl)) (by decide) (backOf (W := 0) (rm48 l Z a0 hw [] a1 p1 kb N cs i ch gz gf h0 n0 Z0 O hst A_1 hp1 hq hN1 hc hle) hZ (own_w hw 243 rfl) (own_w hw 18 rfl) (by decide) (by decide)) (g := (mkF m 7 #[.val (.ref a1), .val (.int p1)] [(.int p1), (.ref a1)])) rfl (by rw [hml]; rfl) (argsL := [(.ref a1), (.int p1)]) (rest := []) (lenOf pd_49_1 rfl) rfl (Nat.le_of_eq rfl) (hb hby d49_7) (fun _ _ => ⟨rfl, hq2, (by decide : 0 + 0 ≤ _), (by decide : 0 + 0 ≤ _)⟩)
  dsimp only [Pt.U, Pt.locs, Pt.cells, Pt.slots] at X7 l7 y7 z7 st7 hQ7
  subst l7 y7 z7
  obtain ⟨rfl, N7q, hq7⟩ := hQ7
  have N7 := Fr.app N2 N7q
  refine own_by st7 ?_
  obtain ⟨fs, hr, hrun, hended, hW, hsame⟩ := X7.leave (v := some (.int ch)) (fun h => by rw [Bd.returns] at h; cases h)
  refine ⟨_, _, ?_, hrun, hended, _, _, rfl, ?_, ⟨_, rfl⟩, hW, hsame.mono (by decide) (by decide)⟩
  · exact retN X7 hx (t := .char) Bd.returns (by simp) (hb hby d49_10) (by rw [show nar .char ch = ch from own_nar16 hc]; exact hr)
  · show Q49 Z a1 p1 kb N cs i ch gz gf h0 n0 _ T7.heap _
    rw [hq7]
    exact ⟨rfl, N7, rfl⟩
abbrev own_b18 := jdk_42_method_154_code
theorem d18_0 : decode own_b18 0 = .ok (.getstatic 38, 3) := by decide +kernel
theorem d18_3 : decode own_b18 3 = .ok (.ifCond .eq 14, 3) := by decide +kernel
theorem d18_6 : decode own_b18 6 = .ok (.aload_n 0, 1) := by decide +kernel
theorem d18_7 : decode own_b18 7 = .ok (.getfield 15, 3) := by decide +kernel
theorem d18_10 : decode own_b18 10 = .ok (.ifCond .ne 7, 3) := by decide +kernel
theorem d18_13 : decode own_b18 13 = .ok (.iconst 1, 1) := by decide +kernel
theorem d18_14 : decode own_b18 14 = .ok (.goto 4, 3) := by decide +kernel
theorem d18_18 : decode own_b18 18 = .ok (.ireturn, 1) := by decide +kernel
theorem pn_180 : plainFor (⟨"java/lang/String", "isLatin1", "()Z"⟩ : MethodName) = true := by first | exact plainFor_of_name (by first | (simp [plainName, overriddenIn]; done) | decide +kernel) | decide +kernel | exact Jvm.Free.JP.mathPlain rfl (by decide +kernel)
theorem ef_180 (m : MethodId) (a1 : Addr) : entryFrame m #[(.ref a1)] 1 = mkF m 0 #[.val (.ref a1)] [] := by first | (simp [entryFrame, mkF, argsToLocals, Value.category]; done) | rfl
abbrev own_r180 : Room := { frames := 0, cells := 0, slots := 0, locals := 0 }
def Q180 (Z : State) (a1 : Addr) (gz : Int32) (gf : Value) (h0 : Heap) (n0 : Nat) (v : Option Value) (h : Heap) (L : List Loc) : Prop := v = some (.int (1 : Int32)) ∧ Fr n0 L ∧ h = h0
theorem rm180 (l : Launch) (Z : State) (a0 : Array Value) (hw : ∀ d ∈ tables_1, d.before a0 Z = true) (ws : List Jvm.Cond) (a1 : Addr) (gz : Int32) (gf : Value) (h0 : Heap) (n0 : Nat) (Z0 : n0 ≤ h0.size) (O : Old Z n0 h0) (hst : own_ST Z gz gf) (F_c : Fld Z h0 a1 "java/lang/String" "coder" "B" (.int (0 : Int32))) :
    MetFree l own_n25 (head1 (Jvm.Cond.code own_n25 jdk_42_method_154_code 1 (some .boolean) :: ws) own_r180) (fun a U => a = #[(.ref a1)] ∧ Z.Warmed39 U.vm ∧ U.heap = h0) (fun _ _ _ _ _ => True) (fun _ U o U' => ∃ v L, o = .returned v ∧ Q180 Z a1 gz gf h0 n0 v U'.heap L ∧ FrameEnd U o U' L own_r180.cells own_r180.slots) := by
  refine MetFree.of_bodySF pn_180 hisR ?_
  intro p e s m args below meth c s₁ Bd hml0 hP hK
  obtain ⟨rfl, hZ, hh⟩ := hP
  have hx := Bd.exec
  have hby := Bd.bytes
  have hml : c.maxLocals = 1 := hml0
  have hown : s.vm.findClass "java/lang/String" = some m.cls := findClass_of_methodNamed Bd.named
  have hnm := (name_of_methodNamed Bd.named Bd.method).1
  have X0 : Stand p l e own_r180 s m #[(.ref a1)] below meth c s₁ [] 0 0 := Stand.of_body Bd
  have e0 : s₁.heap = h0 := by rw [← hh, Bd.state]; rfl
  have N0 := Fr.nil n0
  refine own_at (castTop (ef_180 m a1)) ?_
  have K0 := Keep.refl h0 []
  obtain ⟨S1, P5, S2, rf, S3, S4, S5⟩ := id hst
  obtain ⟨T00, X00, e00, st00⟩ := getS2 X0 hx hZ hown (host := "") (Or.inl (own_w hw 15 rfl)) Via.refl e0 (S1.ext O.2) (g := (mkF m 0 #[.val (.ref a1)] [])) rfl (hb hby d18_0)
  refine own_by st00 ?_
  have sg7 : own_G p e below T00 (mkF m 7 #[.val (.ref a1)] [(.ref a1)]) T00 (mkF m 3 #[.val (.ref a1)] [(.int gz)]) := by
    intro t k
    refine XS.ifNo X00.here hx rfl (hb hby d18_3) rfl ((if0 _ _).trans (feq P5).1) ?_
    refine XS.aloadN X00.here hx rfl (hb hby d18_6) rfl rfl ?_
    exact k
  refine own_by sg7 ?_
  obtain ⟨T7, X7, e7, st7⟩ := getF X00 hx hZ hown (host := "") (Or.inl (own_w hw 27 rfl)) Via.refl e00 F_c (g := (mkF m 7 #[.val (.ref a1)] [(.ref a1)])) rfl rfl (hb hby d18_7)
  refine own_by st7 ?_
  have sg18 : own_G p e below T7 (mkF m 18 #[.val (.ref a1)] [(.int (1 : Int32))]) T7 (mkF m 10 #[.val (.ref a1)] [(.int (0 : Int32))]) := by
    intro t k
    refine XS.ifNo X7.here hx rfl (hb hby d18_10) rfl ((if0 _ _).trans (teq (by decide : (0 : Int32) = (0 : Int32))).2) ?_
    refine XS.iconst X7.here hx rfl (hb hby d18_13) ?_
    refine XS.goto X7.here hx rfl (pc0 := 14) (pc' := 18) rfl (hb hby d18_14) (by decide) (by decide) ?_
    exact k
  refine own_by sg18 ?_
  obtain ⟨fs, hr, hrun, hended, hW, hsame⟩ := X7.leave (v := some (.int (1 : Int32))) (fun h => by rw [Bd.returns] at h; cases h)
  refine ⟨_, _, ?_, hrun, hended, _, _, rfl, ?_, ⟨_, rfl⟩, hW, hsame.mono (by decide) (by decide)⟩
  · exact retN X7 hx (t := .boolean) Bd.returns (by simp) (hb hby d18_18) hr
  · show Q180 Z a1 gz gf h0 n0 _ T7.heap _
    rw [e7]
    exact ⟨rfl, N0, rfl⟩
theorem d18_17 : decode own_b18 17 = .ok (.iconst 0, 1) := by decide +kernel
theorem pn_181 : plainFor (⟨"java/lang/String", "isLatin1", "()Z"⟩ : MethodName) = true := by first | exact plainFor_of_name (by first | (simp [plainName, overriddenIn]; done) | decide +kernel) | decide +kernel | exact Jvm.Free.JP.mathPlain rfl (by decide +kernel)
theorem ef_181 (m : MethodId) (a1 : Addr) : entryFrame m #[(.ref a1)] 1 = mkF m 0 #[.val (.ref a1)] [] := by first | (simp [entryFrame, mkF, argsToLocals, Value.category]; done) | rfl
abbrev own_r181 : Room := { frames := 0, cells := 0, slots := 0, locals := 0 }
def Q181 (Z : State) (a1 : Addr) (gz : Int32) (gf : Value) (h0 : Heap) (n0 : Nat) (v : Option Value) (h : Heap) (L : List Loc) : Prop := v = some (.int (0 : Int32)) ∧ Fr n0 L ∧ h = h0
theorem rm181 (l : Launch) (Z : State) (a0 : Array Value) (hw : ∀ d ∈ tables_1, d.before a0 Z = true) (ws : List Jvm.Cond) (a1 : Addr) (gz : Int32) (gf : Value) (h0 : Heap) (n0 : Nat) (Z0 : n0 ≤ h0.size) (O : Old Z n0 h0) (hst : own_ST Z gz gf) (F_c : Fld Z h0 a1 "java/lang/String" "coder" "B" (.int (1 : Int32))) :
    MetFree l own_n25 (head1 (Jvm.Cond.code own_n25 jdk_42_method_154_code 1 (some .boolean) :: ws) own_r181) (fun a U => a = #[(.ref a1)] ∧ Z.Warmed39 U.vm ∧ U.heap = h0) (fun _ _ _ _ _ => True) (fun _ U o U' => ∃ v L, o = .returned v ∧ Q181 Z a1 gz gf h0 n0 v U'.heap L ∧ FrameEnd U o U' L own_r181.cells own_r181.slots) := by
  refine MetFree.of_bodySF pn_181 hisR ?_
  intro p e s m args below meth c s₁ Bd hml0 hP hK
  obtain ⟨rfl, hZ, hh⟩ := hP
  have hx := Bd.exec
  have hby := Bd.bytes
  have hml : c.maxLocals = 1 := hml0
  have hown : s.vm.findClass "java/lang/String" = some m.cls := findClass_of_methodNamed Bd.named
  have hnm := (name_of_methodNamed Bd.named Bd.method).1
  have X0 : Stand p l e own_r181 s m #[(.ref a1)] below meth c s₁ [] 0 0 := Stand.of_body Bd
  have e0 : s₁.heap = h0 := by rw [← hh, Bd.state]; rfl
  have N0 := Fr.nil n0
  refine own_at (castTop (ef_181 m a1)) ?_
  have K0 := Keep.refl h0 []
  obtain ⟨S1, P5, S2, rf, S3, S4, S5⟩ := id hst
  obtain ⟨T00, X00, e00, st00⟩ := getS2 X0 hx hZ hown (host := "") (Or.inl (own_w hw 15 rfl)) Via.refl e0 (S1.ext O.2) (g := (mkF m 0 #[.val (.ref a1)] [])) rfl (hb hby d18_0)
  refine own_by st00 ?_
  have sg7 : own_G p e below T00 (mkF m 7 #[.val (.ref a1)] [(.ref a1)]) T00 (mkF m 3 #[.val (.ref a1)] [(.int gz)]) := by
    intro t k
    refine XS.ifNo X00.here hx rfl (hb hby d18_3) rfl ((if0 _ _).trans (feq P5).1) ?_
    refine XS.aloadN X00.here hx rfl (hb hby d18_6) rfl rfl ?_
    exact k
  refine own_by sg7 ?_
  obtain ⟨T7, X7, e7, st7⟩ := getF X00 hx hZ hown (host := "") (Or.inl (own_w hw 27 rfl)) Via.refl e00 F_c (g := (mkF m 7 #[.val (.ref a1)] [(.ref a1)])) rfl rfl (hb hby d18_7)
  refine own_by st7 ?_
  have sg18 : own_G p e below T7 (mkF m 18 #[.val (.ref a1)] [(.int (0 : Int32))]) T7 (mkF m 10 #[.val (.ref a1)] [(.int (1 : Int32))]) := by
    intro t k
    refine XS.ifYes X7.here hx rfl (pc0 := 10) (pc' := 17) rfl (hb hby d18_10) rfl ((if0 _ _).trans (feq (by decide : ¬ ((1 : Int32) = (0 : Int32)))).2) (by decide) (by decide) ?_
    refine XS.iconst X7.here hx rfl (hb hby d18_17) ?_
    exact k
  refine own_by sg18 ?_
  obtain ⟨fs, hr, hrun, hended, hW, hsame⟩ := X7.leave (v := some (.int (0 : Int32))) (fun h => by rw [Bd.returns] at h; cases h)
  refine ⟨_, _, ?_, hrun, hended, _, _, rfl, ?_, ⟨_, rfl⟩, hW, hsame.mono (by decide) (by decide)⟩
  · exact retN X7 hx (t := .boolean) Bd.returns (by simp) (hb hby d18_18) hr
  · show Q181 Z a1 gz gf h0 n0 _ T7.heap _
    rw [e7]
    exact ⟨rfl, N0, rfl⟩
abbrev own_b17 := jdk_42_method_56_code
theorem d17_0 : decode own_b17 0 = .ok (.aload_n 0, 1) := by decide +kernel
theorem d17_1 : decode own_b17 1 = .ok (.invokevirtual 492, 3) := by decide +kernel
theorem d17_4 : decode own_b17 4 = .ok (.ifCond .eq 12, 3) := by decide +kernel
theorem d17_7 : decode own_b17 7 = .ok (.aload_n 0, 1) := by decide +kernel
theorem d17_8 : decode own_b17 8 = .ok (.getfield 9, 3) := by decide +kernel
theorem d17_11 : decode own_b17 11 = .ok (.iload_n 1, 1) := by decide +kernel
theorem d17_12 : decode own_b17 12 = .ok (.invokestatic 495, 3) := by decide +kernel
theorem d17_15 : decode own_b17 15 = .ok (.ireturn, 1) := by decide +kernel
theorem d17_16 : decode own_b17 16 = .ok (.aload_n 0, 1) := by decide +kernel
theorem d17_17 : decode own_b17 17 = .ok (.getfield 9, 3) := by decide +kernel
theorem d17_20 : decode own_b17 20 = .ok (.iload_n 1, 1) := by decide +kernel
theorem d17_21 : decode own_b17 21 = .ok (.invokestatic 498, 3) := by decide +kernel
theorem d17_24 : decode own_b17 24 = .ok (.ireturn, 1) := by decide +kernel
theorem pn_17 : plainFor (⟨"java/lang/String", "charAt", "(I)C"⟩ : MethodName) = true := by first | exact plainFor_of_name (by first | (simp [plainName, overriddenIn]; done) | decide +kernel) | decide +kernel | exact Jvm.Free.JP.mathPlain rfl (by decide +kernel)
theorem pd_17_0 : parseMethodDescriptor "()Z" = some ⟨[], some .boolean⟩ := by decide +kernel
theorem pd_17_1 : parseMethodDescriptor "([BI)C" = some ⟨[(.array .byte), .int], some .char⟩ := by decide +kernel
theorem ef_17 (m : MethodId) (a1 : Addr) (p1 : Int32) : entryFrame m #[(.ref a1), (.int p1)] 2 = mkF m 0 #[.val (.ref a1), .val (.int p1)] [] := by first | (simp [entryFrame, mkF, argsToLocals, Value.category]; done) | rfl
abbrev own_r17 : Room := { frames := 4, cells := 0, slots := 0, locals := 53 }
def Q17 (Z : State) (a1 : Addr) (p1 : Int32) (ta : Addr) (kb : ClassId) (N : Nat) (cd : Int32) (cs : List Int32) (i : Nat) (ch : Int32) (gz : Int32) (gf : Value) (h0 : Heap) (n0 : Nat) (v : Option Value) (h : Heap) (L : List Loc) : Prop := v = some (.int ch) ∧ Fr n0 L ∧ h = h0
theorem rm17 (l : Launch) (Z : State) (a0 : Array Value) (hw : ∀ d ∈ tables_1, d.before a0 Z = true) (ws : List Jvm.Cond) (a1 : Addr) (p1 : Int32) (ta : Addr) (kb : ClassId) (N : Nat) (cd : Int32) (cs : List Int32) (i : Nat) (ch : Int32) (gz : Int32) (gf : Value) (h0 : Heap) (n0 : Nat) (Z0 : n0 ≤ h0.size) (O : Old Z n0 h0) (hst : own_ST Z gz gf) (TT : own_T Z h0 a1 ta kb N cd cs) (hp1 : p1 = Int32.ofNat i) (hq : cs[i]? = some ch) :
    MetFree l own_n47 (head1 (Jvm.Cond.code own_n47 jdk_42_method_56_code 2 (some .char) :: ws) own_r17) (fun a U => a = #[(.ref a1), (.int p1)] ∧ Z.Warmed39 U.vm ∧ U.heap = h0) (fun _ _ _ _ _ => True) (fun _ U o U' => ∃ v L, o = .returned v ∧ Q17 Z a1 p1 ta kb N cd cs i ch gz gf h0 n0 v U'.heap L ∧ FrameEnd U o U' L own_r17.cells own_r17.slots) := by
  refine MetFree.of_bodySF pn_17 hisR ?_
  intro p e s m args below meth c s₁ Bd hml0 hP hK
  obtain ⟨rfl, hZ, hh⟩ := hP
  have hx := Bd.exec
  have hby := Bd.bytes
  have hml : c.maxLocals = 2 := hml0
  have hown : s.vm.findClass "java/lang/String" = some m.cls := findClass_of_methodNamed Bd.named
  have hnm := (name_of_methodNamed Bd.named Bd.method).1
  have X0 : Stand p l e own_r17 s m #[(.ref a1), (.int p1)] below meth c s₁ [] 0 0 := Stand.of_body Bd
  have e0 : s₁.heap = h0 := by rw [← hh, Bd.state]; rfl
  have N0 := Fr.nil n0
  refine own_at (castTop (ef_17 m a1 p1)) ?_
  have K0 := Keep.refl h0 []
  obtain ⟨S1, P5, S2, rf, S3, S4, S5⟩ := id hst
  obtain ⟨E_s, F_v, F_c, A_v, hcd, ⟨hs0, hs1⟩, hcs, hln⟩ := id TT
  have hc16 := hcs ch (List.mem_of_getElem? hq)
  rcases hcd with rfl | rfl
  · skip
    have hs_ := hs0 rfl
    rw [own_cod0] at A_v
    have sg1 : own_G p e below s₁ (mkF m 1 #[.val (.ref a1), .val (.int p1)] [(.ref a1)]) s₁ (mkF m 0 #[.val (.ref a1), .val (.int p1)] []) := by
      intro t k
      refine XS.aloadN X0.here hx rfl (hb hby d17_0) rfl rfl ?_
      exact k
    refine own_by sg1 ?_
    obtain ⟨cq1, kq1, q1a, q1b, q1c⟩ := isOf hZ e0 E_s
    obtain ⟨_, _, ⟨T1, L1, k1, n1⟩, -, X1, ⟨Lc1, hQ1, l1, y1, z1⟩, st1⟩ := X0.virtualBack hx (y := own_n25) (z := own_n25) hown (mvT hZ (own_w hw 94 rfl)) (mvT hZ (own_w hw 95 rfl)) (notFace_of_selects (args := #[]) (mvT hZ (own_w hw 97 rfl))) (mvT hZ (own_w hw 97 rfl)) (mvT hZ (own_w hw 96 rfl)) (by decide) (backOf (W := 0) (rm180 l Z a0 hw [] a1 gz gf h0 n0 Z0 O hst F_c) hZ (own_w hw 98 rfl) (own_w hw 4 rfl) (by decide) (by decide)) q1a q1c (g := (mkF m 1 #[.val (.ref a1), .val (.int p1)] [(.ref a1)])) rfl (by rw [hml]; rfl) (Steps.refl _) (argsL := []) (rest := []) (lenOf pd_17_0 rfl) rfl (Nat.le_of_eq rfl) (hb hby d17_1) (fun _ _ => ⟨rfl, e0, (by decide : 0 + 0 ≤ _), (by decide : 0 + 0 ≤ _)⟩)
    dsimp only [Pt.U, Pt.locs, Pt.cells, Pt.slots] at X1 l1 y1 z1 st1 hQ1
    subst l1 y1 z1
    obtain ⟨rfl, N1q, hq1⟩ := hQ1
    have N1 := Fr.app N0 N1q
    refine own_by (fun t k => st1.trans k) ?_
    have sg8 : own_G p e below T1 (mkF m 8 #[.val (.ref a1), .val (.int p1)] [(.ref a1)]) T1 (mkF m 4 #[.val (.ref a1), .val (.int p1)] [(.int (1 : Int32))]) := by
      intro t k
      refine XS.ifNo X1.here hx rfl (hb hby d17_4) rfl ((if0 _ _).trans (feq (by decide : ¬ ((1 : Int32) = (0 : Int32)))).1) ?_
      refine XS.aloadN X1.here hx rfl (hb hby d17_7) rfl rfl ?_
      exact k
    refine own_by sg8 ?_
    obtain ⟨T8, X8, e8, st8⟩ := getF X1 hx hZ hown (host := "") (Or.inl (own_w hw 29 rfl)) Via.refl hq1 F_v (g := (mkF m 8 #[.val (.ref a1), .val (.int p1)] [(.ref a1)])) rfl rfl (hb hby d17_8)
    refine own_by st8 ?_
    have sg12 : own_G p e below T8 (mkF m 12 #[.val (.ref a1), .val (.int p1)] [(.int p1), (.ref ta)]) T8 (mkF m 11 #[.val (.ref a1), .val (.int p1)] [(.ref ta)]) := by
      intro t k
      refine XS.iloadN X8.here hx rfl (hb hby d17_11) rfl ?_
      exact k
    refine own_by sg12 ?_
    obtain ⟨_, _, ⟨T12, L12, k12, n12⟩, -, X12, ⟨Lc12, hQ12, l12, y12, z12⟩, st12⟩ := Jvm.LawKit.callS X8 hx (y := own_n26) hown (mvT hZ (own_w hw 99 rfl)) (mvT hZ (own_w hw 100 rfl)) (mvT hZ (own_w hw 87 rfl)) (mvT hZ (own_w hw 101 rfl)) (by decide) (backOf (W := 0) (rm19 l Z a0 hw [] ta p1 kb N cs i ch gz gf h0 n0 Z0 O hst A_v hp1 hq (by omega) (hs_.2 ch (List.mem_of_getElem? hq)) (by omega)) hZ (own_w hw 101 rfl) (own_w hw 87 rfl) (by decide) (by decide)) (g := (mkF m 12 #[.val (.ref a1), .val (.int p1)] [(.int p1), (.ref ta)])) rfl (by rw [hml]; rfl) (argsL := [(.ref ta), (.int p1)]) (rest := []) (lenOf pd_17_1 rfl) rfl (Nat.le_of_eq rfl) (hb hby d17_12) (fun _ _ => ⟨rfl, e8, (by decide : 0 + 0 ≤ _), (by decide : 0 + 0 ≤ _)⟩)
    dsimp only [Pt.U, Pt.locs, Pt.cells, Pt.slots] at X12 l12 y12 z12 st12 hQ12
    subst l12 y12 z12
    obtain ⟨rfl, N12q, hq12⟩ := hQ12
    have N12 := Fr.app N1 N12q
    refine own_by st12 ?_
    obtain ⟨fs, hr, hrun, hended, hW, hsame⟩ := X12.leave (v := some (.int ch)) (fun h => by rw [Bd.returns] at h; cases h)
    refine ⟨_, _, ?_, hrun, hended, _, _, rfl, ?_, ⟨_, rfl⟩, hW, hsame.mono (by decide) (by decide)⟩
    · exact retN X12 hx (t := .char) Bd.returns (by simp) (hb hby d17_15) (by rw [show nar .char ch = ch from own_nar16 hc16]; exact hr)
    · show Q17 Z a1 p1 ta kb N (0 : Int32) cs i ch gz gf h0 n0 _ T12.heap _
      rw [hq12]
      exact ⟨rfl, N12, rfl⟩
  · skip
    have hs_ := hs1 rfl
    rw [own_cod1] at A_v
    have sg1 : own_G p e below s₁ (mkF m 1 #[.val (.ref a1), .val (.int p1)] [(.ref a1)]) s₁ (mkF m 0 #[.val (.ref a1), .val (.int p1)] []) := by
      intro t k
      refine XS.aloadN X0.here hx rfl (hb hby d17_0) rfl rfl ?_
      exact k
    refine own_by sg1 ?_
    obtain ⟨cq1, kq1, q1a, q1b, q1c⟩ := isOf hZ e0 E_s
    obtain ⟨_, _, ⟨T1, L1, k1, n1⟩, -, X1, ⟨Lc1, hQ1, l1, y1, z1⟩, st1⟩ := X0.virtualBack hx (y := own_n25) (z := own_n25) hown (mvT hZ (own_w hw 94 rfl)) (mvT hZ (own_w hw 95 rfl)) (notFace_of_selects (args := #[]) (mvT hZ (own_w hw 97 rfl))) (mvT hZ (own_w hw 97 rfl)) (mvT hZ (own_w hw 96 rfl)) (by decide) (backOf (W := 0) (rm181 l Z a0 hw [] a1 gz gf h0 n0 Z0 O hst F_c) hZ (own_w hw 98 rfl) (own_w hw 4 rfl) (by decide) (by decide)) q1a q1c (g := (mkF m 1 #[.val (.ref a1), .val (.int p1)] [(.ref a1)])) rfl (by rw [hml]; rfl) (Steps.refl _) (argsL := []) (rest := []) (lenOf pd_17_0 rfl) rfl (Nat.le_of_eq rfl) (hb hby d17_1) (fun _ _ => ⟨rfl, e0, (by decide : 0 + 0 ≤ _), (by decide : 0 + 0 ≤ _)⟩)
    dsimp only [Pt.U, Pt.locs, Pt.cells, Pt.slots] at X1 l1 y1 z1 st1 hQ1
    subst l1 y1 z1
    obtain ⟨rfl, N1q, hq1⟩ := hQ1
    have N1 := Fr.app N0 N1q
    refine own_by (fun t k => st1.trans k) ?_
    have sg17 : own_G p e below T1 (mkF m 17 #[.val (.ref a1), .val (.int p1)] [(.ref a1)]) T1 (mkF m 4 #[.val (.ref a1), .val (.int p1)] [(.int (0 : Int32))]) := by
      intro t k
      refine XS.ifYes X1.here hx rfl (pc0 := 4) (pc' := 16) rfl (hb hby d17_4) rfl ((if0 _ _).trans (teq (by decide : (0 : Int32) = (0 : Int32))).1) (by decide) (by decide) ?_
      refine XS.aloadN X1.here hx rfl (hb hby d17_16) rfl rfl ?_
      exact k
    refine own_by sg17 ?_
    obtain ⟨T17, X17, e17, st17⟩ := getF X1 hx hZ hown (host := "") (Or.inl (own_w hw 29 rfl)) Via.refl hq1 F_v (g := (mkF m 17 #[.val (.ref a1), .val (.int p1)] [(.ref a1)])) rfl rfl (hb hby d17_17)
    refine own_by st17 ?_
    have sg21 : own_G p e below T17 (mkF m 21 #[.val (.ref a1), .val (.int p1)] [(.int p1), (.ref ta)]) T17 (mkF m 20 #[.val (.ref a1), .val (.int p1)] [(.ref ta)]) := by
      intro t k
      refine XS.iloadN X17.here hx rfl (hb hby d17_20) rfl ?_
      exact k
    refine own_by sg21 ?_
    obtain ⟨_, _, ⟨T21, L21, k21, n21⟩, -, X21, ⟨Lc21, hQ21, l21, y21, z21⟩, st21⟩ := Jvm.LawKit.callS X17 hx (y := own_n27) hown (mvT hZ (own_w hw 244 rfl)) (mvT hZ (own_w hw 245 rfl)) (mvT hZ (own_w hw 18 rfl)) (mvT hZ (own_w hw 246 rfl)) (by decide) (backOf (W := 0) (rm49 l Z a0 hw [] ta p1 kb N cs i ch gz gf h0 n0 Z0 O hst A_v hp1 hq (by omega) hc16 (by omega)) hZ (own_w hw 246 rfl) (own_w hw 18 rfl) (by decide) (by decide)) (g := (mkF m 21 #[.val (.ref a1), .val (.int p1)] [(.int p1), (.ref ta)])) rfl (by rw [hml]; rfl) (argsL := [(.ref ta), (.int p1)]) (rest := []) (lenOf pd_17_1 rfl) rfl (Nat.le_of_eq rfl) (hb hby d17_21) (fun _ _ => ⟨rfl, e17, (by decide : 0 + 0 ≤ _), (by decide : 0 + 0 ≤ _)⟩)
    dsimp only [Pt.U, Pt.locs, Pt.cells, Pt.slots] at X21 l21 y21 z21 st21 hQ21
    subst l21 y21 z21
    obtain ⟨rfl, N21q, hq21⟩ := hQ21
    have N21 := Fr.app N1 N21q
    refine own_by st21 ?_
    obtain ⟨fs, hr, hrun, hended, hW, hsame⟩ := X21.leave (v := some (.int ch)) (fun h => by rw [Bd.returns] at h; cases h)
    refine ⟨_, _, ?_, hrun, hended, _, _, rfl, ?_, ⟨_, rfl⟩, hW, hsame.mono (by decide) (by decide)⟩
    · exact retN X21 hx (t := .char) Bd.returns (by simp) (hb hby d17_24) (by rw [show nar .char ch = ch from own_nar16 hc16]; exact hr)
    · show Q17 Z a1 p1 ta kb N (1 : Int32) cs i ch gz gf h0 n0 _ T21.heap _
      rw [hq21]
      exact ⟨rfl, N21, rfl⟩
abbrev own_b31 := jdk_42_method_147_code
theorem d31_0 : decode own_b31 0 = .ok (.aload_n 0, 1) := by decide +kernel
theorem d31_1 : decode own_b31 1 = .ok (.invokevirtual 335, 3) := by decide +kernel
theorem d31_4 : decode own_b31 4 = .ok (.iload_n 3, 1) := by decide +kernel
theorem d31_5 : decode own_b31 5 = .ok (.if_icmp .ne 23, 3) := by decide +kernel
theorem d31_8 : decode own_b31 8 = .ok (.aload_n 0, 1) := by decide +kernel
theorem d31_9 : decode own_b31 9 = .ok (.getfield 9, 3) := by decide +kernel
theorem d31_12 : decode own_b31 12 = .ok (.iconst 0, 1) := by decide +kernel
theorem d31_13 : decode own_b31 13 = .ok (.aload_n 1, 1) := by decide +kernel
theorem d31_14 : decode own_b31 14 = .ok (.iload_n 2, 1) := by decide +kernel
theorem d31_15 : decode own_b31 15 = .ok (.iload_n 3, 1) := by decide +kernel
theorem d31_16 : decode own_b31 16 = .ok (.ishl, 1) := by decide +kernel
theorem d31_17 : decode own_b31 17 = .ok (.aload_n 0, 1) := by decide +kernel
theorem d31_18 : decode own_b31 18 = .ok (.getfield 9, 3) := by decide +kernel
theorem d31_21 : decode own_b31 21 = .ok (.arraylength, 1) := by decide +kernel
theorem d31_22 : decode own_b31 22 = .ok (.invokestatic 212, 3) := by decide +kernel
theorem d31_25 : decode own_b31 25 = .ok (.goto 18, 3) := by decide +kernel
theorem d31_28 : decode own_b31 28 = .ok (.aload_n 0, 1) := by decide +kernel
theorem d31_29 : decode own_b31 29 = .ok (.getfield 9, 3) := by decide +kernel
theorem d31_32 : decode own_b31 32 = .ok (.iconst 0, 1) := by decide +kernel
theorem d31_33 : decode own_b31 33 = .ok (.aload_n 1, 1) := by decide +kernel
theorem d31_34 : decode own_b31 34 = .ok (.iload_n 2, 1) := by decide +kernel
theorem d31_35 : decode own_b31 35 = .ok (.aload_n 0, 1) := by decide +kernel
theorem d31_36 : decode own_b31 36 = .ok (.getfield 9, 3) := by decide +kernel
theorem d31_39 : decode own_b31 39 = .ok (.arraylength, 1) := by decide +kernel
theorem d31_40 : decode own_b31 40 = .ok (.invokestatic 106, 3) := by decide +kernel
theorem d31_43 : decode own_b31 43 = .ok (.return_, 1) := by decide +kernel
theorem pn_31 : plainFor (⟨"java/lang/String", "getBytes", "([BIB)V"⟩ : MethodName) = true := by first | exact plainFor_of_name (by first | (simp [plainName, overriddenIn]; done) | decide +kernel) | decide +kernel | exact Jvm.Free.JP.mathPlain rfl (by decide +kernel)
theorem pd_31_0 : parseMethodDescriptor "()B" = some ⟨[], some .byte⟩ := by decide +kernel
theorem pd_31_1 : parseMethodDescriptor "([BI[BII)V" = some ⟨[(.array .byte), .int, (.array .byte), .int, .int], none⟩ := by decide +kernel
theorem ef_31 (m : MethodId) (a1 : Addr) (a3 : Addr) (p2 : Int32) : entryFrame m #[(.ref a1), (.ref a3), (.int p2), (.int cd)] 4 = mkF m 0 #[.val (.ref a1), .val (.ref a3), .val (.int p2), .val (.int cd)] [] := by first | (simp [entryFrame, mkF, argsToLocals, Value.category]; done) | rfl
abbrev own_r31 : Room := { frames := 5, cells := 0, slots := 0, locals := 76 }
def Q31 (Z : State) (a1 : Addr) (a3 : Addr) (p2 : Int32) (cd : Int32) (ta : Addr) (kb : ClassId) (kd : ClassId) (Nd : Nat) (cs : List Int32) (gz : Int32) (gf : Value) (h0 : Heap) (n0 : Nat) (v : Option Value) (h : Heap) (L : List Loc) : Prop := v = none ∧ Fr n0 L ∧ Keep h0 h [a3] ∧ Arv Z h a3 kd .byte (Int32.ofNat (Nd)) (own_cod cd (cs ++ ([92, 117, 48, 48] : List Int32))) (.int (0 : Int32))
theorem rm31 (l : Launch) (Z : State) (a0 : Array Value) (hw : ∀ d ∈ tables_1, d.before a0 Z = true) (ws : List Jvm.Cond) (a1 : Addr) (a3 : Addr) (p2 : Int32) (cd : Int32) (ta : Addr) (kb : ClassId) (kd : ClassId) (Nd : Nat) (cs : List Int32) (gz : Int32) (gf : Value) (h0 : Heap) (n0 : Nat) (Z0 : n0 ≤ h0.size) (O : Old Z n0 h0) (hst : own_ST Z gz gf) (E_s : Exa Z h0 a1 "java/lang/String") (F_v : Fld Z h0 a1 "java/lang/String" "value" "[B" (.ref ta)) (F_c : Fld Z h0 a1 "java/lang/String" "coder" "B" (.int (0 : Int32))) (A_t : Arv Z h0 ta kb .byte (Int32.ofNat (4)) (own_c0 ([92, 117, 48, 48] : List Int32)) (.int (0 : Int32))) (A_d : Arv Z h0 a3 kd .byte (Int32.ofNat (Nd)) (own_cod cd cs) (.int (0 : Int32))) (hp2 : p2 = Int32.ofNat cs.length) (hcd : cd = (0 : Int32) ∨ cd = (1 : Int32)) (hfit : (cd = (0 : Int32) → cs.length + 4 ≤ Nd ∧ Nd ≤ 42) ∧ (cd = (1 : Int32) → 2 * (cs.length + 4) ≤ Nd ∧ Nd ≤ 86)) (n_t3 : ta ≠ a3) (n_13 : a1 ≠ a3) (g_a3 : n0 ≤ a3) :
    MetFree l own_n29 (head1 (Jvm.Cond.code own_n29 jdk_42_method_147_code 4 none :: ws) own_r31) (fun a U => a = #[(.ref a1), (.ref a3), (.int p2), (.int cd)] ∧ Z.Warmed39 U.vm ∧ U.heap = h0) (fun _ _ _ _ _ => True) (fun _ U o U' => ∃ v L, o = .returned v ∧ Q31 Z a1 a3 p2 cd ta kb kd Nd cs gz gf h0 n0 v U'.heap L ∧ FrameEnd U o U' L own_r31.cells own_r31.slots) := by
  refine MetFree.of_bodySF pn_31 hisR ?_
  intro p e s m args below meth c s₁ Bd hml0 hP hK
  obtain ⟨rfl, hZ, hh⟩ := hP
  have hx := Bd.exec
  have hby := Bd.bytes
  have hml : c.maxLocals = 4 := hml0
  have hown : s.vm.findClass "java/lang/String" = some m.cls := findClass_of_methodNamed Bd.named
  have hnm := (name_of_methodNamed Bd.named Bd.method).1
  have X0 : Stand p l e own_r31 s m #[(.ref a1), (.ref a3), (.int p2), (.int cd)] below meth c s₁ [] 0 0 := Stand.of_body Bd
  have e0 : s₁.heap = h0 := by rw [← hh, Bd.state]; rfl
  have N0 := Fr.nil n0
  refine own_at (castTop (ef_31 m a1 a3 p2)) ?_
  have K0 := Keep.refl h0 [a3]
  obtain ⟨S1, P5, S2, rf, S3, S4, S5⟩ := id hst
  rcases hcd with rfl | rfl
  · skip
    have hf_ := hfit.1 rfl
    rw [own_cod0] at A_d
    have sg1 : own_G p e below s₁ (mkF m 1 #[.val (.ref a1), .val (.ref a3), .val (.int p2), .val (.int (0 : Int32))] [(.ref a1)]) s₁ (mkF m 0 #[.val (.ref a1), .val (.ref a3), .val (.int p2), .val (.int (0 : Int32))] []) := by
      intro t k
      refine XS.aloadN X0.here hx rfl (hb hby d31_0) rfl rfl ?_
      exact k
    refine own_by sg1 ?_
    obtain ⟨cq1, kq1, q1a, q1b, q1c⟩ := isOf hZ e0 E_s
    obtain ⟨_, _, ⟨T1, L1, k1, n1⟩, -, X1, ⟨Lc1, hQ1, l1, y1, z1⟩, st1⟩ := X0.virtualBack hx (y := own_n23) (z := own_n23) hown (mvT hZ (own_w hw 43 rfl)) (mvT hZ (own_w hw 44 rfl)) (notFace_of_selects (args := #[]) (mvT hZ (own_w hw 46 rfl))) (mvT hZ (own_w hw 46 rfl)) (mvT hZ (own_w hw 45 rfl)) (by decide) (backOf (W := 0) (rm90 l Z a0 hw [] a1 gz gf h0 n0 Z0 O hst F_c) hZ (own_w hw 47 rfl) (own_w hw 4 rfl) (by decide) (by decide)) q1a q1c (g := (mkF m 1 #[.val (.ref a1), .val (.ref a3), .val (.int p2), .val (.int (0 : Int32))] [(.ref a1)])) rfl (by rw [hml]; rfl) (Steps.refl _) (argsL := []) (rest := []) (lenOf pd_31_0 rfl) rfl (Nat.le_of_eq rfl) (hb hby d31_1) (fun _ _ => ⟨rfl, e0, (by decide : 0 + 0 ≤ _), (by decide : 0 + 0 ≤ _)⟩)
    dsimp only [Pt.U, Pt.locs, Pt.cells, Pt.slots] at X1 l1 y1 z1 st1 hQ1
    subst l1 y1 z1
    obtain ⟨rfl, N1q, hq1⟩ := hQ1
    have N1 := Fr.app N0 N1q
    refine own_by (fun t k => st1.trans k) ?_
    have sg9 : own_G p e below T1 (mkF m 9 #[.val (.ref a1), .val (.ref a3), .val (.int p2), .val (.int (0 : Int32))] [(.ref a1)]) T1 (mkF m 4 #[.val (.ref a1), .val (.ref a3), .val (.int p2), .val (.int (0 : Int32))] [(.int (0 : Int32))]) := by
      intro t k
      refine XS.iloadN X1.here hx rfl (hb hby d31_4) rfl ?_
      refine XS.icmpNo X1.here hx rfl (hb hby d31_5) rfl (teq (by decide : (0 : Int32) = (0 : Int32))).2 ?_
      refine XS.aloadN X1.here hx rfl (hb hby d31_8) rfl rfl ?_
      exact k
    refine own_by sg9 ?_
    obtain ⟨T9, X9, e9, st9⟩ := getF X1 hx hZ hown (host := "") (Or.inl (own_w hw 29 rfl)) Via.refl hq1 F_v (g := (mkF m 9 #[.val (.ref a1), .val (.ref a3), .val (.int p2), .val (.int (0 : Int32))] [(.ref a1)])) rfl rfl (hb hby d31_9)
    refine own_by st9 ?_
    obtain ⟨t16, ht16⟩ : ∃ z : Int32, z = (p2 <<< ((0 : Int32) &&& 31)) := ⟨_, rfl⟩
    have sg17 : own_G p e below T9 (mkF m 17 #[.val (.ref a1), .val (.ref a3), .val (.int p2), .val (.int (0 : Int32))] [(.int t16), (.ref a3), (.int (0 : Int32)), (.ref ta)]) T9 (mkF m 12 #[.val (.ref a1), .val (.ref a3), .val (.int p2), .val (.int (0 : Int32))] [(.ref ta)]) := by
      intro t k
      rw [ht16] at k
      refine XS.iconst X9.here hx rfl (hb hby d31_12) ?_
      refine XS.aloadN X9.here hx rfl (hb hby d31_13) rfl rfl ?_
      refine XS.iloadN X9.here hx rfl (hb hby d31_14) rfl ?_
      refine XS.iloadN X9.here hx rfl (hb hby d31_15) rfl ?_
      refine XS.ishl X9.here hx rfl (hb hby d31_16) rfl ?_
      exact k
    refine own_by sg17 ?_
    have nt_t16 : t16 = Int32.ofNat (cs.length) := ht16.trans ((own_nshl0 _).trans hp2)
    have sg18 : own_G p e below T9 (mkF m 18 #[.val (.ref a1), .val (.ref a3), .val (.int p2), .val (.int (0 : Int32))] [(.ref a1), (.int t16), (.ref a3), (.int (0 : Int32)), (.ref ta)]) T9 (mkF m 17 #[.val (.ref a1), .val (.ref a3), .val (.int p2), .val (.int (0 : Int32))] [(.int t16), (.ref a3), (.int (0 : Int32)), (.ref ta)]) := by
      intro t k
      refine XS.aloadN X9.here hx rfl (hb hby d31_17) rfl rfl ?_
      exact k
    refine own_by sg18 ?_
    obtain ⟨T18, X18, e18, st18⟩ := getF X9 hx hZ hown (host := "") (Or.inl (own_w hw 29 rfl)) Via.refl e9 F_v (g := (mkF m 18 #[.val (.ref a1), .val (.ref a3), .val (.int p2), .val (.int (0 : Int32))] [(.ref a1), (.int t16), (.ref a3), (.int (0 : Int32)), (.ref ta)])) rfl rfl (hb hby d31_18)
    refine own_by st18 ?_
    obtain ⟨cl21, Ar21, qa21, Sa21, Na21, Ha21, Ga21⟩ := id A_t
    obtain ⟨t21, ht21⟩ : ∃ z : Int32, z = (Int32.ofNat (4)) := ⟨_, rfl⟩
    have sg22 : own_G p e below T18 (mkF m 22 #[.val (.ref a1), .val (.ref a3), .val (.int p2), .val (.int (0 : Int32))] [(.int t21), (.int t16), (.ref a3), (.int (0 : Int32)), (.ref ta)]) T18 (mkF m 21 #[.val (.ref a1), .val (.ref a3), .val (.int p2), .val (.int (0 : Int32))] [(.ref ta), (.int t16), (.ref a3), (.int (0 : Int32)), (.ref ta)]) := by
      intro t k
      rw [ht21] at k
      refine X18.arraylength hx (by rw [e18]; exact Ar21.1) (State.isArrayOf_alike hZ.alike Ar21.2.1) (g := (mkF m 21 #[.val (.ref a1), .val (.ref a3), .val (.int p2), .val (.int (0 : Int32))] [(.ref ta), (.int t16), (.ref a3), (.int (0 : Int32)), (.ref ta)])) rfl rfl (hb hby d31_21) _ ?_
      rw [len_of Sa21 Na21]
      exact k
    refine own_by sg22 ?_
    have nt_t21 : t21 = Int32.ofNat (4) := ht21
    have Bp22 : Arv Z h0 a3 kd .byte (Int32.ofNat (Nd)) (own_c0 cs ++ List.replicate 4 (.int (0 : Int32))) (.int (0 : Int32)) := (A_d).pad (own_padr (own_c0 cs) _ 4)
    obtain ⟨T22, h22, Lq22, X22, e22, N22, Kq22, Aq22, st22⟩ := cpA X18 hx hZ hown (own_w hw 165 rfl) (own_w hw 148 rfl) (own_w hw 146 rfl) (own_w hw 147 rfl) e18 A_t Bp22 (us := (own_c0 ([92, 117, 48, 48] : List Int32))) (Or.inl ⟨rfl, rfl⟩) (own_nge (m := 0) (rfl : (0 : Int32) = Int32.ofNat (0)) (by decide)) (own_nge (nt_t16) (by omega)) (own_nge (nt_t21) (by omega)) (by rw [own_ntc (m := 0) (rfl : (0 : Int32) = Int32.ofNat (0)) (by decide), own_ntc (nt_t21) (by omega), own_ntc (m := 4) (rfl : Int32.ofNat (4) = Int32.ofNat (4)) (by decide)]; omega) (by rw [own_ntc (nt_t16) (by omega), own_ntc (nt_t21) (by omega), own_ntc (m := (Nd)) (rfl : Int32.ofNat (Nd) = Int32.ofNat (Nd)) (by omega)]; omega) (by rw [own_ntc (nt_t21) (by omega), own_ntc (m := 0) (rfl : (0 : Int32) = Int32.ofNat (0)) (by decide)]; rfl) (by rw [own_ntc (nt_t16) (by omega), own_ntc (nt_t21) (by omega)]; simp [own_c0_len]) N1 g_a3 (g := (mkF m 22 #[.val (.ref a1), .val (.ref a3), .val (.int p2), .val (.int (0 : Int32))] [(.int t21), (.int t16), (.ref a3), (.int (0 : Int32)), (.ref ta)])) rfl (by rw [hml]; rfl) (rest := []) rfl (hb hby d31_22) (by decide) (W := 0) (by show 2 * 0 + _ ≤ _; exact Nat.le_of_eq rfl) (by decide)
    rw [own_ntc (nt_t16) (by omega), own_ntc (nt_t21) (by omega)] at Aq22
    have K22 : Keep h0 h22 [a3] := K0.trans Kq22 (fun x hx => by cases List.mem_singleton.mp hx; exact (Or.inl (List.mem_of_getElem? (i := 0) rfl)))
    have Z22 : n0 ≤ h22.size := Nat.le_trans Z0 Kq22.1
    have V22 : Arv Z h22 a3 kd .byte (Int32.ofNat (Nd)) (own_c0 (cs ++ ([92, 117, 48, 48] : List Int32))) (.int (0 : Int32)) := by have q := Aq22; rw [own_cpe4 cs ([92, 117, 48, 48] : List Int32) _ 4 rfl] at q; exact q
    refine own_by st22 ?_
    have sg43 : own_G p e below T22 (mkF m 43 #[.val (.ref a1), .val (.ref a3), .val (.int p2), .val (.int (0 : Int32))] []) T22 (mkF m 25 #[.val (.ref a1), .val (.ref a3), .val (.int p2), .val (.int (0 : Int32))] []) := by
      intro t k
      refine XS.goto X22.here hx rfl (pc0 := 25) (pc' := 43) rfl (hb hby d31_25) (by decide) (by decide) ?_
      exact k
    refine own_by sg43 ?_
    obtain ⟨fs, hr, hrun, hended, hW, hsame⟩ := X22.leave (v := none) (fun _ => rfl)
    refine ⟨_, _, ?_, hrun, hended, _, _, rfl, ?_, ⟨_, rfl⟩, hW, hsame.mono (by decide) (by decide)⟩
    · exact X22.returnOut hx Bd.returns (hb hby d31_43) hr
    · show Q31 Z a1 a3 p2 (0 : Int32) ta kb kd Nd cs gz gf h0 n0 _ T22.heap _
      rw [e22]
      exact ⟨rfl, N22, K22, (by rw [own_cod0]; exact V22)⟩
  · skip
    have hf_ := hfit.2 rfl
    rw [own_cod1] at A_d
    have sg1 : own_G p e below s₁ (mkF m 1 #[.val (.ref a1), .val (.ref a3), .val (.int p2), .val (.int (1 : Int32))] [(.ref a1)]) s₁ (mkF m 0 #[.val (.ref a1), .val (.ref a3), .val (.int p2), .val (.int (1 : Int32))] []) := by
      intro t k
      refine XS.aloadN X0.here hx rfl (hb hby d31_0) rfl rfl ?_
      exact k
    refine own_by sg1 ?_
    obtain ⟨cq1, kq1, q1a, q1b, q1c⟩ := isOf hZ e0 E_s
    obtain ⟨_, _, ⟨T1, L1, k1, n1⟩, -, X1, ⟨Lc1, hQ1, l1, y1, z1⟩, st1⟩ := X0.virtualBack hx (y := own_n23) (z := own_n23) hown (mvT hZ (own_w hw 43 rfl)) (mvT hZ (own_w hw 44 rfl)) (notFace_of_selects (args := #[]) (mvT hZ (own_w hw 46 rfl))) (mvT hZ (own_w hw 46 rfl)) (mvT hZ (own_w hw 45 rfl)) (by decide) (backOf (W := 0) (rm90 l Z a0 hw [] a1 gz gf h0 n0 Z0 O hst F_c) hZ (own_w hw 47 rfl) (own_w hw 4 rfl) (by decide) (by decide)) q1a q1c (g := (mkF m 1 #[.val (.ref a1), .val (.ref a3), .val (.int p2), .val (.int (1 : Int32))] [(.ref a1)])) rfl (by rw [hml]; rfl) (Steps.refl _) (argsL := []) (rest := []) (lenOf pd_31_0 rfl) rfl (Nat.le_of_eq rfl) (hb hby d31_1) (fun _ _ => ⟨rfl, e0, (by decide : 0 + 0 ≤ _), (by decide : 0 + 0 ≤ _)⟩)
    dsimp only [Pt.U, Pt.locs, Pt.cells, Pt.slots] at X1 l1 y1 z1 st1 hQ1
    subst l1 y1 z1
    obtain ⟨rfl, N1q, hq1⟩ := hQ1
    have N1 := Fr.app N0 N1q
    refine own_by (fun t k => st1.trans k) ?_
    have sg29 : own_G p e below T1 (mkF m 29 #[.val (.ref a1), .val (.ref a3), .val (.int p2), .val (.int (1 : Int32))] [(.ref a1)]) T1 (mkF m 4 #[.val (.ref a1), .val (.ref a3), .val (.int p2), .val (.int (1 : Int32))] [(.int (0 : Int32))]) := by
      intro t k
      refine XS.iloadN X1.here hx rfl (hb hby d31_4) rfl ?_
      refine XS.icmpYes X1.here hx rfl (pc0 := 5) (pc' := 28) rfl (hb hby d31_5) rfl (feq (by decide : ¬ ((0 : Int32) = (1 : Int32)))).2 (by decide) (by decide) ?_
      refine XS.aloadN X1.here hx rfl (hb hby d31_28) rfl rfl ?_
      exact k
    refine own_by sg29 ?_
    obtain ⟨T29, X29, e29, st29⟩ := getF X1 hx hZ hown (host := "") (Or.inl (own_w hw 29 rfl)) Via.refl hq1 F_v (g := (mkF m 29 #[.val (.ref a1), .val (.ref a3), .val (.int p2), .val (.int (1 : Int32))] [(.ref a1)])) rfl rfl (hb hby d31_29)
    refine own_by st29 ?_
    have sg36 : own_G p e below T29 (mkF m 36 #[.val (.ref a1), .val (.ref a3), .val (.int p2), .val (.int (1 : Int32))] [(.ref a1), (.int p2), (.ref a3), (.int (0 : Int32)), (.ref ta)]) T29 (mkF m 32 #[.val (.ref a1), .val (.ref a3), .val (.int p2), .val (.int (1 : Int32))] [(.ref ta)]) := by
      intro t k
      refine XS.iconst X29.here hx rfl (hb hby d31_32) ?_
      refine XS.aloadN X29.here hx rfl (hb hby d31_33) rfl rfl ?_
      refine XS.iloadN X29.here hx rfl (hb hby d31_34) rfl ?_
      refine XS.aloadN X29.here hx rfl (hb hby d31_35) rfl rfl ?_
      exact k
    refine own_by sg36 ?_
    obtain ⟨T36, X36, e36, st36⟩ := getF X29 hx hZ hown (host := "") (Or.inl (own_w hw 29 rfl)) Via.refl e29 F_v (g := (mkF m 36 #[.val (.ref a1), .val (.ref a3), .val (.int p2), .val (.int (1 : Int32))] [(.ref a1), (.int p2), (.ref a3), (.int (0 : Int32)), (.ref ta)])) rfl rfl (hb hby d31_36)
    refine own_by st36 ?_
    obtain ⟨cl39, Ar39, qa39, Sa39, Na39, Ha39, Ga39⟩ := id A_t
    obtain ⟨t39, ht39⟩ : ∃ z : Int32, z = (Int32.ofNat (4)) := ⟨_, rfl⟩
    have sg40 : own_G p e below T36 (mkF m 40 #[.val (.ref a1), .val (.ref a3), .val (.int p2), .val (.int (1 : Int32))] [(.int t39), (.int p2), (.ref a3), (.int (0 : Int32)), (.ref ta)]) T36 (mkF m 39 #[.val (.ref a1), .val (.ref a3), .val (.int p2), .val (.int (1 : Int32))] [(.ref ta), (.int p2), (.ref a3), (.int (0 : Int32)), (.ref ta)]) := by
      intro t k
      rw [ht39] at k
      refine X36.arraylength hx (by rw [e36]; exact Ar39.1) (State.isArrayOf_alike hZ.alike Ar39.2.1) (g := (mkF m 39 #[.val (.ref a1), .val (.ref a3), .val (.int p2), .val (.int (1 : Int32))] [(.ref ta), (.int p2), (.ref a3), (.int (0 : Int32)), (.ref ta)])) rfl rfl (hb hby d31_39) _ ?_
      rw [len_of Sa39 Na39]
      exact k
    refine own_by sg40 ?_
    have nt_t39 : t39 = Int32.ofNat (4) := ht39
    obtain ⟨_, _, ⟨T40, L40, k40, n40⟩, -, X40, ⟨Lc40, hQ40, l40, y40, z40⟩, st40⟩ := Jvm.LawKit.callS X36 hx (y := own_n18) hown (mvT hZ (own_w hw 280 rfl)) (mvT hZ (own_w hw 261 rfl)) (mvT hZ (own_w hw 87 rfl)) (mvT hZ (own_w hw 262 rfl)) (by decide) (backOf (W := 0) (rm53 l Z a0 hw [] ta a3 p2 t39 kb 4 ([92, 117, 48, 48] : List Int32) kd Nd cs gz gf h0 n0 Z0 O hst A_t A_d hp2 (by rw [nt_t39]; rfl) (by decide) (by decide) (by simp; omega) (by omega) own_lat4 n_t3 g_a3) hZ (own_w hw 262 rfl) (own_w hw 87 rfl) (by decide) (by decide)) (g := (mkF m 40 #[.val (.ref a1), .val (.ref a3), .val (.int p2), .val (.int (1 : Int32))] [(.int t39), (.int p2), (.ref a3), (.int (0 : Int32)), (.ref ta)])) rfl (by rw [hml]; rfl) (argsL := [(.ref ta), (.int (0 : Int32)), (.ref a3), (.int p2), (.int t39)]) (rest := []) (lenOf pd_31_1 rfl) rfl (Nat.le_of_eq rfl) (hb hby d31_40) (fun _ _ => ⟨rfl, e36, (by decide : 0 + 0 ≤ _), (by decide : 0 + 0 ≤ _)⟩)
    dsimp only [Pt.U, Pt.locs, Pt.cells, Pt.slots] at X40 l40 y40 z40 st40 hQ40
    subst l40 y40 z40
    obtain ⟨rfl, N40q, Kq40, Aq40⟩ := hQ40
    have N40 := Fr.app N1 N40q
    have K40 : Keep h0 T40.heap [a3] := K0.trans Kq40 (fun x hx => by cases List.mem_singleton.mp hx; exact (Or.inl (List.mem_of_getElem? (i := 0) rfl)))
    have Z40 : n0 ≤ T40.heap.size := Nat.le_trans Z0 Kq40.1
    refine own_by st40 ?_
    obtain ⟨fs, hr, hrun, hended, hW, hsame⟩ := X40.leave (v := none) (fun _ => rfl)
    refine ⟨_, _, ?_, hrun, hended, _, _, rfl, ?_, ⟨_, rfl⟩, hW, hsame.mono (by decide) (by decide)⟩
    · exact X40.returnOut hx Bd.returns (hb hby d31_43) hr
    · show Q31 Z a1 a3 p2 (1 : Int32) ta kb kd Nd cs gz gf h0 n0 _ T40.heap _
      exact ⟨rfl, N40, K40, (by rw [own_cod1]; exact Aq40)⟩
abbrev own_b30 := jdk_68_method_71_code
theorem d30_0 : decode own_b30 0 = .ok (.getstatic 18, 3) := by decide +kernel
theorem d30_3 : decode own_b30 3 = .ok (.ifCond .eq 18, 3) := by decide +kernel
theorem d30_6 : decode own_b30 6 = .ok (.aload_n 0, 1) := by decide +kernel
theorem d30_7 : decode own_b30 7 = .ok (.getfield 22, 3) := by decide +kernel
theorem d30_10 : decode own_b30 10 = .ok (.aload_n 1, 1) := by decide +kernel
theorem d30_11 : decode own_b30 11 = .ok (.invokevirtual 40, 3) := by decide +kernel
theorem d30_14 : decode own_b30 14 = .ok (.if_icmp .eq 7, 3) := by decide +kernel
theorem d30_17 : decode own_b30 17 = .ok (.aload_n 0, 1) := by decide +kernel
theorem d30_18 : decode own_b30 18 = .ok (.invokevirtual 195, 3) := by decide +kernel
theorem d30_21 : decode own_b30 21 = .ok (.return_, 1) := by decide +kernel
theorem pn_30 : plainFor (⟨"java/lang/AbstractStringBuilder", "inflateIfNeededFor", "(Ljava/lang/String;)V"⟩ : MethodName) = true := by first | exact plainFor_of_name (by first | (simp [plainName, overriddenIn]; done) | decide +kernel) | decide +kernel | exact Jvm.Free.JP.mathPlain rfl (by decide +kernel)
theorem pd_30_0 : parseMethodDescriptor "()B" = some ⟨[], some .byte⟩ := by decide +kernel
theorem pd_30_1 : parseMethodDescriptor "()V" = some ⟨[], none⟩ := by decide +kernel
theorem ef_30 (m : MethodId) (a1 : Addr) (a2 : Addr) : entryFrame m #[(.ref a1), (.ref a2)] 2 = mkF m 0 #[.val (.ref a1), .val (.ref a2)] [] := by first | (simp [entryFrame, mkF, argsToLocals, Value.category]; done) | rfl
abbrev own_r30 : Room := { frames := 2, cells := 0, slots := 0, locals := 25 }
def Q30 (Z : State) (a1 : Addr) (a2 : Addr) (cd : Int32) (gz : Int32) (gf : Value) (h0 : Heap) (n0 : Nat) (v : Option Value) (h : Heap) (L : List Loc) : Prop := v = none ∧ Fr n0 L ∧ h = h0
theorem rm30 (l : Launch) (Z : State) (a0 : Array Value) (hw : ∀ d ∈ tables_1, d.before a0 Z = true) (ws : List Jvm.Cond) (a1 : Addr) (a2 : Addr) (cd : Int32) (gz : Int32) (gf : Value) (h0 : Heap) (n0 : Nat) (Z0 : n0 ≤ h0.size) (O : Old Z n0 h0) (hst : own_ST Z gz gf) (hcd : cd = (0 : Int32) ∨ cd = (1 : Int32)) (E_a1 : Exa Z h0 a1 "java/lang/StringBuilder") (F_c : Fld Z h0 a1 "java/lang/AbstractStringBuilder" "coder" "B" (.int cd)) (E_a2 : Exa Z h0 a2 "java/lang/String") (F_d : Fld Z h0 a2 "java/lang/String" "coder" "B" (.int (0 : Int32))) :
    MetFree l own_n28 (head1 (Jvm.Cond.code own_n28 jdk_68_method_71_code 2 none :: ws) own_r30) (fun a U => a = #[(.ref a1), (.ref a2)] ∧ Z.Warmed39 U.vm ∧ U.heap = h0) (fun _ _ _ _ _ => True) (fun _ U o U' => ∃ v L, o = .returned v ∧ Q30 Z a1 a2 cd gz gf h0 n0 v U'.heap L ∧ FrameEnd U o U' L own_r30.cells own_r30.slots) := by
  refine MetFree.of_bodySF pn_30 hisR ?_
  intro p e s m args below meth c s₁ Bd hml0 hP hK
  obtain ⟨rfl, hZ, hh⟩ := hP
  have hx := Bd.exec
  have hby := Bd.bytes
  have hml : c.maxLocals = 2 := hml0
  have hown : s.vm.findClass "java/lang/AbstractStringBuilder" = some m.cls := findClass_of_methodNamed Bd.named
  have hnm := (name_of_methodNamed Bd.named Bd.method).1
  have X0 : Stand p l e own_r30 s m #[(.ref a1), (.ref a2)] below meth c s₁ [] 0 0 := Stand.of_body Bd
  have e0 : s₁.heap = h0 := by rw [← hh, Bd.state]; rfl
  have N0 := Fr.nil n0
  refine own_at (castTop (ef_30 m a1 a2)) ?_
  have K0 := Keep.refl h0 []
  obtain ⟨S1, P5, S2, rf, S3, S4, S5⟩ := id hst
  rcases hcd with rfl | rfl
  · skip
    obtain ⟨T00, X00, e00, st00⟩ := getS2 X0 hx hZ hown (host := "") (Or.inl (own_w hw 58 rfl)) Via.refl e0 (S1.ext O.2) (g := (mkF m 0 #[.val (.ref a1), .val (.ref a2)] [])) rfl (hb hby d30_0)
    refine own_by st00 ?_
    have sg7 : own_G p e below T00 (mkF m 7 #[.val (.ref a1), .val (.ref a2)] [(.ref a1)]) T00 (mkF m 3 #[.val (.ref a1), .val (.ref a2)] [(.int gz)]) := by
      intro t k
      refine XS.ifNo X00.here hx rfl (hb hby d30_3) rfl ((if0 _ _).trans (feq P5).1) ?_
      refine XS.aloadN X00.here hx rfl (hb hby d30_6) rfl rfl ?_
      exact k
    refine own_by sg7 ?_
    obtain ⟨T7, X7, e7, st7⟩ := getF X00 hx hZ hown (host := "") (Or.inl (own_w hw 61 rfl)) Via.refl e00 F_c (g := (mkF m 7 #[.val (.ref a1), .val (.ref a2)] [(.ref a1)])) rfl rfl (hb hby d30_7)
    refine own_by st7 ?_
    have sg11 : own_G p e below T7 (mkF m 11 #[.val (.ref a1), .val (.ref a2)] [(.ref a2), (.int (0 : Int32))]) T7 (mkF m 10 #[.val (.ref a1), .val (.ref a2)] [(.int (0 : Int32))]) := by
      intro t k
      refine XS.aloadN X7.here hx rfl (hb hby d30_10) rfl rfl ?_
      exact k
    refine own_by sg11 ?_
    obtain ⟨cq11, kq11, q11a, q11b, q11c⟩ := isOf hZ e7 E_a2
    obtain ⟨_, _, ⟨T11, L11, k11, n11⟩, -, X11, ⟨Lc11, hQ11, l11, y11, z11⟩, st11⟩ := X7.virtualBack hx (y := own_n23) (z := own_n23) hown (mvT hZ (own_w hw 159 rfl)) (mvT hZ (own_w hw 44 rfl)) (notFace_of_selects (args := #[]) (mvT hZ (own_w hw 46 rfl))) (mvT hZ (own_w hw 46 rfl)) (mvT hZ (own_w hw 45 rfl)) (by decide) (backOf (W := 1) (rm90 l Z a0 hw [] a2 gz gf h0 n0 Z0 O hst F_d) hZ (own_w hw 47 rfl) (own_w hw 4 rfl) (by decide) (by decide)) q11a q11c (g := (mkF m 11 #[.val (.ref a1), .val (.ref a2)] [(.ref a2), (.int (0 : Int32))])) rfl (by rw [hml]; rfl) (Steps.refl _) (argsL := []) (rest := [(.int (0 : Int32))]) (lenOf pd_30_0 rfl) rfl (Nat.le_of_eq rfl) (hb hby d30_11) (fun _ _ => ⟨rfl, e7, (by decide : 0 + 0 ≤ _), (by decide : 0 + 0 ≤ _)⟩)
    dsimp only [Pt.U, Pt.locs, Pt.cells, Pt.slots] at X11 l11 y11 z11 st11 hQ11
    subst l11 y11 z11
    obtain ⟨rfl, N11q, hq11⟩ := hQ11
    have N11 := Fr.app N0 N11q
    refine own_by (fun t k => st11.trans k) ?_
    have sg21 : own_G p e below T11 (mkF m 21 #[.val (.ref a1), .val (.ref a2)] []) T11 (mkF m 14 #[.val (.ref a1), .val (.ref a2)] [(.int (0 : Int32)), (.int (0 : Int32))]) := by
      intro t k
      refine XS.icmpYes X11.here hx rfl (pc0 := 14) (pc' := 21) rfl (hb hby d30_14) rfl (teq (by decide : (0 : Int32) = (0 : Int32))).1 (by decide) (by decide) ?_
      exact k
    refine own_by sg21 ?_
    obtain ⟨fs, hr, hrun, hended, hW, hsame⟩ := X11.leave (v := none) (fun _ => rfl)
    refine ⟨_, _, ?_, hrun, hended, _, _, rfl, ?_, ⟨_, rfl⟩, hW, hsame.mono (by decide) (by decide)⟩
    · exact X11.returnOut hx Bd.returns (hb hby d30_21) hr
    · show Q30 Z a1 a2 (0 : Int32) gz gf h0 n0 _ T11.heap _
      rw [hq11]
      exact ⟨rfl, N11, rfl⟩
  · skip
    obtain ⟨T00, X00, e00, st00⟩ := getS2 X0 hx hZ hown (host := "") (Or.inl (own_w hw 58 rfl)) Via.refl e0 (S1.ext O.2) (g := (mkF m 0 #[.val (.ref a1), .val (.ref a2)] [])) rfl (hb hby d30_0)
    refine own_by st00 ?_
    have sg7 : own_G p e below T00 (mkF m 7 #[.val (.ref a1), .val (.ref a2)] [(.ref a1)]) T00 (mkF m 3 #[.val (.ref a1), .val (.ref a2)] [(.int gz)]) := by
      intro t k
      refine XS.ifNo X00.here hx rfl (hb hby d30_3) rfl ((if0 _ _).trans (feq P5).1) ?_
      refine XS.aloadN X00.here hx rfl (hb hby d30_6) rfl rfl ?_
      exact k
    refine own_by sg7 ?_
    obtain ⟨T7, X7, e7, st7⟩ := getF X00 hx hZ hown (host := "") (Or.inl (own_w hw 61 rfl)) Via.refl e00 F_c (g := (mkF m 7 #[.val (.ref a1), .val (.ref a2)] [(.ref a1)])) rfl rfl (hb hby d30_7)
    refine own_by st7 ?_
    have sg11 : own_G p e below T7 (mkF m 11 #[.val (.ref a1), .val (.ref a2)] [(.ref a2), (.int (1 : Int32))]) T7 (mkF m 10 #[.val (.ref a1), .val (.ref a2)] [(.int (1 : Int32))]) := by
      intro t k
      refine XS.aloadN X7.here hx rfl (hb hby d30_10) rfl rfl ?_
      exact k
    refine own_by sg11 ?_
    obtain ⟨cq11, kq11, q11a, q11b, q11c⟩ := isOf hZ e7 E_a2
    obtain ⟨_, _, ⟨T11, L11, k11, n11⟩, -, X11, ⟨Lc11, hQ11, l11, y11, z11⟩, st11⟩ := X7.virtualBack hx (y := own_n23) (z := own_n23) hown (mvT hZ (own_w hw 159 rfl)) (mvT hZ (own_w hw 44 rfl)) (notFace_of_selects (args := #[]) (mvT hZ (own_w hw 46 rfl))) (mvT hZ (own_w hw 46 rfl)) (mvT hZ (own_w hw 45 rfl)) (by decide) (backOf (W := 1) (rm90 l Z a0 hw [] a2 gz gf h0 n0 Z0 O hst F_d) hZ (own_w hw 47 rfl) (own_w hw 4 rfl) (by decide) (by decide)) q11a q11c (g := (mkF m 11 #[.val (.ref a1), .val (.ref a2)] [(.ref a2), (.int (1 : Int32))])) rfl (by rw [hml]; rfl) (Steps.refl _) (argsL := []) (rest := [(.int (1 : Int32))]) (lenOf pd_30_0 rfl) rfl (Nat.le_of_eq rfl) (hb hby d30_11) (fun _ _ => ⟨rfl, e7, (by decide : 0 + 0 ≤ _), (by decide : 0 + 0 ≤ _)⟩)
    dsimp only [Pt.U, Pt.locs, Pt.cells, Pt.slots] at X11 l11 y11 z11 st11 hQ11
    subst l11 y11 z11
    obtain ⟨rfl, N11q, hq11⟩ := hQ11
    have N11 := Fr.app N0 N11q
    refine own_by (fun t k => st11.trans k) ?_
    have sg18 : own_G p e below T11 (mkF m 18 #[.val (.ref a1), .val (.ref a2)] [(.ref a1)]) T11 (mkF m 14 #[.val (.ref a1), .val (.ref a2)] [(.int (0 : Int32)), (.int (1 : Int32))]) := by
      intro t k
      refine XS.icmpNo X11.here hx rfl (hb hby d30_14) rfl (feq (by decide : ¬ ((1 : Int32) = (0 : Int32)))).1 ?_
      refine XS.aloadN X11.here hx rfl (hb hby d30_17) rfl rfl ?_
      exact k
    refine own_by sg18 ?_
    obtain ⟨cq18, q18, q18'⟩ := E_a1.cell
    obtain ⟨_, _, ⟨T18, L18, k18, n18⟩, -, X18, ⟨Lc18, hQ18, l18, y18, z18⟩, st18⟩ := X11.privateBack hx (y := own_n20) hown (mvT hZ (own_w hw 254 rfl)) (mvT hZ (own_w hw 255 rfl)) (own_selp (z := own_n4) (Cond.privateMethod_at (mvP hZ (own_w hw 256 rfl) (args := #[]))) (mvT hZ (own_w hw 255 rfl)) (mvT hZ (own_w hw 78 rfl)) rfl (by decide)) (Cond.privateMethod_at (mvP hZ (own_w hw 256 rfl) (args := #[]))) (mvT hZ (own_w hw 258 rfl)) (by decide) (backOf (W := 0) (rm521 l Z a0 hw [] a1 gz gf h0 n0 Z0 O hst F_c E_a1) hZ (own_w hw 258 rfl) (own_w hw 55 rfl) (by decide) (by decide)) (g := (mkF m 18 #[.val (.ref a1), .val (.ref a2)] [(.ref a1)])) rfl (by rw [hml]; rfl) (Steps.refl _) (a := a1) (by rw [hq11]; exact q18) q18' (argsL := []) (rest := []) (lenOf pd_30_1 rfl) rfl (Nat.le_of_eq rfl) (hb hby d30_18) (fun _ _ => ⟨rfl, hq11, (by decide : 0 + 0 ≤ _), (by decide : 0 + 0 ≤ _)⟩)
    dsimp only [Pt.U, Pt.locs, Pt.cells, Pt.slots] at X18 l18 y18 z18 st18 hQ18
    subst l18 y18 z18
    obtain ⟨rfl, N18q, hq18⟩ := hQ18
    have N18 := Fr.app N11 N18q
    refine own_by (fun t k => st18.trans k) ?_
    obtain ⟨fs, hr, hrun, hended, hW, hsame⟩ := X18.leave (v := none) (fun _ => rfl)
    refine ⟨_, _, ?_, hrun, hended, _, _, rfl, ?_, ⟨_, rfl⟩, hW, hsame.mono (by decide) (by decide)⟩
    · exact X18.returnOut hx Bd.returns (hb hby d30_21) hr
    · show Q30 Z a1 a2 (1 : Int32) gz gf h0 n0 _ T18.heap _
      rw [hq18]
      exact ⟨rfl, N18, rfl⟩
abbrev own_b29 := jdk_68_method_73_code
theorem d29_0 : decode own_b29 0 = .ok (.aload_n 0, 1) := by decide +kernel
theorem d29_1 : decode own_b29 1 = .ok (.aload_n 2, 1) := by decide +kernel
theorem d29_2 : decode own_b29 2 = .ok (.invokevirtual 397, 3) := by decide +kernel
theorem d29_5 : decode own_b29 5 = .ok (.aload_n 2, 1) := by decide +kernel
theorem d29_6 : decode own_b29 6 = .ok (.aload_n 0, 1) := by decide +kernel
theorem d29_7 : decode own_b29 7 = .ok (.getfield 15, 3) := by decide +kernel
theorem d29_10 : decode own_b29 10 = .ok (.iload_n 1, 1) := by decide +kernel
theorem d29_11 : decode own_b29 11 = .ok (.aload_n 0, 1) := by decide +kernel
theorem d29_12 : decode own_b29 12 = .ok (.getfield 22, 3) := by decide +kernel
theorem d29_15 : decode own_b29 15 = .ok (.invokevirtual 399, 3) := by decide +kernel
theorem d29_18 : decode own_b29 18 = .ok (.return_, 1) := by decide +kernel
theorem pn_29 : plainFor (⟨"java/lang/AbstractStringBuilder", "putStringAt", "(ILjava/lang/String;)V"⟩ : MethodName) = true := by first | exact plainFor_of_name (by first | (simp [plainName, overriddenIn]; done) | decide +kernel) | decide +kernel | exact Jvm.Free.JP.mathPlain rfl (by decide +kernel)
theorem pd_29_0 : parseMethodDescriptor "(Ljava/lang/String;)V" = some ⟨[(.object "java/lang/String")], none⟩ := by decide +kernel
theorem pd_29_1 : parseMethodDescriptor "([BIB)V" = some ⟨[(.array .byte), .int, .byte], none⟩ := by decide +kernel
theorem ef_29 (m : MethodId) (a1 : Addr) (p1 : Int32) (a2 : Addr) : entryFrame m #[(.ref a1), (.int p1), (.ref a2)] 3 = mkF m 0 #[.val (.ref a1), .val (.int p1), .val (.ref a2)] [] := by first | (simp [entryFrame, mkF, argsToLocals, Value.category]; done) | rfl
abbrev own_r29 : Room := { frames := 6, cells := 0, slots := 0, locals := 91 }
def Q29 (Z : State) (a1 : Addr) (p1 : Int32) (a2 : Addr) (vb : Addr) (kb : ClassId) (N : Nat) (cd : Int32) (cs : List Int32) (ta : Addr) (kt : ClassId) (gz : Int32) (gf : Value) (h0 : Heap) (n0 : Nat) (v : Option Value) (h : Heap) (L : List Loc) : Prop := v = none ∧ Fr n0 L ∧ Keep h0 h [vb] ∧ Arv Z h vb kb .byte (Int32.ofNat (N)) (own_cod cd (cs ++ ([92, 117, 48, 48] : List Int32))) (.int (0 : Int32))
theorem rm29 (l : Launch) (Z : State) (a0 : Array Value) (hw : ∀ d ∈ tables_1, d.before a0 Z = true) (ws : List Jvm.Cond) (a1 : Addr) (p1 : Int32) (a2 : Addr) (vb : Addr) (kb : ClassId) (N : Nat) (cd : Int32) (cs : List Int32) (ta : Addr) (kt : ClassId) (gz : Int32) (gf : Value) (h0 : Heap) (n0 : Nat) (Z0 : n0 ≤ h0.size) (O : Old Z n0 h0) (hst : own_ST Z gz gf) (BB : own_B Z h0 a1 vb kb N cd cs) (hcd : cd = (0 : Int32) ∨ cd = (1 : Int32)) (g_a1 : n0 ≤ a1) (g_vb : n0 ≤ vb) (E_s : Exa Z h0 a2 "java/lang/String") (S_v : Fld Z h0 a2 "java/lang/String" "value" "[B" (.ref ta)) (S_c : Fld Z h0 a2 "java/lang/String" "coder" "B" (.int (0 : Int32))) (A_t : Arv Z h0 ta kt .byte (Int32.ofNat (4)) (own_c0 ([92, 117, 48, 48] : List Int32)) (.int (0 : Int32))) (n_tv : ta ≠ vb) (hp1 : p1 = Int32.ofNat cs.length) (hfit : (cd = (0 : Int32) → cs.length + 4 ≤ N ∧ N ≤ 42) ∧ (cd = (1 : Int32) → 2 * (cs.length + 4) ≤ N ∧ N ≤ 86)) :
    MetFree l own_n31 (head1 (Jvm.Cond.code own_n31 jdk_68_method_73_code 3 none :: ws) own_r29) (fun a U => a = #[(.ref a1), (.int p1), (.ref a2)] ∧ Z.Warmed39 U.vm ∧ U.heap = h0) (fun _ _ _ _ _ => True) (fun _ U o U' => ∃ v L, o = .returned v ∧ Q29 Z a1 p1 a2 vb kb N cd cs ta kt gz gf h0 n0 v U'.heap L ∧ FrameEnd U o U' L own_r29.cells own_r29.slots) := by
  refine MetFree.of_bodySF pn_29 hisR ?_
  intro p e s m args below meth c s₁ Bd hml0 hP hK
  obtain ⟨rfl, hZ, hh⟩ := hP
  have hx := Bd.exec
  have hby := Bd.bytes
  have hml : c.maxLocals = 3 := hml0
  have hown : s.vm.findClass "java/lang/AbstractStringBuilder" = some m.cls := findClass_of_methodNamed Bd.named
  have hnm := (name_of_methodNamed Bd.named Bd.method).1
  have X0 : Stand p l e own_r29 s m #[(.ref a1), (.int p1), (.ref a2)] below meth c s₁ [] 0 0 := Stand.of_body Bd
  have e0 : s₁.heap = h0 := by rw [← hh, Bd.state]; rfl
  have N0 := Fr.nil n0
  refine own_at (castTop (ef_29 m a1 p1 a2)) ?_
  have K0 := Keep.refl h0 [vb]
  obtain ⟨S1, P5, S2, rf, S3, S4, S5⟩ := id hst
  obtain ⟨E_b, F_v, F_c, F_m, F_n, E_v, A_v⟩ := id BB
  have n_b_v : a1 ≠ vb := E_b.neArv A_v (own_w hw 36 rfl)
  obtain ⟨cn, hcn⟩ : ∃ z : Int32, z = Int32.ofNat cs.length := ⟨_, rfl⟩
  rw [← hcn] at F_n
  have n_2v : a2 ≠ vb := E_s.neArv A_v (own_w hw 3 rfl)
  have n_12 : a1 ≠ a2 := E_b.ne E_s (by decide)
  have n_1t : a1 ≠ ta := E_b.neArv A_t (own_w hw 36 rfl)
  have sg2 : own_G p e below s₁ (mkF m 2 #[.val (.ref a1), .val (.int p1), .val (.ref a2)] [(.ref a2), (.ref a1)]) s₁ (mkF m 0 #[.val (.ref a1), .val (.int p1), .val (.ref a2)] []) := by
    intro t k
    refine XS.aloadN X0.here hx rfl (hb hby d29_0) rfl rfl ?_
    refine XS.aloadN X0.here hx rfl (hb hby d29_1) rfl rfl ?_
    exact k
  refine own_by sg2 ?_
  obtain ⟨cq2, q2, q2'⟩ := E_b.cell
  obtain ⟨_, _, ⟨T2, L2, k2, n2⟩, -, X2, ⟨Lc2, hQ2, l2, y2, z2⟩, st2⟩ := X0.privateBack hx (y := own_n28) hown (mvT hZ (own_w hw 154 rfl)) (mvT hZ (own_w hw 155 rfl)) (own_selp (z := own_n4) (Cond.privateMethod_at (mvP hZ (own_w hw 156 rfl) (args := #[]))) (mvT hZ (own_w hw 155 rfl)) (mvT hZ (own_w hw 78 rfl)) rfl (by decide)) (Cond.privateMethod_at (mvP hZ (own_w hw 156 rfl) (args := #[]))) (mvT hZ (own_w hw 158 rfl)) (by decide) (backOf (W := 0) (rm30 l Z a0 hw [] a1 a2 cd gz gf h0 n0 Z0 O hst hcd E_b F_c E_s S_c) hZ (own_w hw 158 rfl) (own_w hw 55 rfl) (by decide) (by decide)) (g := (mkF m 2 #[.val (.ref a1), .val (.int p1), .val (.ref a2)] [(.ref a2), (.ref a1)])) rfl (by rw [hml]; rfl) (Steps.refl _) (a := a1) (by rw [e0]; exact q2) q2' (argsL := [(.ref a2)]) (rest := []) (lenOf pd_29_0 rfl) rfl (Nat.le_of_eq rfl) (hb hby d29_2) (fun _ _ => ⟨rfl, e0, (by decide : 0 + 0 ≤ _), (by decide : 0 + 0 ≤ _)⟩)
  dsimp only [Pt.U, Pt.locs, Pt.cells, Pt.slots] at X2 l2 y2 z2 st2 hQ2
  subst l2 y2 z2
  obtain ⟨rfl, N2q, hq2⟩ := hQ2
  have N2 := Fr.app N0 N2q
  refine own_by (fun t k => st2.trans k) ?_
  have sg7 : own_G p e below T2 (mkF m 7 #[.val (.ref a1), .val (.int p1), .val (.ref a2)] [(.ref a1), (.ref a2)]) T2 (mkF m 5 #[.val (.ref a1), .val (.int p1), .val (.ref a2)] []) := by
    intro t k
    refine XS.aloadN X2.here hx rfl (hb hby d29_5) rfl rfl ?_
    refine XS.aloadN X2.here hx rfl (hb hby d29_6) rfl rfl ?_
    exact k
  refine own_by sg7 ?_
  obtain ⟨T7, X7, e7, st7⟩ := getF X2 hx hZ hown (host := "") (Or.inl (own_w hw 59 rfl)) Via.refl hq2 F_v (g := (mkF m 7 #[.val (.ref a1), .val (.int p1), .val (.ref a2)] [(.ref a1), (.ref a2)])) rfl rfl (hb hby d29_7)
  refine own_by st7 ?_
  have sg12 : own_G p e below T7 (mkF m 12 #[.val (.ref a1), .val (.int p1), .val (.ref a2)] [(.ref a1), (.int p1), (.ref vb), (.ref a2)]) T7 (mkF m 10 #[.val (.ref a1), .val (.int p1), .val (.ref a2)] [(.ref vb), (.ref a2)]) := by
    intro t k
    refine XS.iloadN X7.here hx rfl (hb hby d29_10) rfl ?_
    refine XS.aloadN X7.here hx rfl (hb hby d29_11) rfl rfl ?_
    exact k
  refine own_by sg12 ?_
  obtain ⟨T12, X12, e12, st12⟩ := getF X7 hx hZ hown (host := "") (Or.inl (own_w hw 61 rfl)) Via.refl e7 F_c (g := (mkF m 12 #[.val (.ref a1), .val (.int p1), .val (.ref a2)] [(.ref a1), (.int p1), (.ref vb), (.ref a2)])) rfl rfl (hb hby d29_12)
  refine own_by st12 ?_
  obtain ⟨cq15, kq15, q15a, q15b, q15c⟩ := isOf hZ e12 E_s
  obtain ⟨_, _, ⟨T15, L15, k15, n15⟩, -, X15, ⟨Lc15, hQ15, l15, y15, z15⟩, st15⟩ := X12.virtualBack hx (y := own_n29) (z := own_n29) hown (mvT hZ (own_w hw 160 rfl)) (mvT hZ (own_w hw 161 rfl)) (notFace_of_selects (args := #[]) (mvT hZ (own_w hw 163 rfl))) (mvT hZ (own_w hw 163 rfl)) (mvT hZ (own_w hw 162 rfl)) (by decide) (backOf (W := 0) (rm31 l Z a0 hw [] a2 vb p1 cd ta kt kb N cs gz gf h0 n0 Z0 O hst E_s S_v S_c A_t A_v hp1 hcd hfit n_tv n_2v g_vb) hZ (own_w hw 164 rfl) (own_w hw 4 rfl) (by decide) (by decide)) q15a q15c (g := (mkF m 15 #[.val (.ref a1), .val (.int p1), .val (.ref a2)] [(.int cd), (.int p1), (.ref vb), (.ref a2)])) rfl (by rw [hml]; rfl) (Steps.refl _) (argsL := [(.ref vb), (.int p1), (.int cd)]) (rest := []) (lenOf pd_29_1 rfl) rfl (Nat.le_of_eq rfl) (hb hby d29_15) (fun _ _ => ⟨rfl, e12, (by decide : 0 + 0 ≤ _), (by decide : 0 + 0 ≤ _)⟩)
  dsimp only [Pt.U, Pt.locs, Pt.cells, Pt.slots] at X15 l15 y15 z15 st15 hQ15
  subst l15 y15 z15
  obtain ⟨rfl, N15q, Kq15, Aq15⟩ := hQ15
  have N15 := Fr.app N2 N15q
  have K15 : Keep h0 T15.heap [vb] := K0.trans Kq15 (fun x hx => by cases List.mem_singleton.mp hx; exact (Or.inl (List.mem_of_getElem? (i := 0) rfl)))
  have Z15 : n0 ≤ T15.heap.size := Nat.le_trans Z0 Kq15.1
  refine own_by (fun t k => st15.trans k) ?_
  obtain ⟨fs, hr, hrun, hended, hW, hsame⟩ := X15.leave (v := none) (fun _ => rfl)
  refine ⟨_, _, ?_, hrun, hended, _, _, rfl, ?_, ⟨_, rfl⟩, hW, hsame.mono (by decide) (by decide)⟩
  · exact X15.returnOut hx Bd.returns (hb hby d29_18) hr
  · show Q29 Z a1 p1 a2 vb kb N cd cs ta kt gz gf h0 n0 _ T15.heap _
    exact ⟨rfl, N15, K15, Aq15⟩
abbrev own_b23 := jdk_68_method_22_code
theorem d23_0 : decode own_b23 0 = .ok (.aload_n 1, 1) := by decide +kernel
theorem d23_1 : decode own_b23 1 = .ok (.ifnonnull 8, 3) := by decide +kernel
theorem d23_9 : decode own_b23 9 = .ok (.aload_n 1, 1) := by decide +kernel
theorem d23_10 : decode own_b23 10 = .ok (.invokevirtual 32, 3) := by decide +kernel
theorem d23_13 : decode own_b23 13 = .ok (.istore_n 2, 1) := by decide +kernel
theorem d23_14 : decode own_b23 14 = .ok (.aload_n 0, 1) := by decide +kernel
theorem d23_15 : decode own_b23 15 = .ok (.aload_n 0, 1) := by decide +kernel
theorem d23_16 : decode own_b23 16 = .ok (.getfield 79, 3) := by decide +kernel
theorem d23_19 : decode own_b23 19 = .ok (.iload_n 2, 1) := by decide +kernel
theorem d23_20 : decode own_b23 20 = .ok (.iadd, 1) := by decide +kernel
theorem d23_21 : decode own_b23 21 = .ok (.invokevirtual 100, 3) := by decide +kernel
theorem d23_24 : decode own_b23 24 = .ok (.aload_n 0, 1) := by decide +kernel
theorem d23_25 : decode own_b23 25 = .ok (.aload_n 0, 1) := by decide +kernel
theorem d23_26 : decode own_b23 26 = .ok (.getfield 79, 3) := by decide +kernel
theorem d23_29 : decode own_b23 29 = .ok (.aload_n 1, 1) := by decide +kernel
theorem d23_30 : decode own_b23 30 = .ok (.invokevirtual 208, 3) := by decide +kernel
theorem d23_33 : decode own_b23 33 = .ok (.aload_n 0, 1) := by decide +kernel
theorem d23_34 : decode own_b23 34 = .ok (.dup, 1) := by decide +kernel
theorem d23_35 : decode own_b23 35 = .ok (.getfield 79, 3) := by decide +kernel
theorem d23_38 : decode own_b23 38 = .ok (.iload_n 2, 1) := by decide +kernel
theorem d23_39 : decode own_b23 39 = .ok (.iadd, 1) := by decide +kernel
theorem d23_40 : decode own_b23 40 = .ok (.putfield 79, 3) := by decide +kernel
theorem d23_43 : decode own_b23 43 = .ok (.aload_n 0, 1) := by decide +kernel
theorem d23_44 : decode own_b23 44 = .ok (.areturn, 1) := by decide +kernel
theorem pn_23 : plainFor (⟨"java/lang/AbstractStringBuilder", "append", "(Ljava/lang/String;)Ljava/lang/AbstractStringBuilder;"⟩ : MethodName) = true := by first | exact plainFor_of_name (by first | (simp [plainName, overriddenIn]; done) | decide +kernel) | decide +kernel | exact Jvm.Free.JP.mathPlain rfl (by decide +kernel)
theorem pd_23_0 : parseMethodDescriptor "()I" = some ⟨[], some .int⟩ := by decide +kernel
theorem pd_23_1 : parseMethodDescriptor "(I)V" = some ⟨[.int], none⟩ := by decide +kernel
theorem pd_23_2 : parseMethodDescriptor "(ILjava/lang/String;)V" = some ⟨[.int, (.object "java/lang/String")], none⟩ := by decide +kernel
theorem ef_23 (m : MethodId) (a1 : Addr) (a2 : Addr) : entryFrame m #[(.ref a1), (.ref a2)] 3 = mkF m 0 #[.val (.ref a1), .val (.ref a2), .unset] [] := by first | (simp [entryFrame, mkF, argsToLocals, Value.category]; done) | rfl
abbrev own_r23 : Room := { frames := 7, cells := 1, slots := 86, locals := 105 }
def Q23 (Z : State) (a1 : Addr) (a2 : Addr) (vb : Addr) (kb : ClassId) (N : Nat) (cd : Int32) (cs : List Int32) (ta : Addr) (kt : ClassId) (gz : Int32) (gf : Value) (h0 : Heap) (n0 : Nat) (v : Option Value) (h : Heap) (L : List Loc) : Prop := ∃ (v' : Addr) (k' : ClassId) (N' : Nat) (cd' : Int32), v = some (.ref a1) ∧ (v' = vb ∨ h0.size ≤ v') ∧ (cd' = (0 : Int32) ∨ cd' = (1 : Int32)) ∧ Fr n0 L ∧ Keep h0 h [a1, vb] ∧ own_B Z h a1 v' k' N' cd' (cs ++ ([92, 117, 48, 48] : List Int32)) ∧ ((cd' = (0 : Int32) → (cs ++ ([92, 117, 48, 48] : List Int32)).length ≤ N' ∧ N' ≤ 42) ∧ (cd' = (1 : Int32) → 2 * ((cs ++ ([92, 117, 48, 48] : List Int32)).length) ≤ N' ∧ N' ≤ 86)) ∧ (cd' = (0 : Int32) → own_lat (cs ++ ([92, 117, 48, 48] : List Int32)))
theorem rm23 (l : Launch) (Z : State) (a0 : Array Value) (hw : ∀ d ∈ tables_1, d.before a0 Z = true) (ws : List Jvm.Cond) (a1 : Addr) (a2 : Addr) (vb : Addr) (kb : ClassId) (N : Nat) (cd : Int32) (cs : List Int32) (ta : Addr) (kt : ClassId) (gz : Int32) (gf : Value) (h0 : Heap) (n0 : Nat) (Z0 : n0 ≤ h0.size) (O : Old Z n0 h0) (hst : own_ST Z gz gf) (BB : own_B Z h0 a1 vb kb N cd cs) (hcd : cd = (0 : Int32) ∨ cd = (1 : Int32)) (g_a1 : n0 ≤ a1) (g_vb : n0 ≤ vb) (hcap : (cd = (0 : Int32) → cs.length ≤ N ∧ N ≤ 42) ∧ (cd = (1 : Int32) → 2 * (cs.length) ≤ N ∧ N ≤ 86)) (hlat : cd = (0 : Int32) → own_lat cs) (hlen : cs.length ≤ 17) (E_s : Exa Z h0 a2 "java/lang/String") (S_v : Fld Z h0 a2 "java/lang/String" "value" "[B" (.ref ta)) (S_c : Fld Z h0 a2 "java/lang/String" "coder" "B" (.int (0 : Int32))) (A_t : Arv Z h0 ta kt .byte (Int32.ofNat (4)) (own_c0 ([92, 117, 48, 48] : List Int32)) (.int (0 : Int32))) (n_tv : ta ≠ vb) :
    MetFree l own_n32 (head1 (Jvm.Cond.code own_n32 jdk_68_method_22_code 3 (some (.object "java/lang/AbstractStringBuilder")) :: ws) own_r23) (fun a U => a = #[(.ref a1), (.ref a2)] ∧ Z.Warmed39 U.vm ∧ U.heap = h0) (fun _ _ _ _ _ => True) (fun _ U o U' => ∃ v L, o = .returned v ∧ Q23 Z a1 a2 vb kb N cd cs ta kt gz gf h0 n0 v U'.heap L ∧ FrameEnd U o U' L own_r23.cells own_r23.slots) := by
  refine MetFree.of_bodySF pn_23 hisR ?_
  intro p e s m args below meth c s₁ Bd hml0 hP hK
  obtain ⟨rfl, hZ, hh⟩ := hP
  have hx := Bd.exec
  have hby := Bd.bytes
  have hml : c.maxLocals = 3 := hml0
  have hown : s.vm.findClass "java/lang/AbstractStringBuilder" = some m.cls := findClass_of_methodNamed Bd.named
  have hnm := (name_of_methodNamed Bd.named Bd.method).1
  have X0 : Stand p l e own_r23 s m #[(.ref a1), (.ref a2)] below meth c s₁ [] 0 0 := Stand.of_body Bd
  have e0 : s₁.heap = h0 := by rw [← hh, Bd.state]; rfl
  have N0 := Fr.nil n0
  refine own_at (castTop (ef_23 m a1 a2)) ?_
  have K0 := Keep.refl h0 [a1, vb]
  obtain ⟨S1, P5, S2, rf, S3, S4, S5⟩ := id hst
  obtain ⟨E_b, F_v, F_c, F_m, F_n, E_v, A_v⟩ := id BB
  have n_b_v : a1 ≠ vb := E_b.neArv A_v (own_w hw 36 rfl)
  obtain ⟨cn, hcn⟩ : ∃ z : Int32, z = Int32.ofNat cs.length := ⟨_, rfl⟩
  rw [← hcn] at F_n
  have n_2v : a2 ≠ vb := E_s.neArv A_v (own_w hw 3 rfl)
  have n_12 : a1 ≠ a2 := E_b.ne E_s (by decide)
  have n_1t : a1 ≠ ta := E_b.neArv A_t (own_w hw 36 rfl)
  have TL : own_T Z h0 a2 ta kt 4 (0 : Int32) ([92, 117, 48, 48] : List Int32) := ⟨E_s, S_v, S_c, A_t, Or.inl rfl, ⟨fun _ => ⟨rfl, own_lat4⟩, fun q => absurd q (by decide)⟩, (by decide), (by decide)⟩
  have sg10 : own_G p e below s₁ (mkF m 10 #[.val (.ref a1), .val (.ref a2), .unset] [(.ref a2)]) s₁ (mkF m 0 #[.val (.ref a1), .val (.ref a2), .unset] []) := by
    intro t k
    refine XS.aloadN X0.here hx rfl (hb hby d23_0) rfl rfl ?_
    refine XS.ifnonnullYes X0.here hx rfl (pc0 := 1) (pc' := 9) rfl (hb hby d23_1) rfl (by decide) (by decide) ?_
    refine XS.aloadN X0.here hx rfl (hb hby d23_9) rfl rfl ?_
    exact k
  refine own_by sg10 ?_
  obtain ⟨cq10, kq10, q10a, q10b, q10c⟩ := isOf hZ e0 E_s
  obtain ⟨_, _, ⟨T10, L10, k10, n10⟩, -, X10, ⟨Lc10, hQ10, l10, y10, z10⟩, st10⟩ := X0.virtualBack hx (y := own_n30) (z := own_n30) hown (mvT hZ (own_w hw 122 rfl)) (mvT hZ (own_w hw 39 rfl)) (notFace_of_selects (args := #[]) (mvT hZ (own_w hw 41 rfl))) (mvT hZ (own_w hw 41 rfl)) (mvT hZ (own_w hw 40 rfl)) (by decide) (backOf (W := 0) (rm8 l Z a0 hw [] a2 ta kt 4 (0 : Int32) ([92, 117, 48, 48] : List Int32) gz gf h0 n0 Z0 O hst TL) hZ (own_w hw 42 rfl) (own_w hw 4 rfl) (by decide) (by decide)) q10a q10c (g := (mkF m 10 #[.val (.ref a1), .val (.ref a2), .unset] [(.ref a2)])) rfl (by rw [hml]; rfl) (Steps.refl _) (argsL := []) (rest := []) (lenOf pd_23_0 rfl) rfl (Nat.le_of_eq rfl) (hb hby d23_10) (fun _ _ => ⟨rfl, e0, (by decide : 0 + 0 ≤ _), (by decide : 0 + 0 ≤ _)⟩)
  dsimp only [Pt.U, Pt.locs, Pt.cells, Pt.slots] at X10 l10 y10 z10 st10 hQ10
  subst l10 y10 z10
  obtain ⟨rfl, N10q, hq10⟩ := hQ10
  have N10 := Fr.app N0 N10q
  obtain ⟨c10, hc10⟩ : ∃ z : Int32, z = (Int32.ofNat (([92, 117, 48, 48] : List Int32)).length) := ⟨_, rfl⟩
  rw [← hc10] at st10
  have nt_c10 : c10 = Int32.ofNat ((([92, 117, 48, 48] : List Int32)).length) := hc10
  refine own_by (fun t k => st10.trans k) ?_
  have sg16 : own_G p e below T10 (mkF m 16 #[.val (.ref a1), .val (.ref a2), .val (.int c10)] [(.ref a1), (.ref a1)]) T10 (mkF m 13 #[.val (.ref a1), .val (.ref a2), .unset] [(.int c10)]) := by
    intro t k
    refine XS.istoreN X10.here hx rfl (hb hby d23_13) rfl (l' := #[.val (.ref a1), .val (.ref a2), .val (.int c10)]) rfl ?_
    refine XS.aloadN X10.here hx rfl (hb hby d23_14) rfl rfl ?_
    refine XS.aloadN X10.here hx rfl (hb hby d23_15) rfl rfl ?_
    exact k
  refine own_by sg16 ?_
  obtain ⟨T16, X16, e16, st16⟩ := getF X10 hx hZ hown (host := "") (Or.inl (own_w hw 73 rfl)) Via.refl hq10 F_n (g := (mkF m 16 #[.val (.ref a1), .val (.ref a2), .val (.int c10)] [(.ref a1), (.ref a1)])) rfl rfl (hb hby d23_16)
  refine own_by st16 ?_
  obtain ⟨t20, ht20⟩ : ∃ z : Int32, z = (cn + c10) := ⟨_, rfl⟩
  have sg21 : own_G p e below T16 (mkF m 21 #[.val (.ref a1), .val (.ref a2), .val (.int c10)] [(.int t20), (.ref a1)]) T16 (mkF m 19 #[.val (.ref a1), .val (.ref a2), .val (.int c10)] [(.int cn), (.ref a1)]) := by
    intro t k
    rw [ht20] at k
    refine XS.iloadN X16.here hx rfl (hb hby d23_19) rfl ?_
    refine XS.iadd X16.here hx rfl (hb hby d23_20) rfl ?_
    exact k
  refine own_by sg21 ?_
  have nt_t20 : t20 = Int32.ofNat (cs.length + (([92, 117, 48, 48] : List Int32)).length) := ht20.trans (own_nadd hcn nt_c10)
  obtain ⟨cq21, q21, q21'⟩ := E_b.cell
  obtain ⟨_, _, ⟨T21, L21, k21, n21⟩, -, X21, ⟨Lc21, hQ21, l21, y21, z21⟩, st21⟩ := X16.privateBack hx (y := own_n4) hown (mvT hZ (own_w hw 75 rfl)) (mvT hZ (own_w hw 76 rfl)) (own_selp (z := own_n4) (Cond.privateMethod_at (mvP hZ (own_w hw 77 rfl) (args := #[]))) (mvT hZ (own_w hw 76 rfl)) (mvT hZ (own_w hw 78 rfl)) rfl (by decide)) (Cond.privateMethod_at (mvP hZ (own_w hw 77 rfl) (args := #[]))) (mvT hZ (own_w hw 79 rfl)) (by decide) (backOf (W := 0) (rm14 l Z a0 hw [] a1 t20 vb kb N cd cs (cs.length + (([92, 117, 48, 48] : List Int32)).length) h0 n0 Z0 BB hcd g_a1 g_vb hcap nt_t20 (by show cs.length + 4 ≤ 21; omega)) hZ (own_w hw 79 rfl) (own_w hw 55 rfl) (by decide) (by decide)) (g := (mkF m 21 #[.val (.ref a1), .val (.ref a2), .val (.int c10)] [(.int t20), (.ref a1)])) rfl (by rw [hml]; rfl) (Steps.refl _) (a := a1) (by rw [e16]; exact q21) q21' (argsL := [(.int t20)]) (rest := []) (lenOf pd_23_1 rfl) rfl (Nat.le_of_eq rfl) (hb hby d23_21) (fun _ _ => ⟨rfl, e16, (by decide : 0 + 1 ≤ _), (by decide : 0 + 86 ≤ _)⟩)
  dsimp only [Pt.U, Pt.locs, Pt.cells, Pt.slots] at X21 l21 y21 z21 st21 hQ21
  subst l21 y21 z21
  obtain ⟨rfl, N21q, Kq21, v1, k1, N1, hv1, BB21, cp⟩ := hQ21
  have N21 := Fr.app N10 N21q
  have n_t1 : ta ≠ v1 := hv1.elim (fun q => q ▸ n_tv) (fun q => Nat.ne_of_lt (Nat.lt_of_lt_of_le A_t.lt q))
  have n_21 : a2 ≠ v1 := hv1.elim (fun q => q ▸ n_2v) (fun q => Nat.ne_of_lt (Nat.lt_of_lt_of_le E_s.lt q))
  have fc := (S_v.keep Kq21 (fun h => (Ne.symm n_12) (List.mem_singleton.mp h)))
  have fc_2 := (S_c.keep Kq21 (fun h => (Ne.symm n_12) (List.mem_singleton.mp h)))
  have fc_3 := (A_t.keep Kq21 (fun h => (Ne.symm n_1t) (List.mem_singleton.mp h)))
  have K21 : Keep h0 T21.heap [a1, vb] := K0.trans Kq21 (fun x hx => by cases List.mem_singleton.mp hx; exact (Or.inl (List.mem_of_getElem? (i := 0) rfl)))
  have Z21 : n0 ≤ T21.heap.size := Nat.le_trans Z0 Kq21.1
  have g_v1 : n0 ≤ v1 := hv1.elim (fun q => q ▸ g_vb) (fun q => Nat.le_trans Z0 q)
  have wm1 : v1 ∈ [a1, vb] ∨ h0.size ≤ v1 := hv1.elim (fun q => Or.inl (q ▸ List.mem_of_getElem? (i := 1) rfl)) Or.inr
  obtain ⟨E_q21, V_q21, C_q21, M_q21, N_q21, D_q21, A_q21⟩ := id BB21
  rw [← hcn] at N_q21
  have n_q21 : a1 ≠ v1 := E_q21.neArv A_q21 (own_w hw 36 rfl)
  refine own_by (fun t k => st21.trans k) ?_
  have sg26 : own_G p e below T21 (mkF m 26 #[.val (.ref a1), .val (.ref a2), .val (.int c10)] [(.ref a1), (.ref a1)]) T21 (mkF m 24 #[.val (.ref a1), .val (.ref a2), .val (.int c10)] []) := by
    intro t k
    refine XS.aloadN X21.here hx rfl (hb hby d23_24) rfl rfl ?_
    refine XS.aloadN X21.here hx rfl (hb hby d23_25) rfl rfl ?_
    exact k
  refine own_by sg26 ?_
  obtain ⟨T26, X26, e26, st26⟩ := getF X21 hx hZ hown (host := "") (Or.inl (own_w hw 73 rfl)) Via.refl rfl N_q21 (g := (mkF m 26 #[.val (.ref a1), .val (.ref a2), .val (.int c10)] [(.ref a1), (.ref a1)])) rfl rfl (hb hby d23_26)
  refine own_by st26 ?_
  have sg30 : own_G p e below T26 (mkF m 30 #[.val (.ref a1), .val (.ref a2), .val (.int c10)] [(.ref a2), (.int cn), (.ref a1)]) T26 (mkF m 29 #[.val (.ref a1), .val (.ref a2), .val (.int c10)] [(.int cn), (.ref a1)]) := by
    intro t k
    refine XS.aloadN X26.here hx rfl (hb hby d23_29) rfl rfl ?_
    exact k
  refine own_by sg30 ?_
  obtain ⟨cq30, q30, q30'⟩ := E_q21.cell
  obtain ⟨_, _, ⟨T30, L30, k30, n30⟩, -, X30, ⟨Lc30, hQ30, l30, y30, z30⟩, st30⟩ := X26.privateBack hx (y := own_n31) hown (mvT hZ (own_w hw 149 rfl)) (mvT hZ (own_w hw 150 rfl)) (own_selp (z := own_n4) (Cond.privateMethod_at (mvP hZ (own_w hw 151 rfl) (args := #[]))) (mvT hZ (own_w hw 150 rfl)) (mvT hZ (own_w hw 78 rfl)) rfl (by decide)) (Cond.privateMethod_at (mvP hZ (own_w hw 151 rfl) (args := #[]))) (mvT hZ (own_w hw 153 rfl)) (by decide) (backOf (W := 0) (rm29 l Z a0 hw [] a1 cn a2 v1 k1 N1 cd cs ta kt gz gf T21.heap n0 Z21 (O.keep Kq21 (allS g_a1 all0)) hst ⟨E_q21, V_q21, C_q21, M_q21, (by rw [← hcn]; exact N_q21), D_q21, A_q21⟩ hcd g_a1 g_v1 (E_s.keep Kq21) fc fc_2 fc_3 n_t1 hcn cp) hZ (own_w hw 153 rfl) (own_w hw 55 rfl) (by decide) (by decide)) (g := (mkF m 30 #[.val (.ref a1), .val (.ref a2), .val (.int c10)] [(.ref a2), (.int cn), (.ref a1)])) rfl (by rw [hml]; rfl) (Steps.refl _) (a := a1) (by rw [e26]; exact q30) q30' (argsL := [(.int cn), (.ref a2)]) (rest := []) (lenOf pd_23_2 rfl) rfl (Nat.le_of_eq rfl) (hb hby d23_30) (fun _ _ => ⟨rfl, e26, (by decide : 1 + 0 ≤ _), (by decide : 86 + 0 ≤ _)⟩)
  dsimp only [Pt.U, Pt.locs, Pt.cells, Pt.slots] at X30 l30 y30 z30 st30 hQ30
  subst l30 y30 z30
  obtain ⟨rfl, N30q, Kq30, Aq30⟩ := hQ30
  have N30 := Fr.app N21 N30q
  have K30 : Keep h0 T30.heap [a1, vb] := K21.trans Kq30 (fun x hx => by cases List.mem_singleton.mp hx; exact wm1)
  have Z30 : n0 ≤ T30.heap.size := Nat.le_trans Z21 Kq30.1
  refine own_by (fun t k => st30.trans k) ?_
  have sg35 : own_G p e below T30 (mkF m 35 #[.val (.ref a1), .val (.ref a2), .val (.int c10)] [(.ref a1), (.ref a1)]) T30 (mkF m 33 #[.val (.ref a1), .val (.ref a2), .val (.int c10)] []) := by
    intro t k
    refine XS.aloadN X30.here hx rfl (hb hby d23_33) rfl rfl ?_
    refine XS.dup X30.here hx rfl (hb hby d23_34) rfl rfl ?_
    exact k
  refine own_by sg35 ?_
  obtain ⟨T35, X35, e35, st35⟩ := getF X30 hx hZ hown (host := "") (Or.inl (own_w hw 73 rfl)) Via.refl rfl (N_q21.keep Kq30 (fun h => n_q21 (List.mem_singleton.mp h))) (g := (mkF m 35 #[.val (.ref a1), .val (.ref a2), .val (.int c10)] [(.ref a1), (.ref a1)])) rfl rfl (hb hby d23_35)
  refine own_by st35 ?_
  obtain ⟨t39, ht39⟩ : ∃ z : Int32, z = (cn + c10) := ⟨_, rfl⟩
  have sg40 : own_G p e below T35 (mkF m 40 #[.val (.ref a1), .val (.ref a2), .val (.int c10)] [(.int t39), (.ref a1)]) T35 (mkF m 38 #[.val (.ref a1), .val (.ref a2), .val (.int c10)] [(.int cn), (.ref a1)]) := by
    intro t k
    rw [ht39] at k
    refine XS.iloadN X35.here hx rfl (hb hby d23_38) rfl ?_
    refine XS.iadd X35.here hx rfl (hb hby d23_39) rfl ?_
    exact k
  refine own_by sg40 ?_
  have nt_t39 : t39 = Int32.ofNat (cs.length + (([92, 117, 48, 48] : List Int32)).length) := ht39.trans (own_nadd hcn nt_c10)
  obtain ⟨T40, h40, X40, e40, W40, st40⟩ := putF X35 hx hZ hown (host := "") (Or.inl (own_w hw 73 rfl)) Via.refl e35 (N_q21.keep Kq30 (fun h => n_q21 (List.mem_singleton.mp h))) (E_q21.keep Kq30) (Or.inl (own_w hw 74 rfl)) (own_w hw 36 rfl) (ty := .int) (by decide) rfl rfl (g := (mkF m 40 #[.val (.ref a1), .val (.ref a2), .val (.int c10)] [(.int t39), (.ref a1)])) rfl rfl (hb hby d23_40)
  have Fw40 := (N_q21.keep Kq30 (fun h => n_q21 (List.mem_singleton.mp h))).same W40
  have fc_4 := ((fc.keep Kq30 (fun h => n_21 (List.mem_singleton.mp h))).other W40 (Or.inl (Ne.symm n_12)))
  have fc_5 := ((fc_2.keep Kq30 (fun h => n_21 (List.mem_singleton.mp h))).other W40 (Or.inl (Ne.symm n_12)))
  have fc_6 := ((fc_3.keep Kq30 (fun h => n_t1 (List.mem_singleton.mp h))).other W40 (Ne.symm n_1t))
  have fc_7 := ((V_q21.keep Kq30 (fun h => n_q21 (List.mem_singleton.mp h))).other W40 (Or.inr (slot_ne (Or.inl (own_w hw 60 rfl)) (Or.inl (own_w hw 74 rfl)) (by decide) (t := (.array .byte)) (t' := .int) (by decide) (by decide))))
  have fc_8 := ((C_q21.keep Kq30 (fun h => n_q21 (List.mem_singleton.mp h))).other W40 (Or.inr (slot_ne (Or.inl (own_w hw 62 rfl)) (Or.inl (own_w hw 74 rfl)) (by decide) (t := .byte) (t' := .int) (by decide) (by decide))))
  have fc_9 := ((M_q21.keep Kq30 (fun h => n_q21 (List.mem_singleton.mp h))).other W40 (Or.inr (slot_ne (Or.inl (own_w hw 279 rfl)) (Or.inl (own_w hw 74 rfl)) (by decide) (t := .boolean) (t' := .int) (by decide) (by decide))))
  have K40 : Keep h0 h40 [a1, vb] := K30.wr W40 (Or.inl (List.mem_of_getElem? (i := 0) rfl))
  have Z40 : n0 ≤ h40.size := Nat.le_trans Z30 (Keep.of_wr W40).1
  have N40 := Fr.snoc X40 N30 g_a1
  refine own_by st40 ?_
  have sg44 : own_G p e below T40 (mkF m 44 #[.val (.ref a1), .val (.ref a2), .val (.int c10)] [(.ref a1)]) T40 (mkF m 43 #[.val (.ref a1), .val (.ref a2), .val (.int c10)] []) := by
    intro t k
    refine XS.aloadN X40.here hx rfl (hb hby d23_43) rfl rfl ?_
    exact k
  refine own_by sg44 ?_
  obtain ⟨fs, hr, hrun, hended, hW, hsame⟩ := X40.leave (v := some (.ref a1)) (fun h => by rw [Bd.returns] at h; cases h)
  refine ⟨_, _, ?_, hrun, hended, _, _, rfl, ?_, ⟨_, rfl⟩, hW, hsame.mono (by decide) (by decide)⟩
  · show Steps p.tables e below (T40.setTop (mkF m 44 #[.val (.ref a1), .val (.ref a2), .val (.int c10)] [(.ref a1)])) _
    jvm_step X40.here [X40.here.top, hx, (hb hby d23_44), X40.method', Bd.returns, Value.isRef, FieldType.isReference]
    first | (intro acts; rw [hr _ acts rfl rfl rfl]) | rw [hr _ _ rfl rfl rfl]
    exact Steps.refl _
  · show Q23 Z a1 a2 vb kb N cd cs ta kt gz gf h0 n0 _ T40.heap _
    rw [e40]
    exact ⟨v1, k1, N1, cd, rfl, hv1, hcd, N40, K40, ⟨((E_q21.keep Kq30).wr W40), fc_7, fc_8, fc_9, (by rw [List.length_append]; rw [show cs.length + ([92, 117, 48, 48] : List Int32).length = cs.length + 4 from rfl]; rw [← show t39 = Int32.ofNat (cs.length + 4) from nt_t39]; exact Fw40), ((D_q21.keep Kq30).wr W40), (Aq30.other W40 (Ne.symm n_q21))⟩, (by rw [List.length_append]; exact cp), (fun q => own_lat_app (hlat q) own_lat4)⟩
abbrev own_b22 := jdk_67_method_7_code
theorem d22_0 : decode own_b22 0 = .ok (.aload_n 0, 1) := by decide +kernel
theorem d22_1 : decode own_b22 1 = .ok (.aload_n 1, 1) := by decide +kernel
theorem d22_2 : decode own_b22 2 = .ok (.invokespecial 29, 3) := by decide +kernel
theorem d22_5 : decode own_b22 5 = .ok (.pop, 1) := by decide +kernel
theorem d22_6 : decode own_b22 6 = .ok (.aload_n 0, 1) := by decide +kernel
theorem d22_7 : decode own_b22 7 = .ok (.areturn, 1) := by decide +kernel
theorem pn_22 : plainFor (⟨"java/lang/StringBuilder", "append", "(Ljava/lang/String;)Ljava/lang/StringBuilder;"⟩ : MethodName) = true := by first | exact plainFor_of_name (by first | (simp [plainName, overriddenIn]; done) | decide +kernel) | decide +kernel | exact Jvm.Free.JP.mathPlain rfl (by decide +kernel)
theorem pd_22_0 : parseMethodDescriptor "(Ljava/lang/String;)Ljava/lang/AbstractStringBuilder;" = some ⟨[(.object "java/lang/String")], some (.object "java/lang/AbstractStringBuilder")⟩ := by decide +kernel
theorem ef_22 (m : MethodId) (a1 : Addr) (a2 : Addr) : entryFrame m #[(.ref a1), (.ref a2)] 2 = mkF m 0 #[.val (.ref a1), .val (.ref a2)] [] := by first | (simp [entryFrame, mkF, argsToLocals, Value.category]; done) | rfl
abbrev own_r22 : Room := { frames := 8, cells := 1, slots := 86, locals := 119 }
def Q22 (Z : State) (a1 : Addr) (a2 : Addr) (vb : Addr) (kb : ClassId) (N : Nat) (cd : Int32) (cs : List Int32) (ta : Addr) (kt : ClassId) (gz : Int32) (gf : Value) (h0 : Heap) (n0 : Nat) (v : Option Value) (h : Heap) (L : List Loc) : Prop := ∃ (v' : Addr) (k' : ClassId) (N' : Nat) (cd' : Int32), v = some (.ref a1) ∧ (v' = vb ∨ h0.size ≤ v') ∧ (cd' = (0 : Int32) ∨ cd' = (1 : Int32)) ∧ Fr n0 L ∧ Keep h0 h [a1, vb] ∧ own_B Z h a1 v' k' N' cd' (cs ++ ([92, 117, 48, 48] : List Int32)) ∧ ((cd' = (0 : Int32) → (cs ++ ([92, 117, 48, 48] : List Int32)).length ≤ N' ∧ N' ≤ 42) ∧ (cd' = (1 : Int32) → 2 * ((cs ++ ([92, 117, 48, 48] : List Int32)).length) ≤ N' ∧ N' ≤ 86)) ∧ (cd' = (0 : Int32) → own_lat (cs ++ ([92, 117, 48, 48] : List Int32)))
theorem rm22 (l : Launch) (Z : State) (a0 : Array Value) (hw : ∀ d ∈ tables_1, d.before a0 Z = true) (ws : List Jvm.Cond) (a1 : Addr) (a2 : Addr) (vb : Addr) (kb : ClassId) (N : Nat) (cd : Int32) (cs : List Int32) (ta : Addr) (kt : ClassId) (gz : Int32) (gf : Value) (h0 : Heap) (n0 : Nat) (Z0 : n0 ≤ h0.size) (O : Old Z n0 h0) (hst : own_ST Z gz gf) (BB : own_B Z h0 a1 vb kb N cd cs) (hcd : cd = (0 : Int32) ∨ cd = (1 : Int32)) (g_a1 : n0 ≤ a1) (g_vb : n0 ≤ vb) (hcap : (cd = (0 : Int32) → cs.length ≤ N ∧ N ≤ 42) ∧ (cd = (1 : Int32) → 2 * (cs.length) ≤ N ∧ N ≤ 86)) (hlat : cd = (0 : Int32) → own_lat cs) (hlen : cs.length ≤ 17) (E_s : Exa Z h0 a2 "java/lang/String") (S_v : Fld Z h0 a2 "java/lang/String" "value" "[B" (.ref ta)) (S_c : Fld Z h0 a2 "java/lang/String" "coder" "B" (.int (0 : Int32))) (A_t : Arv Z h0 ta kt .byte (Int32.ofNat (4)) (own_c0 ([92, 117, 48, 48] : List Int32)) (.int (0 : Int32))) (n_tv : ta ≠ vb) :
    MetFree l own_n51 (head1 (Jvm.Cond.code own_n51 jdk_67_method_7_code 2 (some (.object "java/lang/StringBuilder")) :: ws) own_r22) (fun a U => a = #[(.ref a1), (.ref a2)] ∧ Z.Warmed39 U.vm ∧ U.heap = h0) (fun _ _ _ _ _ => True) (fun _ U o U' => ∃ v L, o = .returned v ∧ Q22 Z a1 a2 vb kb N cd cs ta kt gz gf h0 n0 v U'.heap L ∧ FrameEnd U o U' L own_r22.cells own_r22.slots) := by
  refine MetFree.of_bodySF pn_22 hisR ?_
  intro p e s m args below meth c s₁ Bd hml0 hP hK
  obtain ⟨rfl, hZ, hh⟩ := hP
  have hx := Bd.exec
  have hby := Bd.bytes
  have hml : c.maxLocals = 2 := hml0
  have hown : s.vm.findClass "java/lang/StringBuilder" = some m.cls := findClass_of_methodNamed Bd.named
  have hnm := (name_of_methodNamed Bd.named Bd.method).1
  have X0 : Stand p l e own_r22 s m #[(.ref a1), (.ref a2)] below meth c s₁ [] 0 0 := Stand.of_body Bd
  have e0 : s₁.heap = h0 := by rw [← hh, Bd.state]; rfl
  have N0 := Fr.nil n0
  refine own_at (castTop (ef_22 m a1 a2)) ?_
  have K0 := Keep.refl h0 [a1, vb]
  obtain ⟨S1, P5, S2, rf, S3, S4, S5⟩ := id hst
  have E_b := BB.1
  have sg2 : own_G p e below s₁ (mkF m 2 #[.val (.ref a1), .val (.ref a2)] [(.ref a2), (.ref a1)]) s₁ (mkF m 0 #[.val (.ref a1), .val (.ref a2)] []) := by
    intro t k
    refine XS.aloadN X0.here hx rfl (hb hby d22_0) rfl rfl ?_
    refine XS.aloadN X0.here hx rfl (hb hby d22_1) rfl rfl ?_
    exact k
  refine own_by sg2 ?_
  obtain ⟨_, _, ⟨T2, L2, k2, n2⟩, -, X2, ⟨Lc2, hQ2, l2, y2, z2⟩, st2⟩ := superBack X0 hx hZ (y := own_n32) hown (own_w hw 118 rfl) (own_sameM (z := own_n4) (own_w hw 119 rfl) (own_w hw 78 rfl) rfl (by decide)) (own_w hw 119 rfl) (own_w hw 70 rfl) (by decide) (backOf (W := 0) (rm23 l Z a0 hw [] a1 a2 vb kb N cd cs ta kt gz gf h0 n0 Z0 O hst BB hcd g_a1 g_vb hcap hlat hlen E_s S_v S_c A_t n_tv) hZ (own_w hw 121 rfl) (own_w hw 55 rfl) (by decide) (by decide)) e0 (Ins.self E_b) (g := (mkF m 2 #[.val (.ref a1), .val (.ref a2)] [(.ref a2), (.ref a1)])) rfl (by rw [hml]; rfl) (own_w hw 121 rfl) (argsL := [(.ref a2)]) (rest := []) (lenOf pd_22_0 rfl) rfl (Nat.le_of_eq rfl) (hb hby d22_2) (fun _ _ => ⟨rfl, e0, (by decide : 0 + 1 ≤ _), (by decide : 0 + 86 ≤ _)⟩)
  dsimp only [Pt.U, Pt.locs, Pt.cells, Pt.slots] at X2 l2 y2 z2 st2 hQ2
  subst l2 y2 z2
  obtain ⟨v_2, k_2, N_2, d_2, rfl, hv_2, hd_2, N2q, Kq2, BB2, cp_2, lt_2⟩ := hQ2
  have N2 := Fr.app N0 N2q
  have K2 : Keep h0 T2.heap [a1, vb] := Kq2
  have Z2 : n0 ≤ T2.heap.size := Nat.le_trans Z0 Kq2.1
  refine own_by (fun t k => st2.trans k) ?_
  have sg7 : own_G p e below T2 (mkF m 7 #[.val (.ref a1), .val (.ref a2)] [(.ref a1)]) T2 (mkF m 5 #[.val (.ref a1), .val (.ref a2)] [(.ref a1)]) := by
    intro t k
    refine XS.pop X2.here hx rfl (hb hby d22_5) rfl rfl ?_
    refine XS.aloadN X2.here hx rfl (hb hby d22_6) rfl rfl ?_
    exact k
  refine own_by sg7 ?_
  obtain ⟨fs, hr, hrun, hended, hW, hsame⟩ := X2.leave (v := some (.ref a1)) (fun h => by rw [Bd.returns] at h; cases h)
  refine ⟨_, _, ?_, hrun, hended, _, _, rfl, ?_, ⟨_, rfl⟩, hW, hsame.mono (by decide) (by decide)⟩
  · show Steps p.tables e below (T2.setTop (mkF m 7 #[.val (.ref a1), .val (.ref a2)] [(.ref a1)])) _
    jvm_step X2.here [X2.here.top, hx, (hb hby d22_7), X2.method', Bd.returns, Value.isRef, FieldType.isReference]
    first | (intro acts; rw [hr _ acts rfl rfl rfl]) | rw [hr _ _ rfl rfl rfl]
    exact Steps.refl _
  · show Q22 Z a1 a2 vb kb N cd cs ta kt gz gf h0 n0 _ T2.heap _
    exact ⟨v_2, k_2, N_2, d_2, rfl, hv_2, hd_2, N2, K2, BB2, cp_2, lt_2⟩
abbrev own_b43 := jdk_65_method_131_code
theorem d43_0 : decode own_b43 0 = .ok (.iload_n 1, 1) := by decide +kernel
theorem d43_1 : decode own_b43 1 = .ok (.iload_n 0, 1) := by decide +kernel
theorem d43_2 : decode own_b43 2 = .ok (.if_icmp .ge 35, 3) := by decide +kernel
theorem d43_37 : decode own_b43 37 = .ok (.return_, 1) := by decide +kernel
theorem pn_43 : plainFor (⟨"java/util/Arrays", "checkLength", "(II)V"⟩ : MethodName) = true := by first | exact plainFor_of_name (by first | (simp [plainName, overriddenIn]; done) | decide +kernel) | decide +kernel | exact Jvm.Free.JP.mathPlain rfl (by decide +kernel)
theorem ef_43 (m : MethodId) (p1 : Int32) : entryFrame m #[(.int (0 : Int32)), (.int p1)] 2 = mkF m 0 #[.val (.int (0 : Int32)), .val (.int p1)] [] := by first | (simp [entryFrame, mkF, argsToLocals, Value.category]; done) | rfl
abbrev own_r43 : Room := { frames := 0, cells := 0, slots := 0, locals := 0 }
def Q43 (Z : State) (p1 : Int32) (mm : Nat) (h0 : Heap) (n0 : Nat) (v : Option Value) (h : Heap) (L : List Loc) : Prop := v = none ∧ Fr n0 L ∧ h = h0
theorem rm43 (l : Launch) (Z : State) (a0 : Array Value) (hw : ∀ d ∈ tables_1, d.before a0 Z = true) (ws : List Jvm.Cond) (p1 : Int32) (mm : Nat) (h0 : Heap) (n0 : Nat) (Z0 : n0 ≤ h0.size) (hp1 : p1 = Int32.ofNat mm) (hm : mm ≤ 1000) :
    MetFree l own_n33 (head1 (Jvm.Cond.code own_n33 jdk_65_method_131_code 2 none :: ws) own_r43) (fun a U => a = #[(.int (0 : Int32)), (.int p1)] ∧ Z.Warmed39 U.vm ∧ U.heap = h0) (fun _ _ _ _ _ => True) (fun _ U o U' => ∃ v L, o = .returned v ∧ Q43 Z p1 mm h0 n0 v U'.heap L ∧ FrameEnd U o U' L own_r43.cells own_r43.slots) := by
  refine MetFree.of_bodySF pn_43 hisR ?_
  intro p e s m args below meth c s₁ Bd hml0 hP hK
  obtain ⟨rfl, hZ, hh⟩ := hP
  have hx := Bd.exec
  have hby := Bd.bytes
  have hml : c.maxLocals = 2 := hml0
  have hown : s.vm.findClass "java/util/Arrays" = some m.cls := findClass_of_methodNamed Bd.named
  have hnm := (name_of_methodNamed Bd.named Bd.method).1
  have X0 : Stand p l e own_r43 s m #[(.int (0 : Int32)), (.int p1)] below meth c s₁ [] 0 0 := Stand.of_body Bd
  have e0 : s₁.heap = h0 := by rw [← hh, Bd.state]; rfl
  have N0 := Fr.nil n0
  refine own_at (castTop (ef_43 m p1)) ?_
  have K0 := Keep.refl h0 []
  have sg37 : own_G p e below s₁ (mkF m 37 #[.val (.int (0 : Int32)), .val (.int p1)] []) s₁ (mkF m 0 #[.val (.int (0 : Int32)), .val (.int p1)] []) := by
    intro t k
    refine XS.iloadN X0.here hx rfl (hb hby d43_0) rfl ?_
    refine XS.iloadN X0.here hx rfl (hb hby d43_1) rfl ?_
    refine XS.icmpYes X0.here hx rfl (pc0 := 2) (pc' := 37) rfl (hb hby d43_2) rfl (flt ((not_congr (own_nlt (n := 0) hp1 (rfl : (0 : Int32) = Int32.ofNat 0) (by omega) (by decide))).mpr (by omega) : ¬ (p1 < (0 : Int32)))).2.1 (by decide) (by decide) ?_
    exact k
  refine own_by sg37 ?_
  obtain ⟨fs, hr, hrun, hended, hW, hsame⟩ := X0.leave (v := none) (fun _ => rfl)
  refine ⟨_, _, ?_, hrun, hended, _, _, rfl, ?_, ⟨_, rfl⟩, hW, hsame.mono (by decide) (by decide)⟩
  · exact X0.returnOut hx Bd.returns (hb hby d43_37) hr
  · show Q43 Z p1 mm h0 n0 _ s₁.heap _
    rw [e0]
    exact ⟨rfl, N0, rfl⟩
abbrev own_b42 := jdk_65_method_133_code
theorem d42_0 : decode own_b42 0 = .ok (.iload_n 1, 1) := by decide +kernel
theorem d42_1 : decode own_b42 1 = .ok (.iload_n 2, 1) := by decide +kernel
theorem d42_2 : decode own_b42 2 = .ok (.invokestatic 343, 3) := by decide +kernel
theorem d42_5 : decode own_b42 5 = .ok (.iload_n 2, 1) := by decide +kernel
theorem d42_6 : decode own_b42 6 = .ok (.iload_n 1, 1) := by decide +kernel
theorem d42_7 : decode own_b42 7 = .ok (.isub, 1) := by decide +kernel
theorem d42_8 : decode own_b42 8 = .ok (.istore_n 3, 1) := by decide +kernel
theorem d42_9 : decode own_b42 9 = .ok (.iload_n 3, 1) := by decide +kernel
theorem d42_10 : decode own_b42 10 = .ok (.newarray .byte, 2) := by decide +kernel
theorem d42_12 : decode own_b42 12 = .ok (.astore 4, 2) := by decide +kernel
theorem d42_14 : decode own_b42 14 = .ok (.aload_n 0, 1) := by decide +kernel
theorem d42_15 : decode own_b42 15 = .ok (.iload_n 1, 1) := by decide +kernel
theorem d42_16 : decode own_b42 16 = .ok (.aload 4, 2) := by decide +kernel
theorem d42_18 : decode own_b42 18 = .ok (.iconst 0, 1) := by decide +kernel
theorem d42_19 : decode own_b42 19 = .ok (.aload_n 0, 1) := by decide +kernel
theorem d42_20 : decode own_b42 20 = .ok (.arraylength, 1) := by decide +kernel
theorem d42_21 : decode own_b42 21 = .ok (.iload_n 1, 1) := by decide +kernel
theorem d42_22 : decode own_b42 22 = .ok (.isub, 1) := by decide +kernel
theorem d42_23 : decode own_b42 23 = .ok (.iload_n 3, 1) := by decide +kernel
theorem d42_24 : decode own_b42 24 = .ok (.invokestatic 304, 3) := by decide +kernel
theorem d42_27 : decode own_b42 27 = .ok (.invokestatic 150, 3) := by decide +kernel
theorem d42_30 : decode own_b42 30 = .ok (.aload 4, 2) := by decide +kernel
theorem d42_32 : decode own_b42 32 = .ok (.areturn, 1) := by decide +kernel
theorem pn_42 : plainFor (⟨"java/util/Arrays", "copyOfRangeByte", "([BII)[B"⟩ : MethodName) = true := by first | exact plainFor_of_name (by first | (simp [plainName, overriddenIn]; done) | decide +kernel) | decide +kernel | exact Jvm.Free.JP.mathPlain rfl (by decide +kernel)
theorem pd_42_0 : parseMethodDescriptor "(II)V" = some ⟨[.int, .int], none⟩ := by decide +kernel
theorem pd_42_1 : parseMethodDescriptor "(II)I" = some ⟨[.int, .int], some .int⟩ := by decide +kernel
theorem ef_42 (m : MethodId) (a1 : Addr) (p2 : Int32) : entryFrame m #[(.ref a1), (.int (0 : Int32)), (.int p2)] 5 = mkF m 0 #[.val (.ref a1), .val (.int (0 : Int32)), .val (.int p2), .unset, .unset] [] := by first | (simp [entryFrame, mkF, argsToLocals, Value.category]; done) | rfl
abbrev own_r42 : Room := { frames := 1, cells := 1, slots := 86, locals := 40 }
def Q42 (Z : State) (a1 : Addr) (p2 : Int32) (kb : ClassId) (N : Nat) (vs : List Value) (mm : Nat) (h0 : Heap) (n0 : Nat) (v : Option Value) (h : Heap) (L : List Loc) : Prop := ∃ r kr, v = some (.ref r) ∧ h0.size ≤ r ∧ Fr n0 L ∧ Keep h0 h [] ∧ Arv Z h r kr .byte (Int32.ofNat (mm)) vs (.int (0 : Int32))
theorem rm42 (l : Launch) (Z : State) (a0 : Array Value) (hw : ∀ d ∈ tables_1, d.before a0 Z = true) (ws : List Jvm.Cond) (a1 : Addr) (p2 : Int32) (kb : ClassId) (N : Nat) (vs : List Value) (mm : Nat) (h0 : Heap) (n0 : Nat) (Z0 : n0 ≤ h0.size) (A_1 : Arv Z h0 a1 kb .byte (Int32.ofNat (N)) vs (.int (0 : Int32))) (hp2 : p2 = Int32.ofNat mm) (hvl : vs.length = mm) (hmN : mm ≤ N) (hN : N ≤ 86) :
    MetFree l own_n34 (head1 (Jvm.Cond.code own_n34 jdk_65_method_133_code 5 (some (.array .byte)) :: ws) own_r42) (fun a U => a = #[(.ref a1), (.int (0 : Int32)), (.int p2)] ∧ Z.Warmed39 U.vm ∧ U.heap = h0) (fun _ _ _ _ _ => True) (fun _ U o U' => ∃ v L, o = .returned v ∧ Q42 Z a1 p2 kb N vs mm h0 n0 v U'.heap L ∧ FrameEnd U o U' L own_r42.cells own_r42.slots) := by
  refine MetFree.of_bodySF pn_42 hisR ?_
  intro p e s m args below meth c s₁ Bd hml0 hP hK
  obtain ⟨rfl, hZ, hh⟩ := hP
  have hx := Bd.exec
  have hby := Bd.bytes
  have hml : c.maxLocals = 5 := hml0
  have hown : s.vm.findClass "java/util/Arrays" = some m.cls := findClass_of_methodNamed Bd.named
  have hnm := (name_of_methodNamed Bd.named Bd.method).1
  have X0 : Stand p l e own_r42 s m #[(.ref a1), (.int (0 : Int32)), (.int p2)] below meth c s₁ [] 0 0 := Stand.of_body Bd
  have e0 : s₁.heap = h0 := by rw [← hh, Bd.state]; rfl
  have N0 := Fr.nil n0
  refine own_at (castTop (ef_42 m a1 p2)) ?_
  have K0 := Keep.refl h0 []
  have sg2 : own_G p e below s₁ (mkF m 2 (own_ARIIUU a1 (0 : Int32) p2) [(.int p2), (.int (0 : Int32))]) s₁ (mkF m 0 (own_ARIIUU a1 (0 : Int32) p2) []) := by
    intro t k
    refine XS.iloadN X0.here hx rfl (hb hby d42_0) rfl ?_
    refine XS.iloadN X0.here hx rfl (hb hby d42_1) rfl ?_
    exact k
  refine own_by sg2 ?_
  obtain ⟨_, _, ⟨T2, L2, k2, n2⟩, -, X2, ⟨Lc2, hQ2, l2, y2, z2⟩, st2⟩ := Jvm.LawKit.callS X0 hx (y := own_n33) hown (mvT hZ (own_w hw 221 rfl)) (mvT hZ (own_w hw 222 rfl)) (mvT hZ (own_w hw 140 rfl)) (mvT hZ (own_w hw 223 rfl)) (by decide) (backOf (W := 0) (rm43 l Z a0 hw [] p2 mm h0 n0 Z0 hp2 (by omega)) hZ (own_w hw 223 rfl) (own_w hw 140 rfl) (by decide) (by decide)) (g := (mkF m 2 (own_ARIIUU a1 (0 : Int32) p2) [(.int p2), (.int (0 : Int32))])) rfl (by rw [hml]; rfl) (argsL := [(.int (0 : Int32)), (.int p2)]) (rest := []) (lenOf pd_42_0 rfl) rfl (Nat.le_of_eq rfl) (hb hby d42_2) (fun _ _ => ⟨rfl, e0, (by decide : 0 + 0 ≤ _), (by decide : 0 + 0 ≤ _)⟩)
  dsimp only [Pt.U, Pt.locs, Pt.cells, Pt.slots] at X2 l2 y2 z2 st2 hQ2
  subst l2 y2 z2
  obtain ⟨rfl, N2q, hq2⟩ := hQ2
  have N2 := Fr.app N0 N2q
  refine own_by st2 ?_
  obtain ⟨t7, ht7⟩ : ∃ z : Int32, z = (p2 - (0 : Int32)) := ⟨_, rfl⟩
  have sg8 : own_G p e below T2 (mkF m 8 (own_ARIIUU a1 (0 : Int32) p2) [(.int t7)]) T2 (mkF m 5 (own_ARIIUU a1 (0 : Int32) p2) []) := by
    intro t k
    rw [ht7] at k
    refine XS.iloadN X2.here hx rfl (hb hby d42_5) rfl ?_
    refine XS.iloadN X2.here hx rfl (hb hby d42_6) rfl ?_
    refine XS.isub X2.here hx rfl (hb hby d42_7) rfl ?_
    exact k
  refine own_by sg8 ?_
  have nt_t7 : t7 = Int32.ofNat (mm - (0)) := ht7.trans (own_nsub hp2 rfl (by omega))
  have sg10 : own_G p e below T2 (mkF m 10 (own_ARIIIU a1 (0 : Int32) p2 t7) [(.int t7)]) T2 (mkF m 8 (own_ARIIUU a1 (0 : Int32) p2) [(.int t7)]) := by
    intro t k
    refine XS.istoreN X2.here hx rfl (hb hby d42_8) rfl (l' := (own_ARIIIU a1 (0 : Int32) p2 t7)) rfl ?_
    refine XS.iloadN X2.here hx rfl (hb hby d42_9) rfl ?_
    exact k
  refine own_by sg10 ?_
  obtain ⟨T10, h10, kc10, X10, e10, E10, A10, Ex10, st10⟩ := newPE X2 hx hZ (own_w hw 20 rfl) hq2 (g := (mkF m 10 (own_ARIIIU a1 (0 : Int32) p2 t7) [(.int t7)])) rfl (hb hby d42_10) rfl (own_nge nt_t7 (by omega)) (cap := 86) (by rw [own_ntc nt_t7 (by omega)]; omega) (by decide) (by decide) (by decide) (ad := "[B") (by decide)
  obtain ⟨b10, g10⟩ : ∃ z, z = h0.size := ⟨_, rfl⟩
  rw [← g10] at A10 st10 Ex10
  have ne_a1_b10 : a1 ≠ b10 := Nat.ne_of_lt (Nat.lt_of_lt_of_le A_1.lt (Nat.le_of_eq g10.symm))
  have g_b10 : n0 ≤ b10 := Nat.le_trans Z0 (Nat.le_of_eq g10.symm)
  have sz_b10 : h0.size ≤ b10 := Nat.le_trans K0.1 (Nat.le_of_eq g10.symm)
  have K10 := K0.ext E10
  have Z10 : n0 ≤ h10.size := Nat.le_trans Z0 E10.1
  have V10 : Arv Z h10 b10 kc10 .byte (Int32.ofNat (mm - (0))) [] (.int (0 : Int32)) := by have q := Arv.new A10 (own_nge nt_t7 (by omega)); rw [nt_t7] at q; exact q
  refine own_by st10 ?_
  have sg20 : own_G p e below T10 (mkF m 20 (own_ARIIIR a1 (0 : Int32) p2 t7 b10) [(.ref a1), (.int (0 : Int32)), (.ref b10), (.int (0 : Int32)), (.ref a1)]) T10 (mkF m 12 (own_ARIIIU a1 (0 : Int32) p2 t7) [(.ref b10)]) := by
    intro t k
    refine XS.astore X10.here hx rfl (hb hby d42_12) rfl rfl (l' := (own_ARIIIR a1 (0 : Int32) p2 t7 b10)) rfl ?_
    refine XS.aloadN X10.here hx rfl (hb hby d42_14) rfl rfl ?_
    refine XS.iloadN X10.here hx rfl (hb hby d42_15) rfl ?_
    refine XS.aload X10.here hx rfl (hb hby d42_16) rfl rfl ?_
    refine XS.iconst X10.here hx rfl (hb hby d42_18) ?_
    refine XS.aloadN X10.here hx rfl (hb hby d42_19) rfl rfl ?_
    exact k
  refine own_by sg20 ?_
  obtain ⟨cl20, Ar20, qa20, Sa20, Na20, Ha20, Ga20⟩ := id (A_1.ext E10)
  obtain ⟨t20, ht20⟩ : ∃ z : Int32, z = (Int32.ofNat (N)) := ⟨_, rfl⟩
  have sg21 : own_G p e below T10 (mkF m 21 (own_ARIIIR a1 (0 : Int32) p2 t7 b10) [(.int t20), (.int (0 : Int32)), (.ref b10), (.int (0 : Int32)), (.ref a1)]) T10 (mkF m 20 (own_ARIIIR a1 (0 : Int32) p2 t7 b10) [(.ref a1), (.int (0 : Int32)), (.ref b10), (.int (0 : Int32)), (.ref a1)]) := by
    intro t k
    rw [ht20] at k
    refine X10.arraylength hx (by rw [e10]; exact Ar20.1) (State.isArrayOf_alike hZ.alike Ar20.2.1) (g := (mkF m 20 (own_ARIIIR a1 (0 : Int32) p2 t7 b10) [(.ref a1), (.int (0 : Int32)), (.ref b10), (.int (0 : Int32)), (.ref a1)])) rfl rfl (hb hby d42_20) _ ?_
    rw [len_of Sa20 Na20]
    exact k
  refine own_by sg21 ?_
  have nt_t20 : t20 = Int32.ofNat (N) := ht20
  obtain ⟨t22, ht22⟩ : ∃ z : Int32, z = (t20 - (0 : Int32)) := ⟨_, rfl⟩
  have sg23 : own_G p e below T10 (mkF m 23 (own_ARIIIR a1 (0 : Int32) p2 t7 b10) [(.int t22), (.int (0 : Int32)), (.ref b10), (.int (0 : Int32)), (.ref a1)]) T10 (mkF m 21 (own_ARIIIR a1 (0 : Int32) p2 t7 b10) [(.int t20), (.int (0 : Int32)), (.ref b10), (.int (0 : Int32)), (.ref a1)]) := by
    intro t k
    rw [ht22] at k
    refine XS.iloadN X10.here hx rfl (hb hby d42_21) rfl ?_
    refine XS.isub X10.here hx rfl (hb hby d42_22) rfl ?_
    exact k
  refine own_by sg23 ?_
  have nt_t22 : t22 = Int32.ofNat (N - (0)) := ht22.trans (own_nsub nt_t20 rfl (by omega))
  have sg24 : own_G p e below T10 (mkF m 24 (own_ARIIIR a1 (0 : Int32) p2 t7 b10) [(.int t7), (.int t22), (.int (0 : Int32)), (.ref b10), (.int (0 : Int32)), (.ref a1)]) T10 (mkF m 23 (own_ARIIIR a1 (0 : Int32) p2 t7 b10) [(.int t22), (.int (0 : Int32)), (.ref b10), (.int (0 : Int32)), (.ref a1)]) := by
    intro t k
    refine XS.iloadN X10.here hx rfl (hb hby d42_23) rfl ?_
    exact k
  refine own_by sg24 ?_
  obtain ⟨_, _, ⟨T24, L24, k24, n24⟩, -, X24, ⟨Lc24, hQ24, l24, y24, z24⟩, st24⟩ := Jvm.LawKit.callS X10 hx (y := own_n2) hown (mvT hZ (own_w hw 142 rfl)) (mvT hZ (own_w hw 143 rfl)) (mvT hZ (own_w hw 134 rfl)) (mvT hZ (own_w hw 144 rfl)) (by decide) (backOf (W := 4) (rm28 l Z a0 hw [] t22 t7 h10 n0 Z10) hZ (own_w hw 144 rfl) (own_w hw 134 rfl) (by decide) (by decide)) (g := (mkF m 24 (own_ARIIIR a1 (0 : Int32) p2 t7 b10) [(.int t7), (.int t22), (.int (0 : Int32)), (.ref b10), (.int (0 : Int32)), (.ref a1)])) rfl (by rw [hml]; rfl) (argsL := [(.int t22), (.int t7)]) (rest := [(.int (0 : Int32)), (.ref b10), (.int (0 : Int32)), (.ref a1)]) (lenOf pd_42_1 rfl) rfl (Nat.le_of_eq rfl) (hb hby d42_24) (fun _ _ => ⟨rfl, e10, (by decide : 1 + 0 ≤ _), (by decide : 86 + 0 ≤ _)⟩)
  dsimp only [Pt.U, Pt.locs, Pt.cells, Pt.slots] at X24 l24 y24 z24 st24 hQ24
  subst l24 y24 z24
  obtain ⟨rfl, N24q, hq24⟩ := hQ24
  have N24 := Fr.app N2 N24q
  obtain ⟨c24, hc24⟩ : ∃ z : Int32, z = (if t7 < t22 then t7 else t22) := ⟨_, rfl⟩
  rw [← hc24] at st24
  have nt_c24 : c24 = Int32.ofNat (min (N - (0)) (mm - (0))) := hc24.trans (own_nmin nt_t22 nt_t7 (by omega) (by omega))
  refine own_by st24 ?_
  have Bp27 : Arv Z h10 b10 kc10 .byte (Int32.ofNat (mm - (0))) (List.replicate (mm - (0)) (.int (0 : Int32))) (.int (0 : Int32)) := (V10).pad (own_padr [] _ _)
  obtain ⟨T27, h27, Lq27, X27, e27, N27, Kq27, Aq27, st27⟩ := cpA X24 hx hZ hown (own_w hw 145 rfl) (own_w hw 148 rfl) (own_w hw 146 rfl) (own_w hw 147 rfl) hq24 (A_1.ext E10) Bp27 (us := ((List.range (min (N - (0)) (mm - (0)))).map fun i => vs.getD (0 + i) (.int (0 : Int32)))) (Or.inl ⟨rfl, rfl⟩) (own_nge (m := 0) (rfl : (0 : Int32) = Int32.ofNat (0)) (by decide)) (own_nge (m := 0) (rfl : (0 : Int32) = Int32.ofNat (0)) (by decide)) (own_nge (nt_c24) (by omega)) (by rw [own_ntc (m := 0) (rfl : (0 : Int32) = Int32.ofNat (0)) (by decide), own_ntc (nt_c24) (by omega), own_ntc (m := (N)) (rfl : Int32.ofNat (N) = Int32.ofNat (N)) (by omega)]; omega) (by rw [own_ntc (m := 0) (rfl : (0 : Int32) = Int32.ofNat (0)) (by decide), own_ntc (nt_c24) (by omega), own_ntc (m := (mm - (0))) (rfl : Int32.ofNat (mm - (0)) = Int32.ofNat (mm - (0))) (by omega)]; omega) (by rw [own_ntc (nt_c24) (by omega), own_ntc (m := 0) (rfl : (0 : Int32) = Int32.ofNat (0)) (by decide)]) (by rw [own_ntc (m := 0) (rfl : (0 : Int32) = Int32.ofNat (0)) (by decide), own_ntc (nt_c24) (by omega)]; simp; omega) N24 g_b10 (g := (mkF m 27 (own_ARIIIR a1 (0 : Int32) p2 t7 b10) [(.int c24), (.int (0 : Int32)), (.ref b10), (.int (0 : Int32)), (.ref a1)])) rfl (by rw [hml]; rfl) (rest := []) rfl (hb hby d42_27) (by decide) (W := 0) (by show 2 * 0 + _ ≤ _; exact Nat.le_of_eq rfl) (by decide)
  rw [own_ntc (m := 0) (rfl : (0 : Int32) = Int32.ofNat (0)) (by decide), own_ntc (nt_c24) (by omega)] at Aq27
  have fc := ((A_1.ext E10).keep Kq27 (fun h => ne_a1_b10 (List.mem_singleton.mp h)))
  have K27 : Keep h0 h27 [] := K10.trans Kq27 (fun x hx => by cases List.mem_singleton.mp hx; exact (Or.inr sz_b10))
  have Z27 : n0 ≤ h27.size := Nat.le_trans Z10 Kq27.1
  have V27 : Arv Z h27 b10 kc10 .byte (Int32.ofNat (mm - (0))) vs (.int (0 : Int32)) := by have q := Aq27; rw [show min (N - (0)) (mm - (0)) = mm from by omega] at q; exact q.pad (own_cpy vs (.int (0 : Int32)) mm (mm - (0)) (by omega) (by omega))
  refine own_by st27 ?_
  have sg32 : own_G p e below T27 (mkF m 32 (own_ARIIIR a1 (0 : Int32) p2 t7 b10) [(.ref b10)]) T27 (mkF m 30 (own_ARIIIR a1 (0 : Int32) p2 t7 b10) []) := by
    intro t k
    refine XS.aload X27.here hx rfl (hb hby d42_30) rfl rfl ?_
    exact k
  refine own_by sg32 ?_
  obtain ⟨fs, hr, hrun, hended, hW, hsame⟩ := X27.leave (v := some (.ref b10)) (fun h => by rw [Bd.returns] at h; cases h)
  refine ⟨_, _, ?_, hrun, hended, _, _, rfl, ?_, ⟨_, rfl⟩, hW, hsame.mono (by decide) (by decide)⟩
  · show Steps p.tables e below (T27.setTop (mkF m 32 (own_ARIIIR a1 (0 : Int32) p2 t7 b10) [(.ref b10)])) _
    jvm_step X27.here [X27.here.top, hx, (hb hby d42_32), X27.method', Bd.returns, Value.isRef, FieldType.isReference]
    first | (intro acts; rw [hr _ acts rfl rfl rfl]) | rw [hr _ _ rfl rfl rfl]
    exact Steps.refl _
  · show Q42 Z a1 p2 kb N vs mm h0 n0 _ T27.heap _
    rw [e27]
    exact ⟨_, _, rfl, sz_b10, N27, K27, V27⟩
abbrev own_b38 := jdk_65_method_132_code
theorem d38_0 : decode own_b38 0 = .ok (.iload_n 1, 1) := by decide +kernel
theorem d38_1 : decode own_b38 1 = .ok (.ifCond .ne 9, 3) := by decide +kernel
theorem d38_4 : decode own_b38 4 = .ok (.iload_n 2, 1) := by decide +kernel
theorem d38_5 : decode own_b38 5 = .ok (.aload_n 0, 1) := by decide +kernel
theorem d38_6 : decode own_b38 6 = .ok (.arraylength, 1) := by decide +kernel
theorem d38_7 : decode own_b38 7 = .ok (.if_icmp .eq 10, 3) := by decide +kernel
theorem d38_10 : decode own_b38 10 = .ok (.aload_n 0, 1) := by decide +kernel
theorem d38_11 : decode own_b38 11 = .ok (.iload_n 1, 1) := by decide +kernel
theorem d38_12 : decode own_b38 12 = .ok (.iload_n 2, 1) := by decide +kernel
theorem d38_13 : decode own_b38 13 = .ok (.invokestatic 339, 3) := by decide +kernel
theorem d38_16 : decode own_b38 16 = .ok (.areturn, 1) := by decide +kernel
theorem d38_17 : decode own_b38 17 = .ok (.aload_n 0, 1) := by decide +kernel
theorem d38_18 : decode own_b38 18 = .ok (.invokevirtual 310, 3) := by decide +kernel
theorem d38_21 : decode own_b38 21 = .ok (.checkcast 311, 3) := by decide +kernel
theorem d38_24 : decode own_b38 24 = .ok (.areturn, 1) := by decide +kernel
theorem pn_38 : plainFor (⟨"java/util/Arrays", "copyOfRange", "([BII)[B"⟩ : MethodName) = true := by first | exact plainFor_of_name (by first | (simp [plainName, overriddenIn]; done) | decide +kernel) | decide +kernel | exact Jvm.Free.JP.mathPlain rfl (by decide +kernel)
theorem pd_38_0 : parseMethodDescriptor "([BII)[B" = some ⟨[(.array .byte), .int, .int], some (.array .byte)⟩ := by decide +kernel
theorem ef_38 (m : MethodId) (a1 : Addr) (p2 : Int32) : entryFrame m #[(.ref a1), (.int (0 : Int32)), (.int p2)] 3 = mkF m 0 #[.val (.ref a1), .val (.int (0 : Int32)), .val (.int p2)] [] := by first | (simp [entryFrame, mkF, argsToLocals, Value.category]; done) | rfl
abbrev own_r38 : Room := { frames := 2, cells := 1, slots := 86, locals := 56 }
def Q38 (Z : State) (a1 : Addr) (p2 : Int32) (kb : ClassId) (N : Nat) (vs : List Value) (mm : Nat) (h0 : Heap) (n0 : Nat) (v : Option Value) (h : Heap) (L : List Loc) : Prop := ∃ r kr, v = some (.ref r) ∧ h0.size ≤ r ∧ Fr n0 L ∧ Keep h0 h [] ∧ Arv Z h r kr .byte (Int32.ofNat (mm)) vs (.int (0 : Int32))
theorem rm38 (l : Launch) (Z : State) (a0 : Array Value) (hw : ∀ d ∈ tables_1, d.before a0 Z = true) (ws : List Jvm.Cond) (a1 : Addr) (p2 : Int32) (kb : ClassId) (N : Nat) (vs : List Value) (mm : Nat) (h0 : Heap) (n0 : Nat) (Z0 : n0 ≤ h0.size) (A_1 : Arv Z h0 a1 kb .byte (Int32.ofNat (N)) vs (.int (0 : Int32))) (E_1 : Exa Z h0 a1 "[B") (hp2 : p2 = Int32.ofNat mm) (hvl : vs.length = mm) (hmN : mm ≤ N) (hN : N ≤ 86) :
    MetFree l own_n38 (head1 (Jvm.Cond.code own_n38 jdk_65_method_132_code 3 (some (.array .byte)) :: ws) own_r38) (fun a U => a = #[(.ref a1), (.int (0 : Int32)), (.int p2)] ∧ Z.Warmed39 U.vm ∧ U.heap = h0) (fun _ _ _ _ _ => True) (fun _ U o U' => ∃ v L, o = .returned v ∧ Q38 Z a1 p2 kb N vs mm h0 n0 v U'.heap L ∧ FrameEnd U o U' L own_r38.cells own_r38.slots) := by
  refine MetFree.of_bodySF pn_38 hisR ?_
  intro p e s m args below meth c s₁ Bd hml0 hP hK
  obtain ⟨rfl, hZ, hh⟩ := hP
  have hx := Bd.exec
  have hby := Bd.bytes
  have hml : c.maxLocals = 3 := hml0
  have hown : s.vm.findClass "java/util/Arrays" = some m.cls := findClass_of_methodNamed Bd.named
  have hnm := (name_of_methodNamed Bd.named Bd.method).1
  have X0 : Stand p l e own_r38 s m #[(.ref a1), (.int (0 : Int32)), (.int p2)] below meth c s₁ [] 0 0 := Stand.of_body Bd
  have e0 : s₁.heap = h0 := by rw [← hh, Bd.state]; rfl
  have N0 := Fr.nil n0
  refine own_at (castTop (ef_38 m a1 p2)) ?_
  have K0 := Keep.refl h0 []
  have sg6 : own_G p e below s₁ (mkF m 6 #[.val (.ref a1), .val (.int (0 : Int32)), .val (.int p2)] [(.ref a1), (.int p2)]) s₁ (mkF m 0 #[.val (.ref a1), .val (.int (0 : Int32)), .val (.int p2)] []) := by
    intro t k
    refine XS.iloadN X0.here hx rfl (hb hby d38_0) rfl ?_
    refine XS.ifNo X0.here hx rfl (hb hby d38_1) rfl ((if0 _ _).trans (teq (by decide : (0 : Int32) = (0 : Int32))).2) ?_
    refine XS.iloadN X0.here hx rfl (hb hby d38_4) rfl ?_
    refine XS.aloadN X0.here hx rfl (hb hby d38_5) rfl rfl ?_
    exact k
  refine own_by sg6 ?_
  obtain ⟨cl6, Ar6, qa6, Sa6, Na6, Ha6, Ga6⟩ := id A_1
  obtain ⟨t6, ht6⟩ : ∃ z : Int32, z = (Int32.ofNat (N)) := ⟨_, rfl⟩
  have sg7 : own_G p e below s₁ (mkF m 7 #[.val (.ref a1), .val (.int (0 : Int32)), .val (.int p2)] [(.int t6), (.int p2)]) s₁ (mkF m 6 #[.val (.ref a1), .val (.int (0 : Int32)), .val (.int p2)] [(.ref a1), (.int p2)]) := by
    intro t k
    rw [ht6] at k
    refine X0.arraylength hx (by rw [e0]; exact Ar6.1) (State.isArrayOf_alike hZ.alike Ar6.2.1) (g := (mkF m 6 #[.val (.ref a1), .val (.int (0 : Int32)), .val (.int p2)] [(.ref a1), (.int p2)])) rfl rfl (hb hby d38_6) _ ?_
    rw [len_of Sa6 Na6]
    exact k
  refine own_by sg7 ?_
  have nt_t6 : t6 = Int32.ofNat (N) := ht6
  by_cases hc7 : p2 = t6
  · have hn_hc7 : mm = N := (own_neq hp2 nt_t6 (by omega) (by omega)).mp hc7
    have sg18 : own_G p e below s₁ (mkF m 18 #[.val (.ref a1), .val (.int (0 : Int32)), .val (.int p2)] [(.ref a1)]) s₁ (mkF m 7 #[.val (.ref a1), .val (.int (0 : Int32)), .val (.int p2)] [(.int t6), (.int p2)]) := by
      intro t k
      refine XS.icmpYes X0.here hx rfl (pc0 := 7) (pc' := 17) rfl (hb hby d38_7) rfl (teq hc7).1 (by decide) (by decide) ?_
      refine XS.aloadN X0.here hx rfl (hb hby d38_17) rfl rfl ?_
      exact k
    refine own_by sg18 ?_
    obtain ⟨T18, h18, X18, e18, E18, Ar18, A18, st18⟩ := cloneH X0 hx hZ hown (own_w hw 197 rfl) (own_w hw 198 rfl) (own_w hw 202 rfl) (own_w hw 200 rfl) (own_w hw 201 rfl) (own_w hw 203 rfl) e0 (A_1).arh E_1 (g := (mkF m 18 #[.val (.ref a1), .val (.int (0 : Int32)), .val (.int p2)] [(.ref a1)])) rfl (by rw [hml]; rfl) rfl (hb hby d38_18) (by decide) (W := 0) (cap := 86) (by show 2 * 0 + _ ≤ _; exact Nat.le_of_eq rfl) (by decide) (by rw [own_ntc (m := (N)) (rfl : Int32.ofNat (N) = Int32.ofNat (N)) (by omega)]; omega) (by decide) (by decide)
    obtain ⟨b18, g18⟩ : ∃ z, z = h0.size := ⟨_, rfl⟩
    rw [← g18] at Ar18 A18 st18
    have V18 : Arv Z h18 b18 kb .byte (Int32.ofNat (N)) vs (.int (0 : Int32)) := Ar18
    have ne_a1_b18 : a1 ≠ b18 := Nat.ne_of_lt (Nat.lt_of_lt_of_le A_1.lt (Nat.le_of_eq g18.symm))
    have g_b18 : n0 ≤ b18 := Nat.le_trans Z0 (Nat.le_of_eq g18.symm)
    have sz_b18 : h0.size ≤ b18 := Nat.le_trans K0.1 (Nat.le_of_eq g18.symm)
    have K18 := K0.ext E18
    have Z18 : n0 ≤ h18.size := Nat.le_trans Z0 E18.1
    refine own_by st18 ?_
    obtain ⟨T21, X21, e21, st21⟩ := castY X18 hx hZ hown (own_w hw 204 rfl) e18 (Ins.self A18) (g := (mkF m 21 #[.val (.ref a1), .val (.int (0 : Int32)), .val (.int p2)] [(.ref b18)])) rfl rfl (hb hby d38_21)
    refine own_by st21 ?_
    obtain ⟨fs, hr, hrun, hended, hW, hsame⟩ := X21.leave (v := some (.ref b18)) (fun h => by rw [Bd.returns] at h; cases h)
    refine ⟨_, _, ?_, hrun, hended, _, _, rfl, ?_, ⟨_, rfl⟩, hW, hsame.mono (by decide) (by decide)⟩
    · show Steps p.tables e below (T21.setTop (mkF m 24 #[.val (.ref a1), .val (.int (0 : Int32)), .val (.int p2)] [(.ref b18)])) _
      jvm_step X21.here [X21.here.top, hx, (hb hby d38_24), X21.method', Bd.returns, Value.isRef, FieldType.isReference]
      first | (intro acts; rw [hr _ acts rfl rfl rfl]) | rw [hr _ _ rfl rfl rfl]
      exact Steps.refl _
    · show Q38 Z a1 p2 kb N vs mm h0 n0 _ T21.heap _
      rw [e21]
      exact ⟨_, _, rfl, sz_b18, N0, K18, (by have q := V18; rw [show N = mm from by omega] at q; exact q)⟩
  · have hn_hc7 : ¬ (mm = N) := (not_congr (own_neq hp2 nt_t6 (by omega) (by omega))).mp hc7
    have sg13 : own_G p e below s₁ (mkF m 13 #[.val (.ref a1), .val (.int (0 : Int32)), .val (.int p2)] [(.int p2), (.int (0 : Int32)), (.ref a1)]) s₁ (mkF m 7 #[.val (.ref a1), .val (.int (0 : Int32)), .val (.int p2)] [(.int t6), (.int p2)]) := by
      intro t k
      refine XS.icmpNo X0.here hx rfl (hb hby d38_7) rfl (feq hc7).1 ?_
      refine XS.aloadN X0.here hx rfl (hb hby d38_10) rfl rfl ?_
      refine XS.iloadN X0.here hx rfl (hb hby d38_11) rfl ?_
      refine XS.iloadN X0.here hx rfl (hb hby d38_12) rfl ?_
      exact k
    refine own_by sg13 ?_
    obtain ⟨_, _, ⟨T13, L13, k13, n13⟩, -, X13, ⟨Lc13, hQ13, l13, y13, z13⟩, st13⟩ := Jvm.LawKit.callS X0 hx (y := own_n34) hown (mvT hZ (own_w hw 218 rfl)) (mvT hZ (own_w hw 219 rfl)) (mvT hZ (own_w hw 140 rfl)) (mvT hZ (own_w hw 220 rfl)) (by decide) (backOf (W := 0) (rm42 l Z a0 hw [] a1 p2 kb N vs mm h0 n0 Z0 A_1 hp2 hvl hmN hN) hZ (own_w hw 220 rfl) (own_w hw 140 rfl) (by decide) (by decide)) (g := (mkF m 13 #[.val (.ref a1), .val (.int (0 : Int32)), .val (.int p2)] [(.int p2), (.int (0 : Int32)), (.ref a1)])) rfl (by rw [hml]; rfl) (argsL := [(.ref a1), (.int (0 : Int32)), (.int p2)]) (rest := []) (lenOf pd_38_0 rfl) rfl (Nat.le_of_eq rfl) (hb hby d38_13) (fun _ _ => ⟨rfl, e0, (by decide : 0 + 1 ≤ _), (by decide : 0 + 86 ≤ _)⟩)
    dsimp only [Pt.U, Pt.locs, Pt.cells, Pt.slots] at X13 l13 y13 z13 st13 hQ13
    subst l13 y13 z13
    obtain ⟨r13, kr13, rfl, ge13, N13q, Kq13, Aq13⟩ := hQ13
    have N13 := Fr.app N0 N13q
    have ne_a1_r13 : a1 ≠ r13 := Nat.ne_of_lt (Nat.lt_of_lt_of_le A_1.lt ge13)
    have g_r13 : n0 ≤ r13 := Nat.le_trans Z0 ge13
    have sz_r13 : h0.size ≤ r13 := Nat.le_trans K0.1 ge13
    have K13 : Keep h0 T13.heap [] := K0.trans Kq13 (fun x hx => nomatch hx)
    have Z13 : n0 ≤ T13.heap.size := Nat.le_trans Z0 Kq13.1
    refine own_by st13 ?_
    obtain ⟨fs, hr, hrun, hended, hW, hsame⟩ := X13.leave (v := some (.ref r13)) (fun h => by rw [Bd.returns] at h; cases h)
    refine ⟨_, _, ?_, hrun, hended, _, _, rfl, ?_, ⟨_, rfl⟩, hW, hsame.mono (by decide) (by decide)⟩
    · show Steps p.tables e below (T13.setTop (mkF m 16 #[.val (.ref a1), .val (.int (0 : Int32)), .val (.int p2)] [(.ref r13)])) _
      jvm_step X13.here [X13.here.top, hx, (hb hby d38_16), X13.method', Bd.returns, Value.isRef, FieldType.isReference]
      first | (intro acts; rw [hr _ acts rfl rfl rfl]) | rw [hr _ _ rfl rfl rfl]
      exact Steps.refl _
    · show Q38 Z a1 p2 kb N vs mm h0 n0 _ T13.heap _
      exact ⟨_, _, rfl, sz_r13, N13, K13, Aq13⟩
abbrev own_b35 := jdk_68_method_64_code
theorem d35_0 : decode own_b35 0 = .ok (.aload_n 0, 1) := by decide +kernel
theorem d35_1 : decode own_b35 1 = .ok (.getfield 15, 3) := by decide +kernel
theorem d35_4 : decode own_b35 4 = .ok (.areturn, 1) := by decide +kernel
theorem pn_35 : plainFor (⟨"java/lang/AbstractStringBuilder", "getValue", "()[B"⟩ : MethodName) = true := by first | exact plainFor_of_name (by first | (simp [plainName, overriddenIn]; done) | decide +kernel) | decide +kernel | exact Jvm.Free.JP.mathPlain rfl (by decide +kernel)
theorem ef_35 (m : MethodId) (a1 : Addr) : entryFrame m #[(.ref a1)] 1 = mkF m 0 #[.val (.ref a1)] [] := by first | (simp [entryFrame, mkF, argsToLocals, Value.category]; done) | rfl
abbrev own_r35 : Room := { frames := 0, cells := 0, slots := 0, locals := 0 }
def Q35 (Z : State) (a1 : Addr) (vb : Addr) (h0 : Heap) (n0 : Nat) (v : Option Value) (h : Heap) (L : List Loc) : Prop := v = some (.ref vb) ∧ Fr n0 L ∧ h = h0
theorem rm35 (l : Launch) (Z : State) (a0 : Array Value) (hw : ∀ d ∈ tables_1, d.before a0 Z = true) (ws : List Jvm.Cond) (a1 : Addr) (vb : Addr) (h0 : Heap) (n0 : Nat) (Z0 : n0 ≤ h0.size) (F_v : Fld Z h0 a1 "java/lang/AbstractStringBuilder" "value" "[B" (.ref vb)) :
    MetFree l own_n36 (head1 (Jvm.Cond.code own_n36 jdk_68_method_64_code 1 (some (.array .byte)) :: ws) own_r35) (fun a U => a = #[(.ref a1)] ∧ Z.Warmed39 U.vm ∧ U.heap = h0) (fun _ _ _ _ _ => True) (fun _ U o U' => ∃ v L, o = .returned v ∧ Q35 Z a1 vb h0 n0 v U'.heap L ∧ FrameEnd U o U' L own_r35.cells own_r35.slots) := by
  refine MetFree.of_bodySF pn_35 hisR ?_
  intro p e s m args below meth c s₁ Bd hml0 hP hK
  obtain ⟨rfl, hZ, hh⟩ := hP
  have hx := Bd.exec
  have hby := Bd.bytes
  have hml : c.maxLocals = 1 := hml0
  have hown : s.vm.findClass "java/lang/AbstractStringBuilder" = some m.cls := findClass_of_methodNamed Bd.named
  have hnm := (name_of_methodNamed Bd.named Bd.method).1
  have X0 : Stand p l e own_r35 s m #[(.ref a1)] below meth c s₁ [] 0 0 := Stand.of_body Bd
  have e0 : s₁.heap = h0 := by rw [← hh, Bd.state]; rfl
  have N0 := Fr.nil n0
  refine own_at (castTop (ef_35 m a1)) ?_
  have K0 := Keep.refl h0 []
  have sg1 : own_G p e below s₁ (mkF m 1 #[.val (.ref a1)] [(.ref a1)]) s₁ (mkF m 0 #[.val (.ref a1)] []) := by
    intro t k
    refine XS.aloadN X0.here hx rfl (hb hby d35_0) rfl rfl ?_
    exact k
  refine own_by sg1 ?_
  obtain ⟨T1, X1, e1, st1⟩ := getF X0 hx hZ hown (host := "") (Or.inl (own_w hw 59 rfl)) Via.refl e0 F_v (g := (mkF m 1 #[.val (.ref a1)] [(.ref a1)])) rfl rfl (hb hby d35_1)
  refine own_by st1 ?_
  obtain ⟨fs, hr, hrun, hended, hW, hsame⟩ := X1.leave (v := some (.ref vb)) (fun h => by rw [Bd.returns] at h; cases h)
  refine ⟨_, _, ?_, hrun, hended, _, _, rfl, ?_, ⟨_, rfl⟩, hW, hsame.mono (by decide) (by decide)⟩
  · show Steps p.tables e below (T1.setTop (mkF m 4 #[.val (.ref a1)] [(.ref vb)])) _
    jvm_step X1.here [X1.here.top, hx, (hb hby d35_4), X1.method', Bd.returns, Value.isRef, FieldType.isReference]
    first | (intro acts; rw [hr _ acts rfl rfl rfl]) | rw [hr _ _ rfl rfl rfl]
    exact Steps.refl _
  · show Q35 Z a1 vb h0 n0 _ T1.heap _
    rw [e1]
    exact ⟨rfl, N0, rfl⟩
abbrev own_b37 := jdk_68_method_6_code
theorem d37_0 : decode own_b37 0 = .ok (.aload_n 0, 1) := by decide +kernel
theorem d37_1 : decode own_b37 1 = .ok (.getfield 79, 3) := by decide +kernel
theorem d37_4 : decode own_b37 4 = .ok (.ireturn, 1) := by decide +kernel
theorem pn_37 : plainFor (⟨"java/lang/AbstractStringBuilder", "length", "()I"⟩ : MethodName) = true := by first | exact plainFor_of_name (by first | (simp [plainName, overriddenIn]; done) | decide +kernel) | decide +kernel | exact Jvm.Free.JP.mathPlain rfl (by decide +kernel)
theorem ef_37 (m : MethodId) (a1 : Addr) : entryFrame m #[(.ref a1)] 1 = mkF m 0 #[.val (.ref a1)] [] := by first | (simp [entryFrame, mkF, argsToLocals, Value.category]; done) | rfl
abbrev own_r37 : Room := { frames := 0, cells := 0, slots := 0, locals := 0 }
def Q37 (Z : State) (a1 : Addr) (cn : Int32) (h0 : Heap) (n0 : Nat) (v : Option Value) (h : Heap) (L : List Loc) : Prop := v = some (.int cn) ∧ Fr n0 L ∧ h = h0
theorem rm37 (l : Launch) (Z : State) (a0 : Array Value) (hw : ∀ d ∈ tables_1, d.before a0 Z = true) (ws : List Jvm.Cond) (a1 : Addr) (cn : Int32) (h0 : Heap) (n0 : Nat) (Z0 : n0 ≤ h0.size) (F_n : Fld Z h0 a1 "java/lang/AbstractStringBuilder" "count" "I" (.int cn)) :
    MetFree l own_n35 (head1 (Jvm.Cond.code own_n35 jdk_68_method_6_code 1 (some .int) :: ws) own_r37) (fun a U => a = #[(.ref a1)] ∧ Z.Warmed39 U.vm ∧ U.heap = h0) (fun _ _ _ _ _ => True) (fun _ U o U' => ∃ v L, o = .returned v ∧ Q37 Z a1 cn h0 n0 v U'.heap L ∧ FrameEnd U o U' L own_r37.cells own_r37.slots) := by
  refine MetFree.of_bodySF pn_37 hisR ?_
  intro p e s m args below meth c s₁ Bd hml0 hP hK
  obtain ⟨rfl, hZ, hh⟩ := hP
  have hx := Bd.exec
  have hby := Bd.bytes
  have hml : c.maxLocals = 1 := hml0
  have hown : s.vm.findClass "java/lang/AbstractStringBuilder" = some m.cls := findClass_of_methodNamed Bd.named
  have hnm := (name_of_methodNamed Bd.named Bd.method).1
  have X0 : Stand p l e own_r37 s m #[(.ref a1)] below meth c s₁ [] 0 0 := Stand.of_body Bd
  have e0 : s₁.heap = h0 := by rw [← hh, Bd.state]; rfl
  have N0 := Fr.nil n0
  refine own_at (castTop (ef_37 m a1)) ?_
  have K0 := Keep.refl h0 []
  have sg1 : own_G p e below s₁ (mkF m 1 #[.val (.ref a1)] [(.ref a1)]) s₁ (mkF m 0 #[.val (.ref a1)] []) := by
    intro t k
    refine XS.aloadN X0.here hx rfl (hb hby d37_0) rfl rfl ?_
    exact k
  refine own_by sg1 ?_
  obtain ⟨T1, X1, e1, st1⟩ := getF X0 hx hZ hown (host := "") (Or.inl (own_w hw 73 rfl)) Via.refl e0 F_n (g := (mkF m 1 #[.val (.ref a1)] [(.ref a1)])) rfl rfl (hb hby d37_1)
  refine own_by st1 ?_
  obtain ⟨fs, hr, hrun, hended, hW, hsame⟩ := X1.leave (v := some (.int cn)) (fun h => by rw [Bd.returns] at h; cases h)
  refine ⟨_, _, ?_, hrun, hended, _, _, rfl, ?_, ⟨_, rfl⟩, hW, hsame.mono (by decide) (by decide)⟩
  · exact retI X1 hx Bd.returns (hb hby d37_4) hr
  · show Q37 Z a1 cn h0 n0 _ T1.heap _
    rw [e1]
    exact ⟨rfl, N0, rfl⟩
abbrev own_b36 := jdk_67_method_93_code
theorem d36_0 : decode own_b36 0 = .ok (.aload_n 0, 1) := by decide +kernel
theorem d36_1 : decode own_b36 1 = .ok (.invokespecial 343, 3) := by decide +kernel
theorem d36_4 : decode own_b36 4 = .ok (.ireturn, 1) := by decide +kernel
theorem pn_36 : plainFor (⟨"java/lang/StringBuilder", "length", "()I"⟩ : MethodName) = true := by first | exact plainFor_of_name (by first | (simp [plainName, overriddenIn]; done) | decide +kernel) | decide +kernel | exact Jvm.Free.JP.mathPlain rfl (by decide +kernel)
theorem pd_36_0 : parseMethodDescriptor "()I" = some ⟨[], some .int⟩ := by decide +kernel
theorem ef_36 (m : MethodId) (a1 : Addr) : entryFrame m #[(.ref a1)] 1 = mkF m 0 #[.val (.ref a1)] [] := by first | (simp [entryFrame, mkF, argsToLocals, Value.category]; done) | rfl
abbrev own_r36 : Room := { frames := 1, cells := 0, slots := 0, locals := 12 }
def Q36 (Z : State) (a1 : Addr) (cn : Int32) (h0 : Heap) (n0 : Nat) (v : Option Value) (h : Heap) (L : List Loc) : Prop := v = some (.int cn) ∧ Fr n0 L ∧ h = h0
theorem rm36 (l : Launch) (Z : State) (a0 : Array Value) (hw : ∀ d ∈ tables_1, d.before a0 Z = true) (ws : List Jvm.Cond) (a1 : Addr) (cn : Int32) (h0 : Heap) (n0 : Nat) (Z0 : n0 ≤ h0.size) (F_n : Fld Z h0 a1 "java/lang/AbstractStringBuilder" "count" "I" (.int cn)) (E_b : Exa Z h0 a1 "java/lang/StringBuilder") :
    MetFree l own_n37 (head1 (Jvm.Cond.code own_n37 jdk_67_method_93_code 1 (some .int) :: ws) own_r36) (fun a U => a = #[(.ref a1)] ∧ Z.Warmed39 U.vm ∧ U.heap = h0) (fun _ _ _ _ _ => True) (fun _ U o U' => ∃ v L, o = .returned v ∧ Q36 Z a1 cn h0 n0 v U'.heap L ∧ FrameEnd U o U' L own_r36.cells own_r36.slots) := by
  refine MetFree.of_bodySF pn_36 hisR ?_
  intro p e s m args below meth c s₁ Bd hml0 hP hK
  obtain ⟨rfl, hZ, hh⟩ := hP
  have hx := Bd.exec
  have hby := Bd.bytes
  have hml : c.maxLocals = 1 := hml0
  have hown : s.vm.findClass "java/lang/StringBuilder" = some m.cls := findClass_of_methodNamed Bd.named
  have hnm := (name_of_methodNamed Bd.named Bd.method).1
  have X0 : Stand p l e own_r36 s m #[(.ref a1)] below meth c s₁ [] 0 0 := Stand.of_body Bd
  have e0 : s₁.heap = h0 := by rw [← hh, Bd.state]; rfl
  have N0 := Fr.nil n0
  refine own_at (castTop (ef_36 m a1)) ?_
  have K0 := Keep.refl h0 []
  have sg1 : own_G p e below s₁ (mkF m 1 #[.val (.ref a1)] [(.ref a1)]) s₁ (mkF m 0 #[.val (.ref a1)] []) := by
    intro t k
    refine XS.aloadN X0.here hx rfl (hb hby d36_0) rfl rfl ?_
    exact k
  refine own_by sg1 ?_
  obtain ⟨_, _, ⟨T1, L1, k1, n1⟩, -, X1, ⟨Lc1, hQ1, l1, y1, z1⟩, st1⟩ := superBack X0 hx hZ (y := own_n35) hown (own_w hw 191 rfl) (own_sameM (z := own_n4) (own_w hw 187 rfl) (own_w hw 78 rfl) rfl (by decide)) (own_w hw 187 rfl) (own_w hw 70 rfl) (by decide) (backOf (W := 0) (rm37 l Z a0 hw [] a1 cn h0 n0 Z0 F_n) hZ (own_w hw 192 rfl) (own_w hw 55 rfl) (by decide) (by decide)) e0 (Ins.self E_b) (g := (mkF m 1 #[.val (.ref a1)] [(.ref a1)])) rfl (by rw [hml]; rfl) (own_w hw 192 rfl) (argsL := []) (rest := []) (lenOf pd_36_0 rfl) rfl (Nat.le_of_eq rfl) (hb hby d36_1) (fun _ _ => ⟨rfl, e0, (by decide : 0 + 0 ≤ _), (by decide : 0 + 0 ≤ _)⟩)
  dsimp only [Pt.U, Pt.locs, Pt.cells, Pt.slots] at X1 l1 y1 z1 st1 hQ1
  subst l1 y1 z1
  obtain ⟨rfl, N1q, hq1⟩ := hQ1
  have N1 := Fr.app N0 N1q
  refine own_by (fun t k => st1.trans k) ?_
  obtain ⟨fs, hr, hrun, hended, hW, hsame⟩ := X1.leave (v := some (.int cn)) (fun h => by rw [Bd.returns] at h; cases h)
  refine ⟨_, _, ?_, hrun, hended, _, _, rfl, ?_, ⟨_, rfl⟩, hW, hsame.mono (by decide) (by decide)⟩
  · exact retI X1 hx Bd.returns (hb hby d36_4) hr
  · show Q36 Z a1 cn h0 n0 _ T1.heap _
    rw [hq1]
    exact ⟨rfl, N1, rfl⟩
abbrev own_b34 := jdk_42_method_150_code
theorem d34_0 : decode own_b34 0 = .ok (.aload_n 0, 1) := by decide +kernel
theorem d34_1 : decode own_b34 1 = .ok (.invokespecial 1, 3) := by decide +kernel
theorem d34_4 : decode own_b34 4 = .ok (.aload_n 1, 1) := by decide +kernel
theorem d34_5 : decode own_b34 5 = .ok (.invokevirtual 552, 3) := by decide +kernel
theorem d34_8 : decode own_b34 8 = .ok (.astore_n 3, 1) := by decide +kernel
theorem d34_9 : decode own_b34 9 = .ok (.aload_n 1, 1) := by decide +kernel
theorem d34_10 : decode own_b34 10 = .ok (.invokevirtual 549, 3) := by decide +kernel
theorem d34_13 : decode own_b34 13 = .ok (.istore 4, 2) := by decide +kernel
theorem d34_15 : decode own_b34 15 = .ok (.aload_n 1, 1) := by decide +kernel
theorem d34_16 : decode own_b34 16 = .ok (.invokevirtual 1047, 3) := by decide +kernel
theorem d34_19 : decode own_b34 19 = .ok (.ifCond .eq 22, 3) := by decide +kernel
theorem d34_22 : decode own_b34 22 = .ok (.aload_n 0, 1) := by decide +kernel
theorem d34_23 : decode own_b34 23 = .ok (.iconst 0, 1) := by decide +kernel
theorem d34_24 : decode own_b34 24 = .ok (.putfield 15, 3) := by decide +kernel
theorem d34_27 : decode own_b34 27 = .ok (.aload_n 0, 1) := by decide +kernel
theorem d34_28 : decode own_b34 28 = .ok (.aload_n 3, 1) := by decide +kernel
theorem d34_29 : decode own_b34 29 = .ok (.iconst 0, 1) := by decide +kernel
theorem d34_30 : decode own_b34 30 = .ok (.iload 4, 2) := by decide +kernel
theorem d34_32 : decode own_b34 32 = .ok (.invokestatic 54, 3) := by decide +kernel
theorem d34_35 : decode own_b34 35 = .ok (.putfield 9, 3) := by decide +kernel
theorem d34_38 : decode own_b34 38 = .ok (.goto 59, 3) := by decide +kernel
theorem d34_41 : decode own_b34 41 = .ok (.getstatic 38, 3) := by decide +kernel
theorem d34_44 : decode own_b34 44 = .ok (.ifCond .eq 35, 3) := by decide +kernel
theorem d34_47 : decode own_b34 47 = .ok (.aload_n 1, 1) := by decide +kernel
theorem d34_48 : decode own_b34 48 = .ok (.getfield 1048, 3) := by decide +kernel
theorem d34_51 : decode own_b34 51 = .ok (.ifCond .eq 28, 3) := by decide +kernel
theorem d34_79 : decode own_b34 79 = .ok (.aload_n 0, 1) := by decide +kernel
theorem d34_80 : decode own_b34 80 = .ok (.iconst 1, 1) := by decide +kernel
theorem d34_81 : decode own_b34 81 = .ok (.putfield 15, 3) := by decide +kernel
theorem d34_84 : decode own_b34 84 = .ok (.aload_n 0, 1) := by decide +kernel
theorem d34_85 : decode own_b34 85 = .ok (.aload_n 3, 1) := by decide +kernel
theorem d34_86 : decode own_b34 86 = .ok (.iconst 0, 1) := by decide +kernel
theorem d34_87 : decode own_b34 87 = .ok (.iload 4, 2) := by decide +kernel
theorem d34_89 : decode own_b34 89 = .ok (.iconst 1, 1) := by decide +kernel
theorem d34_90 : decode own_b34 90 = .ok (.ishl, 1) := by decide +kernel
theorem d34_91 : decode own_b34 91 = .ok (.invokestatic 54, 3) := by decide +kernel
theorem d34_94 : decode own_b34 94 = .ok (.putfield 9, 3) := by decide +kernel
theorem d34_97 : decode own_b34 97 = .ok (.return_, 1) := by decide +kernel
theorem pn_34 : plainFor (⟨"java/lang/String", "<init>", "(Ljava/lang/AbstractStringBuilder;Ljava/lang/Void;)V"⟩ : MethodName) = true := by first | exact plainFor_of_name (by first | (simp [plainName, overriddenIn]; done) | decide +kernel) | decide +kernel | exact Jvm.Free.JP.mathPlain rfl (by decide +kernel)
theorem pd_34_0 : parseMethodDescriptor "()[B" = some ⟨[], some (.array .byte)⟩ := by decide +kernel
theorem pd_34_1 : parseMethodDescriptor "()I" = some ⟨[], some .int⟩ := by decide +kernel
theorem pd_34_2 : parseMethodDescriptor "()Z" = some ⟨[], some .boolean⟩ := by decide +kernel
theorem pd_34_3 : parseMethodDescriptor "([BII)[B" = some ⟨[(.array .byte), .int, .int], some (.array .byte)⟩ := by decide +kernel
theorem ef_34 (m : MethodId) (a1 : Addr) (a2 : Addr) : entryFrame m #[(.ref a1), (.ref a2), .null] 5 = mkF m 0 #[.val (.ref a1), .val (.ref a2), .val .null, .unset, .unset] [] := by first | (simp [entryFrame, mkF, argsToLocals, Value.category]; done) | rfl
abbrev own_r34 : Room := { frames := 3, cells := 1, slots := 86, locals := 71 }
def Q34 (Z : State) (a1 : Addr) (a2 : Addr) (vb : Addr) (kb : ClassId) (N : Nat) (cd : Int32) (cs : List Int32) (gz : Int32) (gf : Value) (h0 : Heap) (n0 : Nat) (v : Option Value) (h : Heap) (L : List Loc) : Prop := v = none ∧ Fr n0 L ∧ Keep h0 h [a1] ∧ ∃ (t : Addr) (kt : ClassId) (M : Nat), h0.size ≤ t ∧ own_T Z h a1 t kt M cd cs
theorem rm34 (l : Launch) (Z : State) (a0 : Array Value) (hw : ∀ d ∈ tables_1, d.before a0 Z = true) (ws : List Jvm.Cond) (a1 : Addr) (a2 : Addr) (vb : Addr) (kb : ClassId) (N : Nat) (cd : Int32) (cs : List Int32) (gz : Int32) (gf : Value) (h0 : Heap) (n0 : Nat) (Z0 : n0 ≤ h0.size) (O : Old Z n0 h0) (hst : own_ST Z gz gf) (E_a1 : Exa Z h0 a1 "java/lang/String") (F_v : Fld Z h0 a1 "java/lang/String" "value" "[B" .null) (F_c : Fld Z h0 a1 "java/lang/String" "coder" "B" (.int (0 : Int32))) (g_a1 : n0 ≤ a1) (BB : own_B Z h0 a2 vb kb N cd cs) (hcd : cd = (0 : Int32) ∨ cd = (1 : Int32)) (hcap : (cd = (0 : Int32) → cs.length ≤ N ∧ N ≤ 42) ∧ (cd = (1 : Int32) → 2 * (cs.length) ≤ N ∧ N ≤ 86)) (hlat : cd = (0 : Int32) → own_lat cs) (hcs : ∀ x ∈ cs, ¬ x < 0 ∧ ¬ (65535 : Int32) < x) (hlen : cs.length ≤ 21) :
    MetFree l own_n39 (head1 (Jvm.Cond.code own_n39 jdk_42_method_150_code 5 none :: ws) own_r34) (fun a U => a = #[(.ref a1), (.ref a2), .null] ∧ Z.Warmed39 U.vm ∧ U.heap = h0) (fun _ _ _ _ _ => True) (fun _ U o U' => ∃ v L, o = .returned v ∧ Q34 Z a1 a2 vb kb N cd cs gz gf h0 n0 v U'.heap L ∧ FrameEnd U o U' L own_r34.cells own_r34.slots) := by
  refine MetFree.of_bodySF pn_34 hisR ?_
  intro p e s m args below meth c s₁ Bd hml0 hP hK
  obtain ⟨rfl, hZ, hh⟩ := hP
  have hx := Bd.exec
  have hby := Bd.bytes
  have hml : c.maxLocals = 5 := hml0
  have hown : s.vm.findClass "java/lang/String" = some m.cls := findClass_of_methodNamed Bd.named
  have hnm := (name_of_methodNamed Bd.named Bd.method).1
  have X0 : Stand p l e own_r34 s m #[(.ref a1), (.ref a2), .null] below meth c s₁ [] 0 0 := Stand.of_body Bd
  have e0 : s₁.heap = h0 := by rw [← hh, Bd.state]; rfl
  have N0 := Fr.nil n0
  refine own_at (castTop (ef_34 m a1 a2)) ?_
  have K0 := Keep.refl h0 [a1]
  obtain ⟨S1, P5, S2, rf, S3, S4, S5⟩ := id hst
  obtain ⟨E_b, B_v, B_c, B_m, B_n, E_v, A_v⟩ := id BB
  have n_b_v : a2 ≠ vb := E_b.neArv A_v (own_w hw 36 rfl)
  obtain ⟨cn, hcn⟩ : ∃ z : Int32, z = Int32.ofNat cs.length := ⟨_, rfl⟩
  rw [← hcn] at B_n
  have n_12 : a1 ≠ a2 := (E_b.ne E_a1 (by decide)).symm
  have n_1v : a1 ≠ vb := E_a1.neArv A_v (own_w hw 3 rfl)
  have sg1 : own_G p e below s₁ (mkF m 1 (own_ARRNUU a1 a2) [(.ref a1)]) s₁ (mkF m 0 (own_ARRNUU a1 a2) []) := by
    intro t k
    refine XS.aloadN X0.here hx rfl (hb hby d34_0) rfl rfl ?_
    exact k
  refine own_by sg1 ?_
  obtain ⟨T1, X1, e1, st1⟩ := initO X0 hx hZ hown (own_w hw 12 rfl) (own_w hw 13 rfl) (own_w hw 14 rfl) e0 (g := (mkF m 1 (own_ARRNUU a1 a2) [(.ref a1)])) rfl (by rw [hml]; rfl) rfl (hb hby d34_1) (by decide) (W := 0) (by show 2 * 0 + _ ≤ _; exact Nat.le_of_eq rfl) (by decide)
  refine own_by st1 ?_
  rcases hcd with rfl | rfl
  · skip
    have hc_ := hcap.1 rfl
    have A_v := A_v
    rw [own_cod0] at A_v
    have sg5 : own_G p e below T1 (mkF m 5 (own_ARRNUU a1 a2) [(.ref a2)]) T1 (mkF m 4 (own_ARRNUU a1 a2) []) := by
      intro t k
      refine XS.aloadN X1.here hx rfl (hb hby d34_4) rfl rfl ?_
      exact k
    refine own_by sg5 ?_
    obtain ⟨cq5, kq5, q5a, q5b, q5c⟩ := isOf hZ e1 E_b
    obtain ⟨_, _, ⟨T5, L5, k5, n5⟩, -, X5, ⟨Lc5, hQ5, l5, y5, z5⟩, st5⟩ := X1.virtualBack hx (y := own_n36) (z := own_n36) hown (mvT hZ (own_w hw 180 rfl)) (mvT hZ (own_w hw 181 rfl)) (notFace_of_selects (args := #[]) (mvT hZ (own_w hw 183 rfl))) (mvT hZ (own_w hw 183 rfl)) (mvT hZ (own_w hw 182 rfl)) (by decide) (backOf (W := 0) (rm35 l Z a0 hw [] a2 vb h0 n0 Z0 B_v) hZ (own_w hw 184 rfl) (own_w hw 55 rfl) (by decide) (by decide)) q5a q5c (g := (mkF m 5 (own_ARRNUU a1 a2) [(.ref a2)])) rfl (by rw [hml]; rfl) (Steps.refl _) (argsL := []) (rest := []) (lenOf pd_34_0 rfl) rfl (Nat.le_of_eq rfl) (hb hby d34_5) (fun _ _ => ⟨rfl, e1, (by decide : 0 + 0 ≤ _), (by decide : 0 + 0 ≤ _)⟩)
    dsimp only [Pt.U, Pt.locs, Pt.cells, Pt.slots] at X5 l5 y5 z5 st5 hQ5
    subst l5 y5 z5
    obtain ⟨rfl, N5q, hq5⟩ := hQ5
    have N5 := Fr.app N0 N5q
    refine own_by (fun t k => st5.trans k) ?_
    have sg10 : own_G p e below T5 (mkF m 10 (own_ARRNRU a1 a2 vb) [(.ref a2)]) T5 (mkF m 8 (own_ARRNUU a1 a2) [(.ref vb)]) := by
      intro t k
      refine XS.astoreN X5.here hx rfl (hb hby d34_8) rfl rfl (l' := (own_ARRNRU a1 a2 vb)) rfl ?_
      refine XS.aloadN X5.here hx rfl (hb hby d34_9) rfl rfl ?_
      exact k
    refine own_by sg10 ?_
    obtain ⟨cq10, kq10, q10a, q10b, q10c⟩ := isOf hZ hq5 E_b
    obtain ⟨_, _, ⟨T10, L10, k10, n10⟩, -, X10, ⟨Lc10, hQ10, l10, y10, z10⟩, st10⟩ := X5.virtualBack hx (y := own_n35) (z := own_n37) hown (mvT hZ (own_w hw 185 rfl)) (mvT hZ (own_w hw 186 rfl)) (own_nf (args := #[]) (z := own_n4) (mvT hZ (own_w hw 78 rfl)) rfl) (mvT hZ (own_w hw 188 rfl)) (mvT hZ (own_w hw 189 rfl)) (by decide) (backOf (W := 0) (rm36 l Z a0 hw [] a2 cn h0 n0 Z0 B_n E_b) hZ (own_w hw 190 rfl) (own_w hw 37 rfl) (by decide) (by decide)) q10a q10c (g := (mkF m 10 (own_ARRNRU a1 a2 vb) [(.ref a2)])) rfl (by rw [hml]; rfl) (Steps.refl _) (argsL := []) (rest := []) (lenOf pd_34_1 rfl) rfl (Nat.le_of_eq rfl) (hb hby d34_10) (fun _ _ => ⟨rfl, hq5, (by decide : 0 + 0 ≤ _), (by decide : 0 + 0 ≤ _)⟩)
    dsimp only [Pt.U, Pt.locs, Pt.cells, Pt.slots] at X10 l10 y10 z10 st10 hQ10
    subst l10 y10 z10
    obtain ⟨rfl, N10q, hq10⟩ := hQ10
    have N10 := Fr.app N5 N10q
    refine own_by (fun t k => st10.trans k) ?_
    have sg16 : own_G p e below T10 (mkF m 16 (own_ARRNRI a1 a2 vb cn) [(.ref a2)]) T10 (mkF m 13 (own_ARRNRU a1 a2 vb) [(.int cn)]) := by
      intro t k
      refine XS.istore X10.here hx rfl (hb hby d34_13) rfl (l' := (own_ARRNRI a1 a2 vb cn)) rfl ?_
      refine XS.aloadN X10.here hx rfl (hb hby d34_15) rfl rfl ?_
      exact k
    refine own_by sg16 ?_
    obtain ⟨cq16, kq16, q16a, q16b, q16c⟩ := isOf hZ hq10 E_b
    obtain ⟨_, _, ⟨T16, L16, k16, n16⟩, -, X16, ⟨Lc16, hQ16, l16, y16, z16⟩, st16⟩ := X10.virtualBack hx (y := own_n16) (z := own_n16) hown (mvT hZ (own_w hw 193 rfl)) (mvT hZ (own_w hw 81 rfl)) (notFace_of_selects (args := #[]) (mvT hZ (own_w hw 83 rfl))) (mvT hZ (own_w hw 83 rfl)) (mvT hZ (own_w hw 82 rfl)) (by decide) (backOf (W := 0) (rm150 l Z a0 hw [] a2 gz gf h0 n0 Z0 O hst B_c) hZ (own_w hw 84 rfl) (own_w hw 55 rfl) (by decide) (by decide)) q16a q16c (g := (mkF m 16 (own_ARRNRI a1 a2 vb cn) [(.ref a2)])) rfl (by rw [hml]; rfl) (Steps.refl _) (argsL := []) (rest := []) (lenOf pd_34_2 rfl) rfl (Nat.le_of_eq rfl) (hb hby d34_16) (fun _ _ => ⟨rfl, hq10, (by decide : 0 + 0 ≤ _), (by decide : 0 + 0 ≤ _)⟩)
    dsimp only [Pt.U, Pt.locs, Pt.cells, Pt.slots] at X16 l16 y16 z16 st16 hQ16
    subst l16 y16 z16
    obtain ⟨rfl, N16q, hq16⟩ := hQ16
    have N16 := Fr.app N10 N16q
    refine own_by (fun t k => st16.trans k) ?_
    have sg24 : own_G p e below T16 (mkF m 24 (own_ARRNRI a1 a2 vb cn) [(.int (0 : Int32)), (.ref a1)]) T16 (mkF m 19 (own_ARRNRI a1 a2 vb cn) [(.int (1 : Int32))]) := by
      intro t k
      refine XS.ifNo X16.here hx rfl (hb hby d34_19) rfl ((if0 _ _).trans (feq (by decide : ¬ ((1 : Int32) = (0 : Int32)))).1) ?_
      refine XS.aloadN X16.here hx rfl (hb hby d34_22) rfl rfl ?_
      refine XS.iconst X16.here hx rfl (hb hby d34_23) ?_
      exact k
    refine own_by sg24 ?_
    obtain ⟨T24, h24, X24, e24, W24, st24⟩ := putF X16 hx hZ hown (host := "") (Or.inl (own_w hw 27 rfl)) Via.refl hq16 F_c E_a1 (Or.inr ⟨(own_w hw 28 rfl), rfl, hnm⟩) (own_w hw 3 rfl) (ty := .byte) (by decide) rfl rfl (g := (mkF m 24 (own_ARRNRI a1 a2 vb cn) [(.int (0 : Int32)), (.ref a1)])) rfl rfl (hb hby d34_24)
    have Fw24 := F_c.same W24
    have fc := (F_v.other W24 (Or.inr (slot_ne (Or.inr (own_w hw 30 rfl)) (Or.inr (own_w hw 28 rfl)) (by decide) (t := (.array .byte)) (t' := .byte) (by decide) (by decide))))
    have K24 : Keep h0 h24 [a1] := K0.wr W24 (Or.inl (List.mem_of_getElem? (i := 0) rfl))
    have Z24 : n0 ≤ h24.size := Nat.le_trans Z0 (Keep.of_wr W24).1
    have N24 := Fr.snoc X24 N16 g_a1
    refine own_by st24 ?_
    have sg32 : own_G p e below T24 (mkF m 32 (own_ARRNRI a1 a2 vb cn) [(.int cn), (.int (0 : Int32)), (.ref vb), (.ref a1)]) T24 (mkF m 27 (own_ARRNRI a1 a2 vb cn) []) := by
      intro t k
      refine XS.aloadN X24.here hx rfl (hb hby d34_27) rfl rfl ?_
      refine XS.aloadN X24.here hx rfl (hb hby d34_28) rfl rfl ?_
      refine XS.iconst X24.here hx rfl (hb hby d34_29) ?_
      refine XS.iload X24.here hx rfl (hb hby d34_30) rfl ?_
      exact k
    refine own_by sg32 ?_
    obtain ⟨_, _, ⟨T32, L32, k32, n32⟩, -, X32, ⟨Lc32, hQ32, l32, y32, z32⟩, st32⟩ := Jvm.LawKit.callS X24 hx (y := own_n38) hown (mvT hZ (own_w hw 194 rfl)) (mvT hZ (own_w hw 195 rfl)) (mvT hZ (own_w hw 140 rfl)) (mvT hZ (own_w hw 196 rfl)) (by decide) (backOf (W := 1) (rm38 l Z a0 hw [] vb cn kb N (own_c0 cs) (cs.length) h24 n0 Z24 (A_v.other W24 (Ne.symm n_1v)) (E_v.wr W24) hcn (own_c0_len cs) (by omega) (by omega)) hZ (own_w hw 196 rfl) (own_w hw 140 rfl) (by decide) (by decide)) (g := (mkF m 32 (own_ARRNRI a1 a2 vb cn) [(.int cn), (.int (0 : Int32)), (.ref vb), (.ref a1)])) rfl (by rw [hml]; rfl) (argsL := [(.ref vb), (.int (0 : Int32)), (.int cn)]) (rest := [(.ref a1)]) (lenOf pd_34_3 rfl) rfl (Nat.le_of_eq rfl) (hb hby d34_32) (fun _ _ => ⟨rfl, e24, (by decide : 0 + 1 ≤ _), (by decide : 0 + 86 ≤ _)⟩)
    dsimp only [Pt.U, Pt.locs, Pt.cells, Pt.slots] at X32 l32 y32 z32 st32 hQ32
    subst l32 y32 z32
    obtain ⟨r32, kr32, rfl, ge32, N32q, Kq32, Aq32⟩ := hQ32
    have N32 := Fr.app N24 N32q
    have ne_a1_r32 : a1 ≠ r32 := Nat.ne_of_lt (Nat.lt_of_lt_of_le (E_a1.wr W24).lt ge32)
    have ne_a2_r32 : a2 ≠ r32 := Nat.ne_of_lt (Nat.lt_of_lt_of_le (E_b.wr W24).lt ge32)
    have ne_vb_r32 : vb ≠ r32 := Nat.ne_of_lt (Nat.lt_of_lt_of_le (E_v.wr W24).lt ge32)
    have g_r32 : n0 ≤ r32 := Nat.le_trans Z24 ge32
    have sz_r32 : h0.size ≤ r32 := Nat.le_trans K24.1 ge32
    have fc_2 := ((B_v.other W24 (Or.inl (Ne.symm n_12))).keep Kq32 List.not_mem_nil)
    have fc_3 := ((B_c.other W24 (Or.inl (Ne.symm n_12))).keep Kq32 List.not_mem_nil)
    have fc_4 := ((B_m.other W24 (Or.inl (Ne.symm n_12))).keep Kq32 List.not_mem_nil)
    have fc_5 := ((B_n.other W24 (Or.inl (Ne.symm n_12))).keep Kq32 List.not_mem_nil)
    have K32 : Keep h0 T32.heap [a1] := K24.trans Kq32 (fun x hx => nomatch hx)
    have Z32 : n0 ≤ T32.heap.size := Nat.le_trans Z24 Kq32.1
    refine own_by st32 ?_
    obtain ⟨T35, h35, X35, e35, W35, st35⟩ := putF X32 hx hZ hown (host := "") (Or.inl (own_w hw 29 rfl)) Via.refl rfl (fc.keep Kq32 List.not_mem_nil) ((E_a1.wr W24).keep Kq32) (Or.inr ⟨(own_w hw 30 rfl), rfl, hnm⟩) (own_w hw 3 rfl) (ty := (.array .byte)) (by decide) rfl rfl (g := (mkF m 35 (own_ARRNRI a1 a2 vb cn) [(.ref r32), (.ref a1)])) rfl rfl (hb hby d34_35)
    have Fw35 := (fc.keep Kq32 List.not_mem_nil).same W35
    have fc_6 := ((Fw24.keep Kq32 List.not_mem_nil).other W35 (Or.inr (slot_ne (Or.inr (own_w hw 28 rfl)) (Or.inr (own_w hw 30 rfl)) (by decide) (t := .byte) (t' := (.array .byte)) (by decide) (by decide))))
    have fc_7 := (((A_v.other W24 (Ne.symm n_1v)).keep Kq32 List.not_mem_nil).other W35 (Ne.symm n_1v))
    have K35 : Keep h0 h35 [a1] := K32.wr W35 (Or.inl (List.mem_of_getElem? (i := 0) rfl))
    have Z35 : n0 ≤ h35.size := Nat.le_trans Z32 (Keep.of_wr W35).1
    have N35 := Fr.snoc X35 N32 g_a1
    refine own_by st35 ?_
    have sg97 : own_G p e below T35 (mkF m 97 (own_ARRNRI a1 a2 vb cn) []) T35 (mkF m 38 (own_ARRNRI a1 a2 vb cn) []) := by
      intro t k
      refine XS.goto X35.here hx rfl (pc0 := 38) (pc' := 97) rfl (hb hby d34_38) (by decide) (by decide) ?_
      exact k
    refine own_by sg97 ?_
    obtain ⟨fs, hr, hrun, hended, hW, hsame⟩ := X35.leave (v := none) (fun _ => rfl)
    refine ⟨_, _, ?_, hrun, hended, _, _, rfl, ?_, ⟨_, rfl⟩, hW, hsame.mono (by decide) (by decide)⟩
    · exact X35.returnOut hx Bd.returns (hb hby d34_97) hr
    · show Q34 Z a1 a2 vb kb N (0 : Int32) cs gz gf h0 n0 _ T35.heap _
      rw [e35]
      exact ⟨rfl, N35, K35, r32, _, cs.length, sz_r32, (((E_a1.wr W24).keep Kq32).wr W35), Fw35, fc_6, (by rw [own_cod0]; exact (Aq32.other W35 (Ne.symm ne_a1_r32))), Or.inl rfl, ⟨(fun _ => ⟨rfl, hlat rfl⟩), (fun q => absurd q (by decide))⟩, hcs, (by omega)⟩
  · skip
    have hc_ := hcap.2 rfl
    have A_v := A_v
    rw [own_cod1] at A_v
    have sg5 : own_G p e below T1 (mkF m 5 (own_ARRNUU a1 a2) [(.ref a2)]) T1 (mkF m 4 (own_ARRNUU a1 a2) []) := by
      intro t k
      refine XS.aloadN X1.here hx rfl (hb hby d34_4) rfl rfl ?_
      exact k
    refine own_by sg5 ?_
    obtain ⟨cq5, kq5, q5a, q5b, q5c⟩ := isOf hZ e1 E_b
    obtain ⟨_, _, ⟨T5, L5, k5, n5⟩, -, X5, ⟨Lc5, hQ5, l5, y5, z5⟩, st5⟩ := X1.virtualBack hx (y := own_n36) (z := own_n36) hown (mvT hZ (own_w hw 180 rfl)) (mvT hZ (own_w hw 181 rfl)) (notFace_of_selects (args := #[]) (mvT hZ (own_w hw 183 rfl))) (mvT hZ (own_w hw 183 rfl)) (mvT hZ (own_w hw 182 rfl)) (by decide) (backOf (W := 0) (rm35 l Z a0 hw [] a2 vb h0 n0 Z0 B_v) hZ (own_w hw 184 rfl) (own_w hw 55 rfl) (by decide) (by decide)) q5a q5c (g := (mkF m 5 (own_ARRNUU a1 a2) [(.ref a2)])) rfl (by rw [hml]; rfl) (Steps.refl _) (argsL := []) (rest := []) (lenOf pd_34_0 rfl) rfl (Nat.le_of_eq rfl) (hb hby d34_5) (fun _ _ => ⟨rfl, e1, (by decide : 0 + 0 ≤ _), (by decide : 0 + 0 ≤ _)⟩)
    dsimp only [Pt.U, Pt.locs, Pt.cells, Pt.slots] at X5 l5 y5 z5 st5 hQ5
    subst l5 y5 z5
    obtain ⟨rfl, N5q, hq5⟩ := hQ5
    have N5 := Fr.app N0 N5q
    refine own_by (fun t k => st5.trans k) ?_
    have sg10 : own_G p e below T5 (mkF m 10 (own_ARRNRU a1 a2 vb) [(.ref a2)]) T5 (mkF m 8 (own_ARRNUU a1 a2) [(.ref vb)]) := by
      intro t k
      refine XS.astoreN X5.here hx rfl (hb hby d34_8) rfl rfl (l' := (own_ARRNRU a1 a2 vb)) rfl ?_
      refine XS.aloadN X5.here hx rfl (hb hby d34_9) rfl rfl ?_
      exact k
    refine own_by sg10 ?_
    obtain ⟨cq10, kq10, q10a, q10b, q10c⟩ := isOf hZ hq5 E_b
    obtain ⟨_, _, ⟨T10, L10, k10, n10⟩, -, X10, ⟨Lc10, hQ10, l10, y10, z10⟩, st10⟩ := X5.virtualBack hx (y := own_n35) (z := own_n37) hown (mvT hZ (own_w hw 185 rfl)) (mvT hZ (own_w hw 186 rfl)) (own_nf (args := #[]) (z := own_n4) (mvT hZ (own_w hw 78 rfl)) rfl) (mvT hZ (own_w hw 188 rfl)) (mvT hZ (own_w hw 189 rfl)) (by decide) (backOf (W := 0) (rm36 l Z a0 hw [] a2 cn h0 n0 Z0 B_n E_b) hZ (own_w hw 190 rfl) (own_w hw 37 rfl) (by decide) (by decide)) q10a q10c (g := (mkF m 10 (own_ARRNRU a1 a2 vb) [(.ref a2)])) rfl (by rw [hml]; rfl) (Steps.refl _) (argsL := []) (rest := []) (lenOf pd_34_1 rfl) rfl (Nat.le_of_eq rfl) (hb hby d34_10) (fun _ _ => ⟨rfl, hq5, (by decide : 0 + 0 ≤ _), (by decide : 0 + 0 ≤ _)⟩)
    dsimp only [Pt.U, Pt.locs, Pt.cells, Pt.slots] at X10 l10 y10 z10 st10 hQ10
    subst l10 y10 z10
    obtain ⟨rfl, N10q, hq10⟩ := hQ10
    have N10 := Fr.app N5 N10q
    refine own_by (fun t k => st10.trans k) ?_
    have sg16 : own_G p e below T10 (mkF m 16 (own_ARRNRI a1 a2 vb cn) [(.ref a2)]) T10 (mkF m 13 (own_ARRNRU a1 a2 vb) [(.int cn)]) := by
      intro t k
      refine XS.istore X10.here hx rfl (hb hby d34_13) rfl (l' := (own_ARRNRI a1 a2 vb cn)) rfl ?_
      refine XS.aloadN X10.here hx rfl (hb hby d34_15) rfl rfl ?_
      exact k
    refine own_by sg16 ?_
    obtain ⟨cq16, kq16, q16a, q16b, q16c⟩ := isOf hZ hq10 E_b
    obtain ⟨_, _, ⟨T16, L16, k16, n16⟩, -, X16, ⟨Lc16, hQ16, l16, y16, z16⟩, st16⟩ := X10.virtualBack hx (y := own_n16) (z := own_n16) hown (mvT hZ (own_w hw 193 rfl)) (mvT hZ (own_w hw 81 rfl)) (notFace_of_selects (args := #[]) (mvT hZ (own_w hw 83 rfl))) (mvT hZ (own_w hw 83 rfl)) (mvT hZ (own_w hw 82 rfl)) (by decide) (backOf (W := 0) (rm151 l Z a0 hw [] a2 gz gf h0 n0 Z0 O hst B_c) hZ (own_w hw 84 rfl) (own_w hw 55 rfl) (by decide) (by decide)) q16a q16c (g := (mkF m 16 (own_ARRNRI a1 a2 vb cn) [(.ref a2)])) rfl (by rw [hml]; rfl) (Steps.refl _) (argsL := []) (rest := []) (lenOf pd_34_2 rfl) rfl (Nat.le_of_eq rfl) (hb hby d34_16) (fun _ _ => ⟨rfl, hq10, (by decide : 0 + 0 ≤ _), (by decide : 0 + 0 ≤ _)⟩)
    dsimp only [Pt.U, Pt.locs, Pt.cells, Pt.slots] at X16 l16 y16 z16 st16 hQ16
    subst l16 y16 z16
    obtain ⟨rfl, N16q, hq16⟩ := hQ16
    have N16 := Fr.app N10 N16q
    refine own_by (fun t k => st16.trans k) ?_
    have sg41 : own_G p e below T16 (mkF m 41 (own_ARRNRI a1 a2 vb cn) []) T16 (mkF m 19 (own_ARRNRI a1 a2 vb cn) [(.int (0 : Int32))]) := by
      intro t k
      refine XS.ifYes X16.here hx rfl (pc0 := 19) (pc' := 41) rfl (hb hby d34_19) rfl ((if0 _ _).trans (teq (by decide : (0 : Int32) = (0 : Int32))).1) (by decide) (by decide) ?_
      exact k
    refine own_by sg41 ?_
    obtain ⟨T41, X41, e41, st41⟩ := getS2 X16 hx hZ hown (host := "") (Or.inl (own_w hw 15 rfl)) Via.refl hq16 (S1.ext O.2) (g := (mkF m 41 (own_ARRNRI a1 a2 vb cn) [])) rfl (hb hby d34_41)
    refine own_by st41 ?_
    have sg48 : own_G p e below T41 (mkF m 48 (own_ARRNRI a1 a2 vb cn) [(.ref a2)]) T41 (mkF m 44 (own_ARRNRI a1 a2 vb cn) [(.int gz)]) := by
      intro t k
      refine XS.ifNo X41.here hx rfl (hb hby d34_44) rfl ((if0 _ _).trans (feq P5).1) ?_
      refine XS.aloadN X41.here hx rfl (hb hby d34_47) rfl rfl ?_
      exact k
    refine own_by sg48 ?_
    obtain ⟨T48, X48, e48, st48⟩ := getF X41 hx hZ hown (host := "") (Or.inl (own_w hw 278 rfl)) Via.refl e41 B_m (g := (mkF m 48 (own_ARRNRI a1 a2 vb cn) [(.ref a2)])) rfl rfl (hb hby d34_48)
    refine own_by st48 ?_
    have sg81 : own_G p e below T48 (mkF m 81 (own_ARRNRI a1 a2 vb cn) [(.int (1 : Int32)), (.ref a1)]) T48 (mkF m 51 (own_ARRNRI a1 a2 vb cn) [(.int (0 : Int32))]) := by
      intro t k
      refine XS.ifYes X48.here hx rfl (pc0 := 51) (pc' := 79) rfl (hb hby d34_51) rfl ((if0 _ _).trans (teq (by decide : (0 : Int32) = (0 : Int32))).1) (by decide) (by decide) ?_
      refine XS.aloadN X48.here hx rfl (hb hby d34_79) rfl rfl ?_
      refine XS.iconst X48.here hx rfl (hb hby d34_80) ?_
      exact k
    refine own_by sg81 ?_
    obtain ⟨T81, h81, X81, e81, W81, st81⟩ := putF X48 hx hZ hown (host := "") (Or.inl (own_w hw 27 rfl)) Via.refl e48 F_c E_a1 (Or.inr ⟨(own_w hw 28 rfl), rfl, hnm⟩) (own_w hw 3 rfl) (ty := .byte) (by decide) rfl rfl (g := (mkF m 81 (own_ARRNRI a1 a2 vb cn) [(.int (1 : Int32)), (.ref a1)])) rfl rfl (hb hby d34_81)
    have Fw81 := F_c.same W81
    have fc := (F_v.other W81 (Or.inr (slot_ne (Or.inr (own_w hw 30 rfl)) (Or.inr (own_w hw 28 rfl)) (by decide) (t := (.array .byte)) (t' := .byte) (by decide) (by decide))))
    have K81 : Keep h0 h81 [a1] := K0.wr W81 (Or.inl (List.mem_of_getElem? (i := 0) rfl))
    have Z81 : n0 ≤ h81.size := Nat.le_trans Z0 (Keep.of_wr W81).1
    have N81 := Fr.snoc X81 N16 g_a1
    refine own_by st81 ?_
    obtain ⟨t90, ht90⟩ : ∃ z : Int32, z = (cn <<< ((1 : Int32) &&& 31)) := ⟨_, rfl⟩
    have sg91 : own_G p e below T81 (mkF m 91 (own_ARRNRI a1 a2 vb cn) [(.int t90), (.int (0 : Int32)), (.ref vb), (.ref a1)]) T81 (mkF m 84 (own_ARRNRI a1 a2 vb cn) []) := by
      intro t k
      rw [ht90] at k
      refine XS.aloadN X81.here hx rfl (hb hby d34_84) rfl rfl ?_
      refine XS.aloadN X81.here hx rfl (hb hby d34_85) rfl rfl ?_
      refine XS.iconst X81.here hx rfl (hb hby d34_86) ?_
      refine XS.iload X81.here hx rfl (hb hby d34_87) rfl ?_
      refine XS.iconst X81.here hx rfl (hb hby d34_89) ?_
      refine XS.ishl X81.here hx rfl (hb hby d34_90) rfl ?_
      exact k
    refine own_by sg91 ?_
    have nt_t90 : t90 = Int32.ofNat (2 * (cs.length)) := ht90.trans (own_nshl1 hcn)
    obtain ⟨_, _, ⟨T91, L91, k91, n91⟩, -, X91, ⟨Lc91, hQ91, l91, y91, z91⟩, st91⟩ := Jvm.LawKit.callS X81 hx (y := own_n38) hown (mvT hZ (own_w hw 194 rfl)) (mvT hZ (own_w hw 195 rfl)) (mvT hZ (own_w hw 140 rfl)) (mvT hZ (own_w hw 196 rfl)) (by decide) (backOf (W := 1) (rm38 l Z a0 hw [] vb t90 kb N (own_c1 cs) (2 * (cs.length)) h81 n0 Z81 (A_v.other W81 (Ne.symm n_1v)) (E_v.wr W81) nt_t90 (own_c1_len cs) (by omega) (by omega)) hZ (own_w hw 196 rfl) (own_w hw 140 rfl) (by decide) (by decide)) (g := (mkF m 91 (own_ARRNRI a1 a2 vb cn) [(.int t90), (.int (0 : Int32)), (.ref vb), (.ref a1)])) rfl (by rw [hml]; rfl) (argsL := [(.ref vb), (.int (0 : Int32)), (.int t90)]) (rest := [(.ref a1)]) (lenOf pd_34_3 rfl) rfl (Nat.le_of_eq rfl) (hb hby d34_91) (fun _ _ => ⟨rfl, e81, (by decide : 0 + 1 ≤ _), (by decide : 0 + 86 ≤ _)⟩)
    dsimp only [Pt.U, Pt.locs, Pt.cells, Pt.slots] at X91 l91 y91 z91 st91 hQ91
    subst l91 y91 z91
    obtain ⟨r91, kr91, rfl, ge91, N91q, Kq91, Aq91⟩ := hQ91
    have N91 := Fr.app N81 N91q
    have ne_a1_r91 : a1 ≠ r91 := Nat.ne_of_lt (Nat.lt_of_lt_of_le (E_a1.wr W81).lt ge91)
    have ne_a2_r91 : a2 ≠ r91 := Nat.ne_of_lt (Nat.lt_of_lt_of_le (E_b.wr W81).lt ge91)
    have ne_vb_r91 : vb ≠ r91 := Nat.ne_of_lt (Nat.lt_of_lt_of_le (E_v.wr W81).lt ge91)
    have g_r91 : n0 ≤ r91 := Nat.le_trans Z81 ge91
    have sz_r91 : h0.size ≤ r91 := Nat.le_trans K81.1 ge91
    have fc_2 := ((B_v.other W81 (Or.inl (Ne.symm n_12))).keep Kq91 List.not_mem_nil)
    have fc_3 := ((B_c.other W81 (Or.inl (Ne.symm n_12))).keep Kq91 List.not_mem_nil)
    have fc_4 := ((B_m.other W81 (Or.inl (Ne.symm n_12))).keep Kq91 List.not_mem_nil)
    have fc_5 := ((B_n.other W81 (Or.inl (Ne.symm n_12))).keep Kq91 List.not_mem_nil)
    have K91 : Keep h0 T91.heap [a1] := K81.trans Kq91 (fun x hx => nomatch hx)
    have Z91 : n0 ≤ T91.heap.size := Nat.le_trans Z81 Kq91.1
    refine own_by st91 ?_
    obtain ⟨T94, h94, X94, e94, W94, st94⟩ := putF X91 hx hZ hown (host := "") (Or.inl (own_w hw 29 rfl)) Via.refl rfl (fc.keep Kq91 List.not_mem_nil) ((E_a1.wr W81).keep Kq91) (Or.inr ⟨(own_w hw 30 rfl), rfl, hnm⟩) (own_w hw 3 rfl) (ty := (.array .byte)) (by decide) rfl rfl (g := (mkF m 94 (own_ARRNRI a1 a2 vb cn) [(.ref r91), (.ref a1)])) rfl rfl (hb hby d34_94)
    have Fw94 := (fc.keep Kq91 List.not_mem_nil).same W94
    have fc_6 := ((Fw81.keep Kq91 List.not_mem_nil).other W94 (Or.inr (slot_ne (Or.inr (own_w hw 28 rfl)) (Or.inr (own_w hw 30 rfl)) (by decide) (t := .byte) (t' := (.array .byte)) (by decide) (by decide))))
    have fc_7 := (((A_v.other W81 (Ne.symm n_1v)).keep Kq91 List.not_mem_nil).other W94 (Ne.symm n_1v))
    have K94 : Keep h0 h94 [a1] := K91.wr W94 (Or.inl (List.mem_of_getElem? (i := 0) rfl))
    have Z94 : n0 ≤ h94.size := Nat.le_trans Z91 (Keep.of_wr W94).1
    have N94 := Fr.snoc X94 N91 g_a1
    refine own_by st94 ?_
    obtain ⟨fs, hr, hrun, hended, hW, hsame⟩ := X94.leave (v := none) (fun _ => rfl)
    refine ⟨_, _, ?_, hrun, hended, _, _, rfl, ?_, ⟨_, rfl⟩, hW, hsame.mono (by decide) (by decide)⟩
    · exact X94.returnOut hx Bd.returns (hb hby d34_97) hr
    · show Q34 Z a1 a2 vb kb N (1 : Int32) cs gz gf h0 n0 _ T94.heap _
      rw [e94]
      exact ⟨rfl, N94, K94, r91, _, 2 * (cs.length), sz_r91, (((E_a1.wr W81).keep Kq91).wr W94), Fw94, fc_6, (by rw [own_cod1]; exact (Aq91.other W94 (Ne.symm ne_a1_r91))), Or.inr rfl, ⟨(fun q => absurd q (by decide)), (fun _ => rfl)⟩, hcs, (by omega)⟩
abbrev own_b33 := jdk_42_method_53_code
theorem d33_0 : decode own_b33 0 = .ok (.aload_n 0, 1) := by decide +kernel
theorem d33_1 : decode own_b33 1 = .ok (.aload_n 1, 1) := by decide +kernel
theorem d33_2 : decode own_b33 2 = .ok (.aconst_null, 1) := by decide +kernel
theorem d33_3 : decode own_b33 3 = .ok (.invokespecial 489, 3) := by decide +kernel
theorem d33_6 : decode own_b33 6 = .ok (.return_, 1) := by decide +kernel
theorem pn_33 : plainFor (⟨"java/lang/String", "<init>", "(Ljava/lang/StringBuilder;)V"⟩ : MethodName) = true := by first | exact plainFor_of_name (by first | (simp [plainName, overriddenIn]; done) | decide +kernel) | decide +kernel | exact Jvm.Free.JP.mathPlain rfl (by decide +kernel)
theorem pd_33_0 : parseMethodDescriptor "(Ljava/lang/AbstractStringBuilder;Ljava/lang/Void;)V" = some ⟨[(.object "java/lang/AbstractStringBuilder"), (.object "java/lang/Void")], none⟩ := by decide +kernel
theorem ef_33 (m : MethodId) (a1 : Addr) (a2 : Addr) : entryFrame m #[(.ref a1), (.ref a2)] 2 = mkF m 0 #[.val (.ref a1), .val (.ref a2)] [] := by first | (simp [entryFrame, mkF, argsToLocals, Value.category]; done) | rfl
abbrev own_r33 : Room := { frames := 4, cells := 1, slots := 86, locals := 87 }
def Q33 (Z : State) (a1 : Addr) (a2 : Addr) (vb : Addr) (kb : ClassId) (N : Nat) (cd : Int32) (cs : List Int32) (gz : Int32) (gf : Value) (h0 : Heap) (n0 : Nat) (v : Option Value) (h : Heap) (L : List Loc) : Prop := v = none ∧ Fr n0 L ∧ Keep h0 h [a1] ∧ ∃ (t : Addr) (kt : ClassId) (M : Nat), h0.size ≤ t ∧ own_T Z h a1 t kt M cd cs
theorem rm33 (l : Launch) (Z : State) (a0 : Array Value) (hw : ∀ d ∈ tables_1, d.before a0 Z = true) (ws : List Jvm.Cond) (a1 : Addr) (a2 : Addr) (vb : Addr) (kb : ClassId) (N : Nat) (cd : Int32) (cs : List Int32) (gz : Int32) (gf : Value) (h0 : Heap) (n0 : Nat) (Z0 : n0 ≤ h0.size) (O : Old Z n0 h0) (hst : own_ST Z gz gf) (E_a1 : Exa Z h0 a1 "java/lang/String") (F_v : Fld Z h0 a1 "java/lang/String" "value" "[B" .null) (F_c : Fld Z h0 a1 "java/lang/String" "coder" "B" (.int (0 : Int32))) (g_a1 : n0 ≤ a1) (BB : own_B Z h0 a2 vb kb N cd cs) (hcd : cd = (0 : Int32) ∨ cd = (1 : Int32)) (hcap : (cd = (0 : Int32) → cs.length ≤ N ∧ N ≤ 42) ∧ (cd = (1 : Int32) → 2 * (cs.length) ≤ N ∧ N ≤ 86)) (hlat : cd = (0 : Int32) → own_lat cs) (hcs : ∀ x ∈ cs, ¬ x < 0 ∧ ¬ (65535 : Int32) < x) (hlen : cs.length ≤ 21) :
    MetFree l own_n40 (head1 (Jvm.Cond.code own_n40 jdk_42_method_53_code 2 none :: ws) own_r33) (fun a U => a = #[(.ref a1), (.ref a2)] ∧ Z.Warmed39 U.vm ∧ U.heap = h0) (fun _ _ _ _ _ => True) (fun _ U o U' => ∃ v L, o = .returned v ∧ Q33 Z a1 a2 vb kb N cd cs gz gf h0 n0 v U'.heap L ∧ FrameEnd U o U' L own_r33.cells own_r33.slots) := by
  refine MetFree.of_bodySF pn_33 hisR ?_
  intro p e s m args below meth c s₁ Bd hml0 hP hK
  obtain ⟨rfl, hZ, hh⟩ := hP
  have hx := Bd.exec
  have hby := Bd.bytes
  have hml : c.maxLocals = 2 := hml0
  have hown : s.vm.findClass "java/lang/String" = some m.cls := findClass_of_methodNamed Bd.named
  have hnm := (name_of_methodNamed Bd.named Bd.method).1
  have X0 : Stand p l e own_r33 s m #[(.ref a1), (.ref a2)] below meth c s₁ [] 0 0 := Stand.of_body Bd
  have e0 : s₁.heap = h0 := by rw [← hh, Bd.state]; rfl
  have N0 := Fr.nil n0
  refine own_at (castTop (ef_33 m a1 a2)) ?_
  have K0 := Keep.refl h0 [a1]
  obtain ⟨S1, P5, S2, rf, S3, S4, S5⟩ := id hst
  have sg3 : own_G p e below s₁ (mkF m 3 #[.val (.ref a1), .val (.ref a2)] [.null, (.ref a2), (.ref a1)]) s₁ (mkF m 0 #[.val (.ref a1), .val (.ref a2)] []) := by
    intro t k
    refine XS.aloadN X0.here hx rfl (hb hby d33_0) rfl rfl ?_
    refine XS.aloadN X0.here hx rfl (hb hby d33_1) rfl rfl ?_
    refine XS.aconstNull X0.here hx rfl (hb hby d33_2) ?_
    exact k
  refine own_by sg3 ?_
  obtain ⟨_, _, ⟨T3, L3, k3, n3⟩, -, X3, ⟨Lc3, hQ3, l3, y3, z3⟩, st3⟩ := X0.specialBack hx (y := own_n39) rfl hown (mvT hZ (own_w hw 177 rfl)) (mvT hZ (own_w hw 178 rfl)) (mvT hZ (own_w hw 179 rfl)) (by decide) (backOf (W := 0) (rm34 l Z a0 hw [] a1 a2 vb kb N cd cs gz gf h0 n0 Z0 O hst E_a1 F_v F_c g_a1 BB hcd hcap hlat hcs hlen) hZ (own_w hw 179 rfl) (own_w hw 4 rfl) (by decide) (by decide)) (g := (mkF m 3 #[.val (.ref a1), .val (.ref a2)] [.null, (.ref a2), (.ref a1)])) rfl (by rw [hml]; rfl) (Steps.refl _) (a := a1) (argsL := [(.ref a2), .null]) (rest := []) (lenOf pd_33_0 rfl) rfl (Nat.le_of_eq rfl) (hb hby d33_3) (fun _ _ => ⟨rfl, e0, (by decide : 0 + 1 ≤ _), (by decide : 0 + 86 ≤ _)⟩)
  dsimp only [Pt.U, Pt.locs, Pt.cells, Pt.slots] at X3 l3 y3 z3 st3 hQ3
  subst l3 y3 z3
  obtain ⟨rfl, N3q, Kq3, tt, kt, MM, gt, TT⟩ := hQ3
  have N3 := Fr.app N0 N3q
  have K3 : Keep h0 T3.heap [a1] := K0.trans Kq3 (fun x hx => by cases List.mem_singleton.mp hx; exact (Or.inl (List.mem_of_getElem? (i := 0) rfl)))
  have Z3 : n0 ≤ T3.heap.size := Nat.le_trans Z0 Kq3.1
  refine own_by (fun t k => st3.trans k) ?_
  obtain ⟨fs, hr, hrun, hended, hW, hsame⟩ := X3.leave (v := none) (fun _ => rfl)
  refine ⟨_, _, ?_, hrun, hended, _, _, rfl, ?_, ⟨_, rfl⟩, hW, hsame.mono (by decide) (by decide)⟩
  · exact X3.returnOut hx Bd.returns (hb hby d33_6) hr
  · show Q33 Z a1 a2 vb kb N cd cs gz gf h0 n0 _ T3.heap _
    exact ⟨rfl, N3, K3, tt, kt, MM, gt, TT⟩
abbrev own_b32 := jdk_67_method_42_code
theorem d32_0 : decode own_b32 0 = .ok (.new 18, 3) := by decide +kernel
theorem d32_3 : decode own_b32 3 = .ok (.dup, 1) := by decide +kernel
theorem d32_4 : decode own_b32 4 = .ok (.aload_n 0, 1) := by decide +kernel
theorem d32_5 : decode own_b32 5 = .ok (.invokespecial 137, 3) := by decide +kernel
theorem d32_8 : decode own_b32 8 = .ok (.areturn, 1) := by decide +kernel
theorem pn_32 : plainFor (⟨"java/lang/StringBuilder", "toString", "()Ljava/lang/String;"⟩ : MethodName) = true := by first | exact plainFor_of_name (by first | (simp [plainName, overriddenIn]; done) | decide +kernel) | decide +kernel | exact Jvm.Free.JP.mathPlain rfl (by decide +kernel)
theorem pd_32_0 : parseMethodDescriptor "(Ljava/lang/StringBuilder;)V" = some ⟨[(.object "java/lang/StringBuilder")], none⟩ := by decide +kernel
theorem ef_32 (m : MethodId) (a2 : Addr) : entryFrame m #[(.ref a2)] 1 = mkF m 0 #[.val (.ref a2)] [] := by first | (simp [entryFrame, mkF, argsToLocals, Value.category]; done) | rfl
abbrev own_r32 : Room := { frames := 5, cells := 2, slots := 90, locals := 101 }
def Q32 (Z : State) (a2 : Addr) (vb : Addr) (kb : ClassId) (N : Nat) (cd : Int32) (cs : List Int32) (gz : Int32) (gf : Value) (h0 : Heap) (n0 : Nat) (v : Option Value) (h : Heap) (L : List Loc) : Prop := ∃ (r t : Addr) (kt : ClassId) (M : Nat), v = some (.ref r) ∧ h0.size ≤ r ∧ h0.size ≤ t ∧ Fr n0 L ∧ Keep h0 h [] ∧ own_T Z h r t kt M cd cs
theorem rm32 (l : Launch) (Z : State) (a0 : Array Value) (hw : ∀ d ∈ tables_1, d.before a0 Z = true) (ws : List Jvm.Cond) (a2 : Addr) (vb : Addr) (kb : ClassId) (N : Nat) (cd : Int32) (cs : List Int32) (gz : Int32) (gf : Value) (h0 : Heap) (n0 : Nat) (Z0 : n0 ≤ h0.size) (O : Old Z n0 h0) (hst : own_ST Z gz gf) (BB : own_B Z h0 a2 vb kb N cd cs) (hcd : cd = (0 : Int32) ∨ cd = (1 : Int32)) (hcap : (cd = (0 : Int32) → cs.length ≤ N ∧ N ≤ 42) ∧ (cd = (1 : Int32) → 2 * (cs.length) ≤ N ∧ N ≤ 86)) (hlat : cd = (0 : Int32) → own_lat cs) (hcs : ∀ x ∈ cs, ¬ x < 0 ∧ ¬ (65535 : Int32) < x) (hlen : cs.length ≤ 21) :
    MetFree l own_n52 (head1 (Jvm.Cond.code own_n52 jdk_67_method_42_code 1 (some (.object "java/lang/String")) :: ws) own_r32) (fun a U => a = #[(.ref a2)] ∧ Z.Warmed39 U.vm ∧ U.heap = h0) (fun _ _ _ _ _ => True) (fun _ U o U' => ∃ v L, o = .returned v ∧ Q32 Z a2 vb kb N cd cs gz gf h0 n0 v U'.heap L ∧ FrameEnd U o U' L own_r32.cells own_r32.slots) := by
  refine MetFree.of_bodySF pn_32 hisR ?_
  intro p e s m args below meth c s₁ Bd hml0 hP hK
  obtain ⟨rfl, hZ, hh⟩ := hP
  have hx := Bd.exec
  have hby := Bd.bytes
  have hml : c.maxLocals = 1 := hml0
  have hown : s.vm.findClass "java/lang/StringBuilder" = some m.cls := findClass_of_methodNamed Bd.named
  have hnm := (name_of_methodNamed Bd.named Bd.method).1
  have X0 : Stand p l e own_r32 s m #[(.ref a2)] below meth c s₁ [] 0 0 := Stand.of_body Bd
  have e0 : s₁.heap = h0 := by rw [← hh, Bd.state]; rfl
  have N0 := Fr.nil n0
  refine own_at (castTop (ef_32 m a2)) ?_
  have K0 := Keep.refl h0 []
  obtain ⟨S1, P5, S2, rf, S3, S4, S5⟩ := id hst
  obtain ⟨T00, h00, X00, e00, E00, A00, D00, -, st00⟩ := newO X0 hx hZ hown (own_w hw 173 rfl) (own_w hw 3 rfl) (own_w hw 4 rfl) e0 (g := (mkF m 0 #[.val (.ref a2)] [])) rfl (hb hby d32_0) (by decide) (by decide)
  obtain ⟨b00, g00⟩ : ∃ z, z = h0.size := ⟨_, rfl⟩
  rw [← g00] at A00 D00 st00
  have g_b00 : n0 ≤ b00 := Nat.le_trans Z0 (Nat.le_of_eq g00.symm)
  have sz_b00 : h0.size ≤ b00 := Nat.le_trans K0.1 (Nat.le_of_eq g00.symm)
  have K00 := K0.ext E00
  have Z00 : n0 ≤ h00.size := Nat.le_trans Z0 E00.1
  have F_coder_b00 : Fld Z h00 b00 "java/lang/String" "coder" "B" (.int (0 : Int32)) := D00 (Or.inr (own_w hw 28 rfl)) (ty := .byte) (by decide)
  have F_value_b00 : Fld Z h00 b00 "java/lang/String" "value" "[B" .null := D00 (Or.inr (own_w hw 30 rfl)) (ty := (.array .byte)) (by decide)
  refine own_by st00 ?_
  have sg5 : own_G p e below T00 (mkF m 5 #[.val (.ref a2)] [(.ref a2), (.ref b00), (.ref b00)]) T00 (mkF m 3 #[.val (.ref a2)] [(.ref b00)]) := by
    intro t k
    refine XS.dup X00.here hx rfl (hb hby d32_3) rfl rfl ?_
    refine XS.aloadN X00.here hx rfl (hb hby d32_4) rfl rfl ?_
    exact k
  refine own_by sg5 ?_
  have BBn := BB.keep K00 List.not_mem_nil List.not_mem_nil
  obtain ⟨_, _, ⟨T5, L5, k5, n5⟩, -, X5, ⟨Lc5, hQ5, l5, y5, z5⟩, st5⟩ := X00.specialBack hx (y := own_n40) rfl hown (mvT hZ (own_w hw 174 rfl)) (mvT hZ (own_w hw 175 rfl)) (mvT hZ (own_w hw 176 rfl)) (by decide) (backOf (W := 1) (rm33 l Z a0 hw [] b00 a2 vb kb N cd cs gz gf h00 n0 Z00 (O.ext E00) hst A00 F_value_b00 F_coder_b00 g_b00 BBn hcd hcap hlat hcs hlen) hZ (own_w hw 176 rfl) (own_w hw 4 rfl) (by decide) (by decide)) (g := (mkF m 5 #[.val (.ref a2)] [(.ref a2), (.ref b00), (.ref b00)])) rfl (by rw [hml]; rfl) (Steps.refl _) (a := b00) (argsL := [(.ref a2)]) (rest := [(.ref b00)]) (lenOf pd_32_0 rfl) rfl (Nat.le_of_eq rfl) (hb hby d32_5) (fun _ _ => ⟨rfl, e00, (by decide : 1 + 1 ≤ _), (by decide : 4 + 86 ≤ _)⟩)
  dsimp only [Pt.U, Pt.locs, Pt.cells, Pt.slots] at X5 l5 y5 z5 st5 hQ5
  subst l5 y5 z5
  obtain ⟨rfl, N5q, Kq5, tt, kt, MM, gt, TT⟩ := hQ5
  have N5 := Fr.app N0 N5q
  have gt' := Nat.le_trans K00.1 gt
  have K5 : Keep h0 T5.heap [] := K00.trans Kq5 (fun x hx => by cases List.mem_singleton.mp hx; exact (Or.inr sz_b00))
  have Z5 : n0 ≤ T5.heap.size := Nat.le_trans Z00 Kq5.1
  refine own_by (fun t k => st5.trans k) ?_
  obtain ⟨fs, hr, hrun, hended, hW, hsame⟩ := X5.leave (v := some (.ref b00)) (fun h => by rw [Bd.returns] at h; cases h)
  refine ⟨_, _, ?_, hrun, hended, _, _, rfl, ?_, ⟨_, rfl⟩, hW, hsame.mono (by decide) (by decide)⟩
  · show Steps p.tables e below (T5.setTop (mkF m 8 #[.val (.ref a2)] [(.ref b00)])) _
    jvm_step X5.here [X5.here.top, hx, (hb hby d32_8), X5.method', Bd.returns, Value.isRef, FieldType.isReference]
    first | (intro acts; rw [hr _ acts rfl rfl rfl]) | rw [hr _ _ rfl rfl rfl]
    exact Steps.refl _
  · show Q32 Z a2 vb kb N cd cs gz gf h0 n0 _ T5.heap _
    exact ⟨b00, tt, kt, MM, rfl, sz_b00, gt', N5, K5, TT⟩
abbrev own_b11 := jdk_68_method_2_code
theorem d11_0 : decode own_b11 0 = .ok (.aload_n 0, 1) := by decide +kernel
theorem d11_1 : decode own_b11 1 = .ok (.invokespecial 3, 3) := by decide +kernel
theorem d11_4 : decode own_b11 4 = .ok (.getstatic 18, 3) := by decide +kernel
theorem d11_7 : decode own_b11 7 = .ok (.ifCond .eq 18, 3) := by decide +kernel
theorem d11_10 : decode own_b11 10 = .ok (.aload_n 0, 1) := by decide +kernel
theorem d11_11 : decode own_b11 11 = .ok (.iload_n 1, 1) := by decide +kernel
theorem d11_12 : decode own_b11 12 = .ok (.newarray .byte, 2) := by decide +kernel
theorem d11_14 : decode own_b11 14 = .ok (.putfield 15, 3) := by decide +kernel
theorem d11_17 : decode own_b11 17 = .ok (.aload_n 0, 1) := by decide +kernel
theorem d11_18 : decode own_b11 18 = .ok (.iconst 0, 1) := by decide +kernel
theorem d11_19 : decode own_b11 19 = .ok (.putfield 22, 3) := by decide +kernel
theorem d11_22 : decode own_b11 22 = .ok (.goto 16, 3) := by decide +kernel
theorem d11_38 : decode own_b11 38 = .ok (.return_, 1) := by decide +kernel
theorem pn_11 : plainFor (⟨"java/lang/AbstractStringBuilder", "<init>", "(I)V"⟩ : MethodName) = true := by first | exact plainFor_of_name (by first | (simp [plainName, overriddenIn]; done) | decide +kernel) | decide +kernel | exact Jvm.Free.JP.mathPlain rfl (by decide +kernel)
theorem ef_11 (m : MethodId) (a1 : Addr) (p1 : Int32) : entryFrame m #[(.ref a1), (.int p1)] 2 = mkF m 0 #[.val (.ref a1), .val (.int p1)] [] := by first | (simp [entryFrame, mkF, argsToLocals, Value.category]; done) | rfl
abbrev own_r11 : Room := { frames := 1, cells := 1, slots := 42, locals := 12 }
def Q11 (Z : State) (a1 : Addr) (p1 : Int32) (mm : Nat) (gz : Int32) (gf : Value) (h0 : Heap) (n0 : Nat) (v : Option Value) (h : Heap) (L : List Loc) : Prop := v = none ∧ Fr n0 L ∧ Keep h0 h [a1] ∧ ∃ (vb : Addr) (kb : ClassId), h0.size ≤ vb ∧ own_B Z h a1 vb kb mm (0 : Int32) []
theorem rm11 (l : Launch) (Z : State) (a0 : Array Value) (hw : ∀ d ∈ tables_1, d.before a0 Z = true) (ws : List Jvm.Cond) (a1 : Addr) (p1 : Int32) (mm : Nat) (gz : Int32) (gf : Value) (h0 : Heap) (n0 : Nat) (Z0 : n0 ≤ h0.size) (O : Old Z n0 h0) (hst : own_ST Z gz gf) (E_a1 : Exa Z h0 a1 "java/lang/StringBuilder") (F_v : Fld Z h0 a1 "java/lang/AbstractStringBuilder" "value" "[B" .null) (F_c : Fld Z h0 a1 "java/lang/AbstractStringBuilder" "coder" "B" (.int (0 : Int32))) (F_m : Fld Z h0 a1 "java/lang/AbstractStringBuilder" "maybeLatin1" "Z" (.int (0 : Int32))) (F_n : Fld Z h0 a1 "java/lang/AbstractStringBuilder" "count" "I" (.int (0 : Int32))) (g_a1 : n0 ≤ a1) (hp1 : p1 = Int32.ofNat mm) (hm : mm ≤ 42) :
    MetFree l own_n41 (head1 (Jvm.Cond.code own_n41 jdk_68_method_2_code 2 none :: ws) own_r11) (fun a U => a = #[(.ref a1), (.int p1)] ∧ Z.Warmed39 U.vm ∧ U.heap = h0) (fun _ _ _ _ _ => True) (fun _ U o U' => ∃ v L, o = .returned v ∧ Q11 Z a1 p1 mm gz gf h0 n0 v U'.heap L ∧ FrameEnd U o U' L own_r11.cells own_r11.slots) := by
  refine MetFree.of_bodySF pn_11 hisR ?_
  intro p e s m args below meth c s₁ Bd hml0 hP hK
  obtain ⟨rfl, hZ, hh⟩ := hP
  have hx := Bd.exec
  have hby := Bd.bytes
  have hml : c.maxLocals = 2 := hml0
  have hown : s.vm.findClass "java/lang/AbstractStringBuilder" = some m.cls := findClass_of_methodNamed Bd.named
  have hnm := (name_of_methodNamed Bd.named Bd.method).1
  have X0 : Stand p l e own_r11 s m #[(.ref a1), (.int p1)] below meth c s₁ [] 0 0 := Stand.of_body Bd
  have e0 : s₁.heap = h0 := by rw [← hh, Bd.state]; rfl
  have N0 := Fr.nil n0
  refine own_at (castTop (ef_11 m a1 p1)) ?_
  have K0 := Keep.refl h0 [a1]
  obtain ⟨S1, P5, S2, rf, S3, S4, S5⟩ := id hst
  have sg1 : own_G p e below s₁ (mkF m 1 #[.val (.ref a1), .val (.int p1)] [(.ref a1)]) s₁ (mkF m 0 #[.val (.ref a1), .val (.int p1)] []) := by
    intro t k
    refine XS.aloadN X0.here hx rfl (hb hby d11_0) rfl rfl ?_
    exact k
  refine own_by sg1 ?_
  obtain ⟨T1, X1, e1, st1⟩ := initO X0 hx hZ hown (own_w hw 57 rfl) (own_w hw 13 rfl) (own_w hw 14 rfl) e0 (g := (mkF m 1 #[.val (.ref a1), .val (.int p1)] [(.ref a1)])) rfl (by rw [hml]; rfl) rfl (hb hby d11_1) (by decide) (W := 0) (by show 2 * 0 + _ ≤ _; exact Nat.le_of_eq rfl) (by decide)
  refine own_by st1 ?_
  obtain ⟨T4, X4, e4, st4⟩ := getS2 X1 hx hZ hown (host := "") (Or.inl (own_w hw 58 rfl)) Via.refl e1 (S1.ext O.2) (g := (mkF m 4 #[.val (.ref a1), .val (.int p1)] [])) rfl (hb hby d11_4)
  refine own_by st4 ?_
  have sg12 : own_G p e below T4 (mkF m 12 #[.val (.ref a1), .val (.int p1)] [(.int p1), (.ref a1)]) T4 (mkF m 7 #[.val (.ref a1), .val (.int p1)] [(.int gz)]) := by
    intro t k
    refine XS.ifNo X4.here hx rfl (hb hby d11_7) rfl ((if0 _ _).trans (feq P5).1) ?_
    refine XS.aloadN X4.here hx rfl (hb hby d11_10) rfl rfl ?_
    refine XS.iloadN X4.here hx rfl (hb hby d11_11) rfl ?_
    exact k
  refine own_by sg12 ?_
  obtain ⟨T12, h12, kc12, X12, e12, E12, A12, Ex12, st12⟩ := newPE X4 hx hZ (own_w hw 20 rfl) e4 (g := (mkF m 12 #[.val (.ref a1), .val (.int p1)] [(.int p1), (.ref a1)])) rfl (hb hby d11_12) rfl (own_nge hp1 (by omega)) (cap := 42) (by rw [own_ntc hp1 (by omega)]; omega) (by decide) (by decide) (by decide) (ad := "[B") (by decide)
  obtain ⟨b12, g12⟩ : ∃ z, z = h0.size := ⟨_, rfl⟩
  rw [← g12] at A12 st12 Ex12
  have ne_a1_b12 : a1 ≠ b12 := Nat.ne_of_lt (Nat.lt_of_lt_of_le E_a1.lt (Nat.le_of_eq g12.symm))
  have g_b12 : n0 ≤ b12 := Nat.le_trans Z0 (Nat.le_of_eq g12.symm)
  have sz_b12 : h0.size ≤ b12 := Nat.le_trans K0.1 (Nat.le_of_eq g12.symm)
  have K12 := K0.ext E12
  have Z12 : n0 ≤ h12.size := Nat.le_trans Z0 E12.1
  have V12 : Arv Z h12 b12 kc12 .byte (Int32.ofNat (mm)) [] (.int (0 : Int32)) := by have q := Arv.new A12 (own_nge hp1 (by omega)); rw [hp1] at q; exact q
  refine own_by st12 ?_
  obtain ⟨T14, h14, X14, e14, W14, st14⟩ := putF X12 hx hZ hown (host := "") (Or.inl (own_w hw 59 rfl)) Via.refl e12 (F_v.ext E12) (E_a1.ext E12) (Or.inl (own_w hw 60 rfl)) (own_w hw 36 rfl) (ty := (.array .byte)) (by decide) rfl rfl (g := (mkF m 14 #[.val (.ref a1), .val (.int p1)] [(.ref b12), (.ref a1)])) rfl rfl (hb hby d11_14)
  have Fw14 := (F_v.ext E12).same W14
  have fc := ((F_c.ext E12).other W14 (Or.inr (slot_ne (Or.inl (own_w hw 62 rfl)) (Or.inl (own_w hw 60 rfl)) (by decide) (t := .byte) (t' := (.array .byte)) (by decide) (by decide))))
  have fc_2 := ((F_m.ext E12).other W14 (Or.inr (slot_ne (Or.inl (own_w hw 279 rfl)) (Or.inl (own_w hw 60 rfl)) (by decide) (t := .boolean) (t' := (.array .byte)) (by decide) (by decide))))
  have fc_3 := ((F_n.ext E12).other W14 (Or.inr (slot_ne (Or.inl (own_w hw 74 rfl)) (Or.inl (own_w hw 60 rfl)) (by decide) (t := .int) (t' := (.array .byte)) (by decide) (by decide))))
  have K14 : Keep h0 h14 [a1] := K12.wr W14 (Or.inl (List.mem_of_getElem? (i := 0) rfl))
  have Z14 : n0 ≤ h14.size := Nat.le_trans Z12 (Keep.of_wr W14).1
  have N14 := Fr.snoc X14 N0 g_a1
  refine own_by st14 ?_
  have sg19 : own_G p e below T14 (mkF m 19 #[.val (.ref a1), .val (.int p1)] [(.int (0 : Int32)), (.ref a1)]) T14 (mkF m 17 #[.val (.ref a1), .val (.int p1)] []) := by
    intro t k
    refine XS.aloadN X14.here hx rfl (hb hby d11_17) rfl rfl ?_
    refine XS.iconst X14.here hx rfl (hb hby d11_18) ?_
    exact k
  refine own_by sg19 ?_
  obtain ⟨T19, h19, X19, e19, W19, st19⟩ := putF X14 hx hZ hown (host := "") (Or.inl (own_w hw 61 rfl)) Via.refl e14 fc ((E_a1.ext E12).wr W14) (Or.inl (own_w hw 62 rfl)) (own_w hw 36 rfl) (ty := .byte) (by decide) rfl rfl (g := (mkF m 19 #[.val (.ref a1), .val (.int p1)] [(.int (0 : Int32)), (.ref a1)])) rfl rfl (hb hby d11_19)
  have Fw19 := fc.same W19
  have fc_4 := (Fw14.other W19 (Or.inr (slot_ne (Or.inl (own_w hw 60 rfl)) (Or.inl (own_w hw 62 rfl)) (by decide) (t := (.array .byte)) (t' := .byte) (by decide) (by decide))))
  have fc_5 := (fc_2.other W19 (Or.inr (slot_ne (Or.inl (own_w hw 279 rfl)) (Or.inl (own_w hw 62 rfl)) (by decide) (t := .boolean) (t' := .byte) (by decide) (by decide))))
  have fc_6 := (fc_3.other W19 (Or.inr (slot_ne (Or.inl (own_w hw 74 rfl)) (Or.inl (own_w hw 62 rfl)) (by decide) (t := .int) (t' := .byte) (by decide) (by decide))))
  have fc_7 := ((V12.other W14 (Ne.symm ne_a1_b12)).other W19 (Ne.symm ne_a1_b12))
  have K19 : Keep h0 h19 [a1] := K14.wr W19 (Or.inl (List.mem_of_getElem? (i := 0) rfl))
  have Z19 : n0 ≤ h19.size := Nat.le_trans Z14 (Keep.of_wr W19).1
  have N19 := Fr.snoc X19 N14 g_a1
  refine own_by st19 ?_
  have sg38 : own_G p e below T19 (mkF m 38 #[.val (.ref a1), .val (.int p1)] []) T19 (mkF m 22 #[.val (.ref a1), .val (.int p1)] []) := by
    intro t k
    refine XS.goto X19.here hx rfl (pc0 := 22) (pc' := 38) rfl (hb hby d11_22) (by decide) (by decide) ?_
    exact k
  refine own_by sg38 ?_
  obtain ⟨fs, hr, hrun, hended, hW, hsame⟩ := X19.leave (v := none) (fun _ => rfl)
  refine ⟨_, _, ?_, hrun, hended, _, _, rfl, ?_, ⟨_, rfl⟩, hW, hsame.mono (by decide) (by decide)⟩
  · exact X19.returnOut hx Bd.returns (hb hby d11_38) hr
  · show Q11 Z a1 p1 mm gz gf h0 n0 _ T19.heap _
    rw [e19]
    exact ⟨rfl, N19, K19, b12, _, sz_b12, (((E_a1.ext E12).wr W14).wr W19), fc_4, Fw19, fc_5, fc_6, ((Ex12.wr W14).wr W19), fc_7⟩
abbrev own_b10 := jdk_67_method_2_code
theorem d10_0 : decode own_b10 0 = .ok (.aload_n 0, 1) := by decide +kernel
theorem d10_1 : decode own_b10 1 = .ok (.iload_n 1, 1) := by decide +kernel
theorem d10_2 : decode own_b10 2 = .ok (.invokespecial 1, 3) := by decide +kernel
theorem d10_5 : decode own_b10 5 = .ok (.return_, 1) := by decide +kernel
theorem pn_10 : plainFor (⟨"java/lang/StringBuilder", "<init>", "(I)V"⟩ : MethodName) = true := by first | exact plainFor_of_name (by first | (simp [plainName, overriddenIn]; done) | decide +kernel) | decide +kernel | exact Jvm.Free.JP.mathPlain rfl (by decide +kernel)
theorem pd_10_0 : parseMethodDescriptor "(I)V" = some ⟨[.int], none⟩ := by decide +kernel
theorem ef_10 (m : MethodId) (a1 : Addr) (p1 : Int32) : entryFrame m #[(.ref a1), (.int p1)] 2 = mkF m 0 #[.val (.ref a1), .val (.int p1)] [] := by first | (simp [entryFrame, mkF, argsToLocals, Value.category]; done) | rfl
abbrev own_r10 : Room := { frames := 2, cells := 1, slots := 42, locals := 25 }
def Q10 (Z : State) (a1 : Addr) (p1 : Int32) (mm : Nat) (gz : Int32) (gf : Value) (h0 : Heap) (n0 : Nat) (v : Option Value) (h : Heap) (L : List Loc) : Prop := v = none ∧ Fr n0 L ∧ Keep h0 h [a1] ∧ ∃ (vb : Addr) (kb : ClassId), h0.size ≤ vb ∧ own_B Z h a1 vb kb mm (0 : Int32) []
theorem rm10 (l : Launch) (Z : State) (a0 : Array Value) (hw : ∀ d ∈ tables_1, d.before a0 Z = true) (ws : List Jvm.Cond) (a1 : Addr) (p1 : Int32) (mm : Nat) (gz : Int32) (gf : Value) (h0 : Heap) (n0 : Nat) (Z0 : n0 ≤ h0.size) (O : Old Z n0 h0) (hst : own_ST Z gz gf) (E_a1 : Exa Z h0 a1 "java/lang/StringBuilder") (F_v : Fld Z h0 a1 "java/lang/AbstractStringBuilder" "value" "[B" .null) (F_c : Fld Z h0 a1 "java/lang/AbstractStringBuilder" "coder" "B" (.int (0 : Int32))) (F_m : Fld Z h0 a1 "java/lang/AbstractStringBuilder" "maybeLatin1" "Z" (.int (0 : Int32))) (F_n : Fld Z h0 a1 "java/lang/AbstractStringBuilder" "count" "I" (.int (0 : Int32))) (g_a1 : n0 ≤ a1) (hp1 : p1 = Int32.ofNat mm) (hm : mm ≤ 42) :
    MetFree l own_n49 (head1 (Jvm.Cond.code own_n49 jdk_67_method_2_code 2 none :: ws) own_r10) (fun a U => a = #[(.ref a1), (.int p1)] ∧ Z.Warmed39 U.vm ∧ U.heap = h0) (fun _ _ _ _ _ => True) (fun _ U o U' => ∃ v L, o = .returned v ∧ Q10 Z a1 p1 mm gz gf h0 n0 v U'.heap L ∧ FrameEnd U o U' L own_r10.cells own_r10.slots) := by
  refine MetFree.of_bodySF pn_10 hisR ?_
  intro p e s m args below meth c s₁ Bd hml0 hP hK
  obtain ⟨rfl, hZ, hh⟩ := hP
  have hx := Bd.exec
  have hby := Bd.bytes
  have hml : c.maxLocals = 2 := hml0
  have hown : s.vm.findClass "java/lang/StringBuilder" = some m.cls := findClass_of_methodNamed Bd.named
  have hnm := (name_of_methodNamed Bd.named Bd.method).1
  have X0 : Stand p l e own_r10 s m #[(.ref a1), (.int p1)] below meth c s₁ [] 0 0 := Stand.of_body Bd
  have e0 : s₁.heap = h0 := by rw [← hh, Bd.state]; rfl
  have N0 := Fr.nil n0
  refine own_at (castTop (ef_10 m a1 p1)) ?_
  have K0 := Keep.refl h0 [a1]
  obtain ⟨S1, P5, S2, rf, S3, S4, S5⟩ := id hst
  have sg2 : own_G p e below s₁ (mkF m 2 #[.val (.ref a1), .val (.int p1)] [(.int p1), (.ref a1)]) s₁ (mkF m 0 #[.val (.ref a1), .val (.int p1)] []) := by
    intro t k
    refine XS.aloadN X0.here hx rfl (hb hby d10_0) rfl rfl ?_
    refine XS.iloadN X0.here hx rfl (hb hby d10_1) rfl ?_
    exact k
  refine own_by sg2 ?_
  obtain ⟨_, _, ⟨T2, L2, k2, n2⟩, -, X2, ⟨Lc2, hQ2, l2, y2, z2⟩, st2⟩ := X0.specialBack hx (y := own_n41) rfl hown (mvT hZ (own_w hw 51 rfl)) (mvT hZ (own_w hw 52 rfl)) (mvT hZ (own_w hw 56 rfl)) (by decide) (backOf (W := 0) (rm11 l Z a0 hw [] a1 p1 mm gz gf h0 n0 Z0 O hst E_a1 F_v F_c F_m F_n g_a1 hp1 hm) hZ (own_w hw 56 rfl) (own_w hw 55 rfl) (by decide) (by decide)) (g := (mkF m 2 #[.val (.ref a1), .val (.int p1)] [(.int p1), (.ref a1)])) rfl (by rw [hml]; rfl) (Steps.refl _) (a := a1) (argsL := [(.int p1)]) (rest := []) (lenOf pd_10_0 rfl) rfl (Nat.le_of_eq rfl) (hb hby d10_2) (fun _ _ => ⟨rfl, e0, (by decide : 0 + 1 ≤ _), (by decide : 0 + 42 ≤ _)⟩)
  dsimp only [Pt.U, Pt.locs, Pt.cells, Pt.slots] at X2 l2 y2 z2 st2 hQ2
  subst l2 y2 z2
  obtain ⟨rfl, N2q, Kq2, vb, kb, gv, BB⟩ := hQ2
  have N2 := Fr.app N0 N2q
  have K2 : Keep h0 T2.heap [a1] := K0.trans Kq2 (fun x hx => by cases List.mem_singleton.mp hx; exact (Or.inl (List.mem_of_getElem? (i := 0) rfl)))
  have Z2 : n0 ≤ T2.heap.size := Nat.le_trans Z0 Kq2.1
  refine own_by (fun t k => st2.trans k) ?_
  obtain ⟨fs, hr, hrun, hended, hW, hsame⟩ := X2.leave (v := none) (fun _ => rfl)
  refine ⟨_, _, ?_, hrun, hended, _, _, rfl, ?_, ⟨_, rfl⟩, hW, hsame.mono (by decide) (by decide)⟩
  · exact X2.returnOut hx Bd.returns (hb hby d10_5) hr
  · show Q10 Z a1 p1 mm gz gf h0 n0 _ T2.heap _
    exact ⟨rfl, N2, K2, vb, kb, gv, BB⟩
abbrev own_b5 := jdk_52_method_21_code
theorem d5_0 : decode own_b5 0 = .ok (.iconst 0, 1) := by decide +kernel
theorem d5_1 : decode own_b5 1 = .ok (.istore 5, 2) := by decide +kernel
theorem d5_3 : decode own_b5 3 = .ok (.iload 5, 2) := by decide +kernel
theorem d5_5 : decode own_b5 5 = .ok (.iload 4, 2) := by decide +kernel
theorem d5_7 : decode own_b5 7 = .ok (.if_icmp .ge 37, 3) := by decide +kernel
theorem d5_10 : decode own_b5 10 = .ok (.aload_n 0, 1) := by decide +kernel
theorem d5_11 : decode own_b5 11 = .ok (.iload_n 1, 1) := by decide +kernel
theorem d5_12 : decode own_b5 12 = .ok (.caload, 1) := by decide +kernel
theorem d5_13 : decode own_b5 13 = .ok (.istore 6, 2) := by decide +kernel
theorem d5_15 : decode own_b5 15 = .ok (.iload 6, 2) := by decide +kernel
theorem d5_17 : decode own_b5 17 = .ok (.sipush 255, 3) := by decide +kernel
theorem d5_20 : decode own_b5 20 = .ok (.if_icmp .le 6, 3) := by decide +kernel
theorem d5_26 : decode own_b5 26 = .ok (.aload_n 2, 1) := by decide +kernel
theorem d5_27 : decode own_b5 27 = .ok (.iload_n 3, 1) := by decide +kernel
theorem d5_28 : decode own_b5 28 = .ok (.iload 6, 2) := by decide +kernel
theorem d5_30 : decode own_b5 30 = .ok (.i2b, 1) := by decide +kernel
theorem d5_31 : decode own_b5 31 = .ok (.bastore, 1) := by decide +kernel
theorem d5_32 : decode own_b5 32 = .ok (.iinc 1 1, 3) := by decide +kernel
theorem d5_35 : decode own_b5 35 = .ok (.iinc 3 1, 3) := by decide +kernel
theorem d5_38 : decode own_b5 38 = .ok (.iinc 5 1, 3) := by decide +kernel
theorem d5_41 : decode own_b5 41 = .ok (.goto (-38), 3) := by decide +kernel
theorem d5_44 : decode own_b5 44 = .ok (.iload 4, 2) := by decide +kernel
theorem d5_46 : decode own_b5 46 = .ok (.ireturn, 1) := by decide +kernel
theorem pn_5a : plainFor (⟨"java/lang/StringUTF16", "compress", "([CI[BII)I"⟩ : MethodName) = true := by first | exact plainFor_of_name (by first | (simp [plainName, overriddenIn]; done) | decide +kernel) | decide +kernel | exact Jvm.Free.JP.mathPlain rfl (by decide +kernel)
theorem ef_5a (m : MethodId) (a1 : Addr) (a3 : Addr) (p4 : Int32) : entryFrame m #[(.ref a1), (.int (0 : Int32)), (.ref a3), (.int (0 : Int32)), (.int p4)] 7 = mkF m 0 #[.val (.ref a1), .val (.int (0 : Int32)), .val (.ref a3), .val (.int (0 : Int32)), .val (.int p4), .unset, .unset] [] := by first | (simp [entryFrame, mkF, argsToLocals, Value.category]; done) | rfl
abbrev own_r5a : Room := { frames := 0, cells := 0, slots := 0, locals := 0 }
def Q5a (Z : State) (a1 : Addr) (a3 : Addr) (p4 : Int32) (kc : ClassId) (cs : List Int32) (kd : ClassId) (Nd : Nat) (ls : List Int32) (h0 : Heap) (n0 : Nat) (v : Option Value) (h : Heap) (L : List Loc) : Prop := v = some (.int p4) ∧ Fr n0 L ∧ Keep h0 h [a3] ∧ Arv Z h a3 kd .byte (Int32.ofNat (Nd)) (own_c0 ls) (.int (0 : Int32))
theorem rm5a (l : Launch) (Z : State) (a0 : Array Value) (hw : ∀ d ∈ tables_1, d.before a0 Z = true) (ws : List Jvm.Cond) (a1 : Addr) (a3 : Addr) (p4 : Int32) (kc : ClassId) (cs : List Int32) (kd : ClassId) (Nd : Nat) (ls : List Int32) (h0 : Heap) (n0 : Nat) (Z0 : n0 ≤ h0.size) (A_s : Arv Z h0 a1 kc .char (Int32.ofNat (cs).length) ((cs).map Value.int) (.int (0 : Int32))) (A_d : Arv Z h0 a3 kd .byte (Int32.ofNat (Nd)) [] (.int (0 : Int32))) (hp4 : p4 = Int32.ofNat cs.length) (hNd : Nd = cs.length) (hln : cs.length ≤ 3) (hlat : own_lat ls) (n13 : a1 ≠ a3) (g_a3 : n0 ≤ a3) (hcs : cs = ls ++ []) :
    MetFree l own_n42 (head1 (Jvm.Cond.code own_n42 jdk_52_method_21_code 7 (some .int) :: ws) own_r5a) (fun a U => a = #[(.ref a1), (.int (0 : Int32)), (.ref a3), (.int (0 : Int32)), (.int p4)] ∧ Z.Warmed39 U.vm ∧ U.heap = h0) (fun _ _ _ _ _ => True) (fun _ U o U' => ∃ v L, o = .returned v ∧ Q5a Z a1 a3 p4 kc cs kd Nd ls h0 n0 v U'.heap L ∧ FrameEnd U o U' L own_r5a.cells own_r5a.slots) := by
  refine MetFree.of_bodySF pn_5a hisR ?_
  intro p e s m args below meth c s₁ Bd hml0 hP hK
  obtain ⟨rfl, hZ, hh⟩ := hP
  have hx := Bd.exec
  have hby := Bd.bytes
  have hml : c.maxLocals = 7 := hml0
  have hown : s.vm.findClass "java/lang/StringUTF16" = some m.cls := findClass_of_methodNamed Bd.named
  have hnm := (name_of_methodNamed Bd.named Bd.method).1
  have X0 : Stand p l e own_r5a s m #[(.ref a1), (.int (0 : Int32)), (.ref a3), (.int (0 : Int32)), (.int p4)] below meth c s₁ [] 0 0 := Stand.of_body Bd
  have e0 : s₁.heap = h0 := by rw [← hh, Bd.state]; rfl
  have N0 := Fr.nil n0
  refine own_at (castTop (ef_5a m a1 a3 p4)) ?_
  have K0 := Keep.refl h0 [a3]
  have hll_ : cs.length = ls.length := by rw [hcs]; simp
  have sg3 : own_G p e below s₁ (mkF m 3 (own_ARIRIIIU a1 (0 : Int32) a3 (0 : Int32) p4 (0 : Int32)) []) s₁ (mkF m 0 (own_ARIRIIUU a1 (0 : Int32) a3 (0 : Int32) p4) []) := by
    intro t k
    refine XS.iconst X0.here hx rfl (hb hby d5_0) ?_
    refine XS.istore X0.here hx rfl (hb hby d5_1) rfl (l' := (own_ARIRIIIU a1 (0 : Int32) a3 (0 : Int32) p4 (0 : Int32))) rfl ?_
    exact k
  refine own_by sg3 ?_
  have loop : ∀ (rest done : List Int32) (i : Int32) (x6 : Slot) (T : State) (L : List Loc) (H : Heap), ls = done ++ rest → i = Int32.ofNat done.length → Stand p l e own_r5a s m #[(.ref a1), (.int (0 : Int32)), (.ref a3), (.int (0 : Int32)), (.int p4)] below meth c T L 0 0 → Fr n0 L → T.heap = H → Keep h0 H [a3] → n0 ≤ H.size → Arv Z H a3 kd .byte (Int32.ofNat (Nd)) (own_c0 done) (.int (0 : Int32)) → own_one x6 → ∃ (T' : State) (L' : List Loc) (H' : Heap) (i' : Int32) (y6 : Slot), own_one y6 ∧ i' = Int32.ofNat ls.length ∧ Stand p l e own_r5a s m #[(.ref a1), (.int (0 : Int32)), (.ref a3), (.int (0 : Int32)), (.int p4)] below meth c T' L' 0 0 ∧ Fr n0 L' ∧ T'.heap = H' ∧ Keep h0 H' [a3] ∧ Arv Z H' a3 kd .byte (Int32.ofNat (Nd)) (own_c0 ls) (.int (0 : Int32)) ∧ ∀ t, own_S p e below T' (mkF m 3 (own_ARIRIIIS a1 i' a3 i' p4 i' y6) []) t → own_S p e below T (mkF m 3 (own_ARIRIIIS a1 i a3 i p4 i x6) []) t := by
    intro rest
    induction rest with
    | nil =>
      intro done i x6 T L H hd hi X NL eT KH ZH AH o6
      have hdn : ls = done := by rw [hd]; simp
      exact ⟨T, L, H, i, x6, o6, (by rw [hdn]; exact hi), X, NL, eT, KH, (by rw [hdn]; exact AH), fun t k => k⟩
    | cons c rest ih =>
      intro done i x6 T L H hd hi X NL eT KH ZH AH o6
      have AS := A_s.keep KH (fun h => n13 (List.mem_singleton.mp h))
      have hq0 : ls[done.length]? = some c := by rw [hd]; simp
      have hll : done.length < ls.length := (List.getElem?_eq_some_iff.mp hq0).1
      have hcc := hlat c (List.mem_of_getElem? hq0)
      have hq : cs[done.length]? = some c := by rw [hcs, List.getElem?_append_left hll]; exact hq0
      have hlc : ls.length ≤ cs.length := by rw [hcs]; simp
      have sg12 : own_G p e below T (mkF m 12 (own_ARIRIIIS a1 i a3 i p4 i x6) [(.int i), (.ref a1)]) T (mkF m 3 (own_ARIRIIIS a1 i a3 i p4 i x6) []) := by
        intro t k
        refine XS.iload X.here hx rfl (hb hby d5_3) rfl ?_
        refine XS.iload X.here hx rfl (hb hby d5_5) rfl ?_
        refine XS.icmpNo X.here hx rfl (hb hby d5_7) rfl (tlt ((own_nlt hi hp4 (by omega) (by omega)).mpr (by omega) : i < p4)).2.1 ?_
        refine XS.aloadN X.here hx rfl (hb hby d5_10) rfl rfl ?_
        refine XS.iloadN X.here hx rfl (hb hby d5_11) rfl ?_
        exact k
      obtain ⟨cl12, Ar12, qa12, Sa12, Na12, Ha12, Ga12⟩ := id AS
      have ib12 : ¬ (i < 0 ∨ cl12.slots.size ≤ i.toNatClampNeg) := inb_of Sa12 ⟨(own_nge (hi) (by omega)), (own_nlt hi (rfl : Int32.ofNat (cs.length) = Int32.ofNat (cs.length)) (by omega) (by omega)).mpr (by omega)⟩
      obtain ⟨k31, hk31⟩ : ∃ z : Int32, z = (c.toInt8.toInt32) := ⟨_, rfl⟩
      have sg31 : own_G p e below T (mkF m 31 (own_ARIRIIII a1 i a3 i p4 i c) [(.int k31), (.int i), (.ref a3)]) T (mkF m 12 (own_ARIRIIIS a1 i a3 i p4 i x6) [(.int i), (.ref a1)]) := by
        intro t k
        rw [hk31] at k
        refine X.caload hx (j := i) (v := (.int c)) (by rw [eT]; exact Ar12.1) (State.isArrayOf_alike hZ.alike Ar12.2.1) Ar12.2.2 ib12 (Has.at Ha12 ib12 (by rw [own_ntc (hi) (by omega)]; exact own_chat hq _)) (g := (mkF m 12 (own_ARIRIIIS a1 i a3 i p4 i x6) [(.int i), (.ref a1)])) rfl rfl (hb hby d5_12) _ ?_
        refine XS.istore X.here hx rfl (hb hby d5_13) rfl (l' := (own_ARIRIIII a1 i a3 i p4 i c)) (own_sto rfl o6 rfl rfl) ?_
        refine XS.iload X.here hx rfl (hb hby d5_15) rfl ?_
        refine XS.sipush X.here hx rfl (hb hby d5_17) ?_
        refine XS.icmpYes X.here hx rfl (pc0 := 20) (pc' := 26) rfl (hb hby d5_20) rfl (flt (hcc.2 : ¬ ((255 : Int32) < c))).2.2.2 (by decide) (by decide) ?_
        refine XS.aloadN X.here hx rfl (hb hby d5_26) rfl rfl ?_
        refine XS.iloadN X.here hx rfl (hb hby d5_27) rfl ?_
        refine XS.iload X.here hx rfl (hb hby d5_28) rfl ?_
        refine XS.i2b X.here hx rfl (hb hby d5_30) rfl ?_
        exact k
      have nb_k31 : k31.toInt8.toInt32 = k31 := by rw [hk31]; exact own_i2b2 _
      have Pd31 : Arv Z H a3 kd .byte (Int32.ofNat (Nd)) (own_c0 done ++ List.replicate 1 (.int (0 : Int32))) (.int (0 : Int32)) := (AH).pad (own_padr _ _ 1)
      obtain ⟨cl31, Ar31, qa31, Sa31, Na31, Ha31, Ga31⟩ := id Pd31
      obtain ⟨T31, h31, X31, e31, W31, st31⟩ := stB X hx hZ eT Ar31 (j := i) (inb_of Sa31 ⟨(own_nge (hi) (by omega)), (own_nlt hi (rfl : Int32.ofNat (Nd) = Int32.ofNat (Nd)) (by omega) (by omega)).mpr (by omega)⟩) (g := (mkF m 31 (own_ARIRIIII a1 i a3 i p4 i c) [(.int k31), (.int i), (.ref a3)])) rfl rfl (hb hby d5_31)
      have V31 : Arv Z h31 a3 kd .byte (Int32.ofNat (Nd)) (List.set (own_c0 done ++ List.replicate 1 (.int (0 : Int32))) (done.length) (.int k31)) (.int (0 : Int32)) := by
        have q := Arv.set Ar31 qa31 Sa31 Na31 Ha31 Ga31 (fits_nar_byte _) W31 (done.length) ((own_ntc (hi) (by omega)).trans (by omega)) (by simp [own_c0_len])
        rw [nb_k31] at q
        exact q
      have K31 : Keep h0 h31 [a3] := KH.wr W31 (Or.inl (List.mem_of_getElem? (i := 0) rfl))
      have Z31 : n0 ≤ h31.size := Nat.le_trans ZH (Keep.of_wr W31).1
      have N31 := Fr.snoc X31 NL g_a3
      have sg3_2 : own_G p e below T31 (mkF m 3 (own_ARIRIIII a1 (i + (1 : Int32)) a3 (i + (1 : Int32)) p4 (i + (1 : Int32)) c) []) T31 (mkF m 32 (own_ARIRIIII a1 i a3 i p4 i c) []) := by
        intro t k
        refine XS.iinc X31.here hx rfl (hb hby d5_32) rfl (l' := (own_ARIRIIII a1 (i + (1 : Int32)) a3 i p4 i c)) rfl ?_
        refine XS.iinc X31.here hx rfl (hb hby d5_35) rfl (l' := (own_ARIRIIII a1 (i + (1 : Int32)) a3 (i + (1 : Int32)) p4 i c)) rfl ?_
        refine XS.iinc X31.here hx rfl (hb hby d5_38) rfl (l' := (own_ARIRIIII a1 (i + (1 : Int32)) a3 (i + (1 : Int32)) p4 (i + (1 : Int32)) c)) rfl ?_
        refine XS.goto X31.here hx rfl (pc0 := 41) (pc' := 3) rfl (hb hby d5_41) (by decide) (by decide) ?_
        exact k
      obtain ⟨T', L', H', i', y6, q6, r0, r1, r2, r3, r4, r5, st'⟩ := ih (done ++ [c]) (i + (1 : Int32)) (.val (.int c)) T31 _ h31 (by rw [hd]; simp) (by rw [List.length_append]; exact (own_nadd (n := 1) hi (rfl : (1 : Int32) = Int32.ofNat 1))) X31 N31 e31 K31 Z31 (by have q := V31; rw [own_set1 (own_c0 done) _ _ done.length (own_c0_len done), hk31] at q; rw [own_c0_snoc]; exact q) (own_one1 rfl)
      exact ⟨T', L', H', i', y6, q6, r0, r1, r2, r3, r4, r5, fun t k => (sg12 t (sg31 t (st31 t (sg3_2 t (st' t k)))))⟩
  have hlc : ls.length ≤ cs.length := by rw [hcs]; simp
  obtain ⟨Tlo, Llo, Hlo, i', y6, o6, hi', Xlo, Nlo, elo, Klo, Alo, stlo⟩ := loop ls [] (0 : Int32) .unset s₁ _ h0 rfl rfl X0 N0 e0 K0 Z0 A_d own_one0
  have AS := A_s.keep Klo (fun h => n13 (List.mem_singleton.mp h))
  refine own_by stlo ?_
  have sg46 : own_G p e below Tlo (mkF m 46 (own_ARIRIIIS a1 i' a3 i' p4 i' y6) [(.int p4)]) Tlo (mkF m 3 (own_ARIRIIIS a1 i' a3 i' p4 i' y6) []) := by
    intro t k
    refine XS.iload Xlo.here hx rfl (hb hby d5_3) rfl ?_
    refine XS.iload Xlo.here hx rfl (hb hby d5_5) rfl ?_
    refine XS.icmpYes Xlo.here hx rfl (pc0 := 7) (pc' := 44) rfl (hb hby d5_7) rfl (flt ((not_congr (own_nlt hi' hp4 (by omega) (by omega))).mpr (by omega) : ¬ (i' < p4))).2.1 (by decide) (by decide) ?_
    refine XS.iload Xlo.here hx rfl (hb hby d5_44) rfl ?_
    exact k
  refine own_by sg46 ?_
  obtain ⟨fs, hr, hrun, hended, hW, hsame⟩ := Xlo.leave (v := some (.int p4)) (fun h => by rw [Bd.returns] at h; cases h)
  refine ⟨_, _, ?_, hrun, hended, _, _, rfl, ?_, ⟨_, rfl⟩, hW, hsame.mono (by decide) (by decide)⟩
  · exact retI Xlo hx Bd.returns (hb hby d5_46) hr
  · show Q5a Z a1 a3 p4 kc cs kd Nd ls h0 n0 _ Tlo.heap _
    rw [elo]
    exact ⟨rfl, Nlo, Klo, Alo⟩
theorem d5_23 : decode own_b5 23 = .ok (.iload 5, 2) := by decide +kernel
theorem d5_25 : decode own_b5 25 = .ok (.ireturn, 1) := by decide +kernel
theorem pn_5b : plainFor (⟨"java/lang/StringUTF16", "compress", "([CI[BII)I"⟩ : MethodName) = true := by first | exact plainFor_of_name (by first | (simp [plainName, overriddenIn]; done) | decide +kernel) | decide +kernel | exact Jvm.Free.JP.mathPlain rfl (by decide +kernel)
theorem ef_5b (m : MethodId) (a1 : Addr) (a3 : Addr) (p4 : Int32) : entryFrame m #[(.ref a1), (.int (0 : Int32)), (.ref a3), (.int (0 : Int32)), (.int p4)] 7 = mkF m 0 #[.val (.ref a1), .val (.int (0 : Int32)), .val (.ref a3), .val (.int (0 : Int32)), .val (.int p4), .unset, .unset] [] := by first | (simp [entryFrame, mkF, argsToLocals, Value.category]; done) | rfl
abbrev own_r5b : Room := { frames := 0, cells := 0, slots := 0, locals := 0 }
def Q5b (Z : State) (a1 : Addr) (a3 : Addr) (p4 : Int32) (kc : ClassId) (cs : List Int32) (kd : ClassId) (Nd : Nat) (ls : List Int32) (ch : Int32) (post : List Int32) (h0 : Heap) (n0 : Nat) (v : Option Value) (h : Heap) (L : List Loc) : Prop := v = some (.int (Int32.ofNat ls.length)) ∧ Fr n0 L ∧ Keep h0 h [a3]
theorem rm5b (l : Launch) (Z : State) (a0 : Array Value) (hw : ∀ d ∈ tables_1, d.before a0 Z = true) (ws : List Jvm.Cond) (a1 : Addr) (a3 : Addr) (p4 : Int32) (kc : ClassId) (cs : List Int32) (kd : ClassId) (Nd : Nat) (ls : List Int32) (ch : Int32) (post : List Int32) (h0 : Heap) (n0 : Nat) (Z0 : n0 ≤ h0.size) (A_s : Arv Z h0 a1 kc .char (Int32.ofNat (cs).length) ((cs).map Value.int) (.int (0 : Int32))) (A_d : Arv Z h0 a3 kd .byte (Int32.ofNat (Nd)) [] (.int (0 : Int32))) (hp4 : p4 = Int32.ofNat cs.length) (hNd : Nd = cs.length) (hln : cs.length ≤ 3) (hlat : own_lat ls) (n13 : a1 ≠ a3) (g_a3 : n0 ≤ a3) (hcs : cs = ls ++ ch :: post) (hbig : (255 : Int32) < ch) :
    MetFree l own_n42 (head1 (Jvm.Cond.code own_n42 jdk_52_method_21_code 7 (some .int) :: ws) own_r5b) (fun a U => a = #[(.ref a1), (.int (0 : Int32)), (.ref a3), (.int (0 : Int32)), (.int p4)] ∧ Z.Warmed39 U.vm ∧ U.heap = h0) (fun _ _ _ _ _ => True) (fun _ U o U' => ∃ v L, o = .returned v ∧ Q5b Z a1 a3 p4 kc cs kd Nd ls ch post h0 n0 v U'.heap L ∧ FrameEnd U o U' L own_r5b.cells own_r5b.slots) := by
  refine MetFree.of_bodySF pn_5b hisR ?_
  intro p e s m args below meth c s₁ Bd hml0 hP hK
  obtain ⟨rfl, hZ, hh⟩ := hP
  have hx := Bd.exec
  have hby := Bd.bytes
  have hml : c.maxLocals = 7 := hml0
  have hown : s.vm.findClass "java/lang/StringUTF16" = some m.cls := findClass_of_methodNamed Bd.named
  have hnm := (name_of_methodNamed Bd.named Bd.method).1
  have X0 : Stand p l e own_r5b s m #[(.ref a1), (.int (0 : Int32)), (.ref a3), (.int (0 : Int32)), (.int p4)] below meth c s₁ [] 0 0 := Stand.of_body Bd
  have e0 : s₁.heap = h0 := by rw [← hh, Bd.state]; rfl
  have N0 := Fr.nil n0
  refine own_at (castTop (ef_5b m a1 a3 p4)) ?_
  have K0 := Keep.refl h0 [a3]
  have hll_ : ls.length < cs.length := by rw [hcs]; simp
  have hq : cs[ls.length]? = some ch := by rw [hcs]; simp
  have sg3 : own_G p e below s₁ (mkF m 3 (own_ARIRIIIU a1 (0 : Int32) a3 (0 : Int32) p4 (0 : Int32)) []) s₁ (mkF m 0 (own_ARIRIIUU a1 (0 : Int32) a3 (0 : Int32) p4) []) := by
    intro t k
    refine XS.iconst X0.here hx rfl (hb hby d5_0) ?_
    refine XS.istore X0.here hx rfl (hb hby d5_1) rfl (l' := (own_ARIRIIIU a1 (0 : Int32) a3 (0 : Int32) p4 (0 : Int32))) rfl ?_
    exact k
  refine own_by sg3 ?_
  have loop : ∀ (rest done : List Int32) (i : Int32) (x6 : Slot) (T : State) (L : List Loc) (H : Heap), ls = done ++ rest → i = Int32.ofNat done.length → Stand p l e own_r5b s m #[(.ref a1), (.int (0 : Int32)), (.ref a3), (.int (0 : Int32)), (.int p4)] below meth c T L 0 0 → Fr n0 L → T.heap = H → Keep h0 H [a3] → n0 ≤ H.size → Arv Z H a3 kd .byte (Int32.ofNat (Nd)) (own_c0 done) (.int (0 : Int32)) → own_one x6 → ∃ (T' : State) (L' : List Loc) (H' : Heap) (i' : Int32) (y6 : Slot), own_one y6 ∧ i' = Int32.ofNat ls.length ∧ Stand p l e own_r5b s m #[(.ref a1), (.int (0 : Int32)), (.ref a3), (.int (0 : Int32)), (.int p4)] below meth c T' L' 0 0 ∧ Fr n0 L' ∧ T'.heap = H' ∧ Keep h0 H' [a3] ∧ Arv Z H' a3 kd .byte (Int32.ofNat (Nd)) (own_c0 ls) (.int (0 : Int32)) ∧ ∀ t, own_S p e below T' (mkF m 3 (own_ARIRIIIS a1 i' a3 i' p4 i' y6) []) t → own_S p e below T (mkF m 3 (own_ARIRIIIS a1 i a3 i p4 i x6) []) t := by
    intro rest
    induction rest with
    | nil =>
      intro done i x6 T L H hd hi X NL eT KH ZH AH o6
      have hdn : ls = done := by rw [hd]; simp
      exact ⟨T, L, H, i, x6, o6, (by rw [hdn]; exact hi), X, NL, eT, KH, (by rw [hdn]; exact AH), fun t k => k⟩
    | cons c rest ih =>
      intro done i x6 T L H hd hi X NL eT KH ZH AH o6
      have AS := A_s.keep KH (fun h => n13 (List.mem_singleton.mp h))
      have hq0 : ls[done.length]? = some c := by rw [hd]; simp
      have hll : done.length < ls.length := (List.getElem?_eq_some_iff.mp hq0).1
      have hcc := hlat c (List.mem_of_getElem? hq0)
      have hq : cs[done.length]? = some c := by rw [hcs, List.getElem?_append_left hll]; exact hq0
      have hlc : ls.length ≤ cs.length := by rw [hcs]; simp
      have sg12 : own_G p e below T (mkF m 12 (own_ARIRIIIS a1 i a3 i p4 i x6) [(.int i), (.ref a1)]) T (mkF m 3 (own_ARIRIIIS a1 i a3 i p4 i x6) []) := by
        intro t k
        refine XS.iload X.here hx rfl (hb hby d5_3) rfl ?_
        refine XS.iload X.here hx rfl (hb hby d5_5) rfl ?_
        refine XS.icmpNo X.here hx rfl (hb hby d5_7) rfl (tlt ((own_nlt hi hp4 (by omega) (by omega)).mpr (by omega) : i < p4)).2.1 ?_
        refine XS.aloadN X.here hx rfl (hb hby d5_10) rfl rfl ?_
        refine XS.iloadN X.here hx rfl (hb hby d5_11) rfl ?_
        exact k
      obtain ⟨cl12, Ar12, qa12, Sa12, Na12, Ha12, Ga12⟩ := id AS
      have ib12 : ¬ (i < 0 ∨ cl12.slots.size ≤ i.toNatClampNeg) := inb_of Sa12 ⟨(own_nge (hi) (by omega)), (own_nlt hi (rfl : Int32.ofNat (cs.length) = Int32.ofNat (cs.length)) (by omega) (by omega)).mpr (by omega)⟩
      obtain ⟨k31, hk31⟩ : ∃ z : Int32, z = (c.toInt8.toInt32) := ⟨_, rfl⟩
      have sg31 : own_G p e below T (mkF m 31 (own_ARIRIIII a1 i a3 i p4 i c) [(.int k31), (.int i), (.ref a3)]) T (mkF m 12 (own_ARIRIIIS a1 i a3 i p4 i x6) [(.int i), (.ref a1)]) := by
        intro t k
        rw [hk31] at k
        refine X.caload hx (j := i) (v := (.int c)) (by rw [eT]; exact Ar12.1) (State.isArrayOf_alike hZ.alike Ar12.2.1) Ar12.2.2 ib12 (Has.at Ha12 ib12 (by rw [own_ntc (hi) (by omega)]; exact own_chat hq _)) (g := (mkF m 12 (own_ARIRIIIS a1 i a3 i p4 i x6) [(.int i), (.ref a1)])) rfl rfl (hb hby d5_12) _ ?_
        refine XS.istore X.here hx rfl (hb hby d5_13) rfl (l' := (own_ARIRIIII a1 i a3 i p4 i c)) (own_sto rfl o6 rfl rfl) ?_
        refine XS.iload X.here hx rfl (hb hby d5_15) rfl ?_
        refine XS.sipush X.here hx rfl (hb hby d5_17) ?_
        refine XS.icmpYes X.here hx rfl (pc0 := 20) (pc' := 26) rfl (hb hby d5_20) rfl (flt (hcc.2 : ¬ ((255 : Int32) < c))).2.2.2 (by decide) (by decide) ?_
        refine XS.aloadN X.here hx rfl (hb hby d5_26) rfl rfl ?_
        refine XS.iloadN X.here hx rfl (hb hby d5_27) rfl ?_
        refine XS.iload X.here hx rfl (hb hby d5_28) rfl ?_
        refine XS.i2b X.here hx rfl (hb hby d5_30) rfl ?_
        exact k
      have nb_k31 : k31.toInt8.toInt32 = k31 := by rw [hk31]; exact own_i2b2 _
      have Pd31 : Arv Z H a3 kd .byte (Int32.ofNat (Nd)) (own_c0 done ++ List.replicate 1 (.int (0 : Int32))) (.int (0 : Int32)) := (AH).pad (own_padr _ _ 1)
      obtain ⟨cl31, Ar31, qa31, Sa31, Na31, Ha31, Ga31⟩ := id Pd31
      obtain ⟨T31, h31, X31, e31, W31, st31⟩ := stB X hx hZ eT Ar31 (j := i) (inb_of Sa31 ⟨(own_nge (hi) (by omega)), (own_nlt hi (rfl : Int32.ofNat (Nd) = Int32.ofNat (Nd)) (by omega) (by omega)).mpr (by omega)⟩) (g := (mkF m 31 (own_ARIRIIII a1 i a3 i p4 i c) [(.int k31), (.int i), (.ref a3)])) rfl rfl (hb hby d5_31)
      have V31 : Arv Z h31 a3 kd .byte (Int32.ofNat (Nd)) (List.set (own_c0 done ++ List.replicate 1 (.int (0 : Int32))) (done.length) (.int k31)) (.int (0 : Int32)) := by
        have q := Arv.set Ar31 qa31 Sa31 Na31 Ha31 Ga31 (fits_nar_byte _) W31 (done.length) ((own_ntc (hi) (by omega)).trans (by omega)) (by simp [own_c0_len])
        rw [nb_k31] at q
        exact q
      have K31 : Keep h0 h31 [a3] := KH.wr W31 (Or.inl (List.mem_of_getElem? (i := 0) rfl))
      have Z31 : n0 ≤ h31.size := Nat.le_trans ZH (Keep.of_wr W31).1
      have N31 := Fr.snoc X31 NL g_a3
      have sg3_2 : own_G p e below T31 (mkF m 3 (own_ARIRIIII a1 (i + (1 : Int32)) a3 (i + (1 : Int32)) p4 (i + (1 : Int32)) c) []) T31 (mkF m 32 (own_ARIRIIII a1 i a3 i p4 i c) []) := by
        intro t k
        refine XS.iinc X31.here hx rfl (hb hby d5_32) rfl (l' := (own_ARIRIIII a1 (i + (1 : Int32)) a3 i p4 i c)) rfl ?_
        refine XS.iinc X31.here hx rfl (hb hby d5_35) rfl (l' := (own_ARIRIIII a1 (i + (1 : Int32)) a3 (i + (1 : Int32)) p4 i c)) rfl ?_
        refine XS.iinc X31.here hx rfl (hb hby d5_38) rfl (l' := (own_ARIRIIII a1 (i + (1 : Int32)) a3 (i + (1 : Int32)) p4 (i + (1 : Int32)) c)) rfl ?_
        refine XS.goto X31.here hx rfl (pc0 := 41) (pc' := 3) rfl (hb hby d5_41) (by decide) (by decide) ?_
        exact k
      obtain ⟨T', L', H', i', y6, q6, r0, r1, r2, r3, r4, r5, st'⟩ := ih (done ++ [c]) (i + (1 : Int32)) (.val (.int c)) T31 _ h31 (by rw [hd]; simp) (by rw [List.length_append]; exact (own_nadd (n := 1) hi (rfl : (1 : Int32) = Int32.ofNat 1))) X31 N31 e31 K31 Z31 (by have q := V31; rw [own_set1 (own_c0 done) _ _ done.length (own_c0_len done), hk31] at q; rw [own_c0_snoc]; exact q) (own_one1 rfl)
      exact ⟨T', L', H', i', y6, q6, r0, r1, r2, r3, r4, r5, fun t k => (sg12 t (sg31 t (st31 t (sg3_2 t (st' t k)))))⟩
  have hlc : ls.length ≤ cs.length := by rw [hcs]; simp
  obtain ⟨Tlo, Llo, Hlo, i', y6, o6, hi', Xlo, Nlo, elo, Klo, Alo, stlo⟩ := loop ls [] (0 : Int32) .unset s₁ _ h0 rfl rfl X0 N0 e0 K0 Z0 A_d own_one0
  have AS := A_s.keep Klo (fun h => n13 (List.mem_singleton.mp h))
  refine own_by stlo ?_
  have sg12 : own_G p e below Tlo (mkF m 12 (own_ARIRIIIS a1 i' a3 i' p4 i' y6) [(.int i'), (.ref a1)]) Tlo (mkF m 3 (own_ARIRIIIS a1 i' a3 i' p4 i' y6) []) := by
    intro t k
    refine XS.iload Xlo.here hx rfl (hb hby d5_3) rfl ?_
    refine XS.iload Xlo.here hx rfl (hb hby d5_5) rfl ?_
    refine XS.icmpNo Xlo.here hx rfl (hb hby d5_7) rfl (tlt ((own_nlt hi' hp4 (by omega) (by omega)).mpr (by omega) : i' < p4)).2.1 ?_
    refine XS.aloadN Xlo.here hx rfl (hb hby d5_10) rfl rfl ?_
    refine XS.iloadN Xlo.here hx rfl (hb hby d5_11) rfl ?_
    exact k
  refine own_by sg12 ?_
  obtain ⟨cl12, Ar12, qa12, Sa12, Na12, Ha12, Ga12⟩ := id AS
  have ib12 : ¬ (i' < 0 ∨ cl12.slots.size ≤ i'.toNatClampNeg) := inb_of Sa12 ⟨(own_nge (hi') (by omega)), (own_nlt hi' (rfl : Int32.ofNat (cs.length) = Int32.ofNat (cs.length)) (by omega) (by omega)).mpr (by omega)⟩
  have sg25 : own_G p e below Tlo (mkF m 25 (own_ARIRIIII a1 i' a3 i' p4 i' ch) [(.int i')]) Tlo (mkF m 12 (own_ARIRIIIS a1 i' a3 i' p4 i' y6) [(.int i'), (.ref a1)]) := by
    intro t k
    refine Xlo.caload hx (j := i') (v := (.int ch)) (by rw [elo]; exact Ar12.1) (State.isArrayOf_alike hZ.alike Ar12.2.1) Ar12.2.2 ib12 (Has.at Ha12 ib12 (by rw [own_ntc (hi') (by omega)]; exact own_chat hq _)) (g := (mkF m 12 (own_ARIRIIIS a1 i' a3 i' p4 i' y6) [(.int i'), (.ref a1)])) rfl rfl (hb hby d5_12) _ ?_
    refine XS.istore Xlo.here hx rfl (hb hby d5_13) rfl (l' := (own_ARIRIIII a1 i' a3 i' p4 i' ch)) (own_sto rfl o6 rfl rfl) ?_
    refine XS.iload Xlo.here hx rfl (hb hby d5_15) rfl ?_
    refine XS.sipush Xlo.here hx rfl (hb hby d5_17) ?_
    refine XS.icmpNo Xlo.here hx rfl (hb hby d5_20) rfl (tlt (hbig : (255 : Int32) < ch)).2.2.2 ?_
    refine XS.iload Xlo.here hx rfl (hb hby d5_23) rfl ?_
    exact k
  refine own_by sg25 ?_
  obtain ⟨fs, hr, hrun, hended, hW, hsame⟩ := Xlo.leave (v := some (.int i')) (fun h => by rw [Bd.returns] at h; cases h)
  refine ⟨_, _, ?_, hrun, hended, _, _, rfl, ?_, ⟨_, rfl⟩, hW, hsame.mono (by decide) (by decide)⟩
  · exact retI Xlo hx Bd.returns (hb hby d5_25) hr
  · show Q5b Z a1 a3 p4 kc cs kd Nd ls ch post h0 n0 _ Tlo.heap _
    rw [elo]
    exact ⟨by rw [hi'], Nlo, Klo⟩
abbrev own_b44 := jdk_52_method_14_code
theorem d44_0 : decode own_b44 0 = .ok (.iload_n 2, 1) := by decide +kernel
theorem d44_1 : decode own_b44 1 = .ok (.invokestatic 107, 3) := by decide +kernel
theorem d44_4 : decode own_b44 4 = .ok (.astore_n 3, 1) := by decide +kernel
theorem d44_5 : decode own_b44 5 = .ok (.iconst 0, 1) := by decide +kernel
theorem d44_6 : decode own_b44 6 = .ok (.istore 4, 2) := by decide +kernel
theorem d44_8 : decode own_b44 8 = .ok (.iload 4, 2) := by decide +kernel
theorem d44_10 : decode own_b44 10 = .ok (.iload_n 2, 1) := by decide +kernel
theorem d44_11 : decode own_b44 11 = .ok (.if_icmp .ge 21, 3) := by decide +kernel
theorem d44_14 : decode own_b44 14 = .ok (.aload_n 3, 1) := by decide +kernel
theorem d44_15 : decode own_b44 15 = .ok (.iload 4, 2) := by decide +kernel
theorem d44_17 : decode own_b44 17 = .ok (.aload_n 0, 1) := by decide +kernel
theorem d44_18 : decode own_b44 18 = .ok (.iload_n 1, 1) := by decide +kernel
theorem d44_19 : decode own_b44 19 = .ok (.caload, 1) := by decide +kernel
theorem d44_20 : decode own_b44 20 = .ok (.invokestatic 111, 3) := by decide +kernel
theorem d44_23 : decode own_b44 23 = .ok (.iinc 1 1, 3) := by decide +kernel
theorem d44_26 : decode own_b44 26 = .ok (.iinc 4 1, 3) := by decide +kernel
theorem d44_29 : decode own_b44 29 = .ok (.goto (-21), 3) := by decide +kernel
theorem d44_32 : decode own_b44 32 = .ok (.aload_n 3, 1) := by decide +kernel
theorem d44_33 : decode own_b44 33 = .ok (.areturn, 1) := by decide +kernel
theorem pn_44 : plainFor (⟨"java/lang/StringUTF16", "toBytes", "([CII)[B"⟩ : MethodName) = true := by first | exact plainFor_of_name (by first | (simp [plainName, overriddenIn]; done) | decide +kernel) | decide +kernel | exact Jvm.Free.JP.mathPlain rfl (by decide +kernel)
theorem pd_44_0 : parseMethodDescriptor "(I)[B" = some ⟨[.int], some (.array .byte)⟩ := by decide +kernel
theorem pd_44_1 : parseMethodDescriptor "([BII)V" = some ⟨[(.array .byte), .int, .int], none⟩ := by decide +kernel
theorem ef_44 (m : MethodId) (a1 : Addr) (p2 : Int32) : entryFrame m #[(.ref a1), (.int (0 : Int32)), (.int p2)] 5 = mkF m 0 #[.val (.ref a1), .val (.int (0 : Int32)), .val (.int p2), .unset, .unset] [] := by first | (simp [entryFrame, mkF, argsToLocals, Value.category]; done) | rfl
abbrev own_r44 : Room := { frames := 2, cells := 1, slots := 84, locals := 24 }
def Q44 (Z : State) (a1 : Addr) (p2 : Int32) (kc : ClassId) (cs : List Int32) (gz : Int32) (gf : Value) (h0 : Heap) (n0 : Nat) (v : Option Value) (h : Heap) (L : List Loc) : Prop := ∃ r kr, v = some (.ref r) ∧ h0.size ≤ r ∧ Fr n0 L ∧ Keep h0 h [] ∧ Arv Z h r kr .byte (Int32.ofNat (2 * cs.length)) (own_c1 cs) (.int (0 : Int32))
theorem rm44 (l : Launch) (Z : State) (a0 : Array Value) (hw : ∀ d ∈ tables_1, d.before a0 Z = true) (ws : List Jvm.Cond) (a1 : Addr) (p2 : Int32) (kc : ClassId) (cs : List Int32) (gz : Int32) (gf : Value) (h0 : Heap) (n0 : Nat) (Z0 : n0 ≤ h0.size) (O : Old Z n0 h0) (hst : own_ST Z gz gf) (A_s : Arv Z h0 a1 kc .char (Int32.ofNat (cs).length) ((cs).map Value.int) (.int (0 : Int32))) (hp2 : p2 = Int32.ofNat cs.length) (hln : cs.length ≤ 3) :
    MetFree l own_n43 (head1 (Jvm.Cond.code own_n43 jdk_52_method_14_code 5 (some (.array .byte)) :: ws) own_r44) (fun a U => a = #[(.ref a1), (.int (0 : Int32)), (.int p2)] ∧ Z.Warmed39 U.vm ∧ U.heap = h0) (fun _ _ _ _ _ => True) (fun _ U o U' => ∃ v L, o = .returned v ∧ Q44 Z a1 p2 kc cs gz gf h0 n0 v U'.heap L ∧ FrameEnd U o U' L own_r44.cells own_r44.slots) := by
  refine MetFree.of_bodySF pn_44 hisR ?_
  intro p e s m args below meth c s₁ Bd hml0 hP hK
  obtain ⟨rfl, hZ, hh⟩ := hP
  have hx := Bd.exec
  have hby := Bd.bytes
  have hml : c.maxLocals = 5 := hml0
  have hown : s.vm.findClass "java/lang/StringUTF16" = some m.cls := findClass_of_methodNamed Bd.named
  have hnm := (name_of_methodNamed Bd.named Bd.method).1
  have X0 : Stand p l e own_r44 s m #[(.ref a1), (.int (0 : Int32)), (.int p2)] below meth c s₁ [] 0 0 := Stand.of_body Bd
  have e0 : s₁.heap = h0 := by rw [← hh, Bd.state]; rfl
  have N0 := Fr.nil n0
  refine own_at (castTop (ef_44 m a1 p2)) ?_
  have K0 := Keep.refl h0 []
  obtain ⟨S1, P5, S2, rf, S3, S4, S5⟩ := id hst
  have sg1 : own_G p e below s₁ (mkF m 1 (own_ARIIUU a1 (0 : Int32) p2) [(.int p2)]) s₁ (mkF m 0 (own_ARIIUU a1 (0 : Int32) p2) []) := by
    intro t k
    refine XS.iloadN X0.here hx rfl (hb hby d44_0) rfl ?_
    exact k
  refine own_by sg1 ?_
  obtain ⟨_, _, ⟨T1, L1, k1, n1⟩, -, X1, ⟨Lc1, hQ1, l1, y1, z1⟩, st1⟩ := Jvm.LawKit.callS X0 hx (y := own_n17) hown (mvT hZ (own_w hw 228 rfl)) (mvT hZ (own_w hw 229 rfl)) (mvT hZ (own_w hw 18 rfl)) (mvT hZ (own_w hw 230 rfl)) (by decide) (backOf (W := 0) (rm45 l Z a0 hw [] p2 cs.length h0 n0 Z0 hp2 (by omega)) hZ (own_w hw 230 rfl) (own_w hw 18 rfl) (by decide) (by decide)) (g := (mkF m 1 (own_ARIIUU a1 (0 : Int32) p2) [(.int p2)])) rfl (by rw [hml]; rfl) (argsL := [(.int p2)]) (rest := []) (lenOf pd_44_0 rfl) rfl (Nat.le_of_eq rfl) (hb hby d44_1) (fun _ _ => ⟨rfl, e0, (by decide : 0 + 1 ≤ _), (by decide : 0 + 84 ≤ _)⟩)
  dsimp only [Pt.U, Pt.locs, Pt.cells, Pt.slots] at X1 l1 y1 z1 st1 hQ1
  subst l1 y1 z1
  obtain ⟨r1, kr1, rfl, ge1, N1q, Kq1, Eq1, Aq1⟩ := hQ1
  have N1 := Fr.app N0 N1q
  have ne_a1_r1 : a1 ≠ r1 := Nat.ne_of_lt (Nat.lt_of_lt_of_le A_s.lt ge1)
  have g_r1 : n0 ≤ r1 := Nat.le_trans Z0 ge1
  have sz_r1 : h0.size ≤ r1 := Nat.le_trans K0.1 ge1
  have K1 : Keep h0 T1.heap [] := K0.trans Kq1 (fun x hx => nomatch hx)
  have Z1 : n0 ≤ T1.heap.size := Nat.le_trans Z0 Kq1.1
  refine own_by st1 ?_
  have sg8 : own_G p e below T1 (mkF m 8 (own_ARIIRI a1 (0 : Int32) p2 r1 (0 : Int32)) []) T1 (mkF m 4 (own_ARIIUU a1 (0 : Int32) p2) [(.ref r1)]) := by
    intro t k
    refine XS.astoreN X1.here hx rfl (hb hby d44_4) rfl rfl (l' := (own_ARIIRU a1 (0 : Int32) p2 r1)) rfl ?_
    refine XS.iconst X1.here hx rfl (hb hby d44_5) ?_
    refine XS.istore X1.here hx rfl (hb hby d44_6) rfl (l' := (own_ARIIRI a1 (0 : Int32) p2 r1 (0 : Int32))) rfl ?_
    exact k
  refine own_by sg8 ?_
  have loop : ∀ (rest done : List Int32) (i : Int32) (T : State) (L : List Loc) (H : Heap), cs = done ++ rest → i = Int32.ofNat done.length → Stand p l e own_r44 s m #[(.ref a1), (.int (0 : Int32)), (.int p2)] below meth c T L 1 84 → Fr n0 L → T.heap = H → Keep h0 H [] → n0 ≤ H.size → Old Z n0 H → Arv Z H r1 kr1 .byte (Int32.ofNat (2 * cs.length)) (own_c1 done) (.int (0 : Int32)) → ∃ (T' : State) (L' : List Loc) (H' : Heap) (i' : Int32), Stand p l e own_r44 s m #[(.ref a1), (.int (0 : Int32)), (.int p2)] below meth c T' L' 1 84 ∧ Fr n0 L' ∧ T'.heap = H' ∧ Keep h0 H' [] ∧ Arv Z H' r1 kr1 .byte (Int32.ofNat (2 * cs.length)) (own_c1 cs) (.int (0 : Int32)) ∧ ∀ t, own_S p e below T' (mkF m 32 (own_ARIIRI a1 i' p2 r1 i') []) t → own_S p e below T (mkF m 8 (own_ARIIRI a1 i p2 r1 i) []) t := by
    intro rest
    induction rest with
    | nil =>
      intro done i T L H hd hi X NL eT KH ZH OH AH
      have AS := A_s.keep KH List.not_mem_nil
      have hll : cs.length = done.length := by rw [hd]; simp
      have sg32 : own_G p e below T (mkF m 32 (own_ARIIRI a1 i p2 r1 i) []) T (mkF m 8 (own_ARIIRI a1 i p2 r1 i) []) := by
        intro t k
        refine XS.iload X.here hx rfl (hb hby d44_8) rfl ?_
        refine XS.iloadN X.here hx rfl (hb hby d44_10) rfl ?_
        refine XS.icmpYes X.here hx rfl (pc0 := 11) (pc' := 32) rfl (hb hby d44_11) rfl (flt ((not_congr (own_nlt hi hp2 (by omega) (by omega))).mpr (by omega) : ¬ (i < p2))).2.1 (by decide) (by decide) ?_
        exact k
      have hdn : cs = done := by rw [hd]; simp
      exact ⟨T, _, _, _, X, NL, eT, KH, (by have q := AH; rw [← hdn] at q; exact q), fun t k => (sg32 t k)⟩
    | cons c rest ih =>
      intro done i T L H hd hi X NL eT KH ZH OH AH
      have AS := A_s.keep KH List.not_mem_nil
      have hq : cs[done.length]? = some c := by rw [hd]; simp
      have hll : done.length < cs.length := (List.getElem?_eq_some_iff.mp hq).1
      have sg19 : own_G p e below T (mkF m 19 (own_ARIIRI a1 i p2 r1 i) [(.int i), (.ref a1), (.int i), (.ref r1)]) T (mkF m 8 (own_ARIIRI a1 i p2 r1 i) []) := by
        intro t k
        refine XS.iload X.here hx rfl (hb hby d44_8) rfl ?_
        refine XS.iloadN X.here hx rfl (hb hby d44_10) rfl ?_
        refine XS.icmpNo X.here hx rfl (hb hby d44_11) rfl (tlt ((own_nlt hi hp2 (by omega) (by omega)).mpr hll : i < p2)).2.1 ?_
        refine XS.aloadN X.here hx rfl (hb hby d44_14) rfl rfl ?_
        refine XS.iload X.here hx rfl (hb hby d44_15) rfl ?_
        refine XS.aloadN X.here hx rfl (hb hby d44_17) rfl rfl ?_
        refine XS.iloadN X.here hx rfl (hb hby d44_18) rfl ?_
        exact k
      obtain ⟨cl19, Ar19, qa19, Sa19, Na19, Ha19, Ga19⟩ := id AS
      have ib19 : ¬ (i < 0 ∨ cl19.slots.size ≤ i.toNatClampNeg) := inb_of Sa19 ⟨(own_nge (hi) (by omega)), (own_nlt hi (rfl : Int32.ofNat (cs.length) = Int32.ofNat (cs.length)) (by omega) (by omega)).mpr (by omega)⟩
      have sg20 : own_G p e below T (mkF m 20 (own_ARIIRI a1 i p2 r1 i) [(.int c), (.int i), (.ref r1)]) T (mkF m 19 (own_ARIIRI a1 i p2 r1 i) [(.int i), (.ref a1), (.int i), (.ref r1)]) := by
        intro t k
        refine X.caload hx (j := i) (v := (.int c)) (by rw [eT]; exact Ar19.1) (State.isArrayOf_alike hZ.alike Ar19.2.1) Ar19.2.2 ib19 (Has.at Ha19 ib19 (by rw [own_ntc (hi) (by omega)]; exact own_chat hq _)) (g := (mkF m 19 (own_ARIIRI a1 i p2 r1 i) [(.int i), (.ref a1), (.int i), (.ref r1)])) rfl rfl (hb hby d44_19) _ ?_
        exact k
      obtain ⟨_, _, ⟨T20, L20, k20, n20⟩, -, X20, ⟨Lc20, hQ20, l20, y20, z20⟩, st20⟩ := Jvm.LawKit.callS X hx (y := own_n11) hown (mvT hZ (own_w hw 235 rfl)) (mvT hZ (own_w hw 236 rfl)) (mvT hZ (own_w hw 18 rfl)) (mvT hZ (own_w hw 237 rfl)) (by decide) (backOf (W := 0) (rm47 l Z a0 hw [] r1 i c kr1 (2 * cs.length) done.length (own_c1 done) gz gf H n0 ZH OH hst AH hi (own_c1_len done) (by omega) (by omega) g_r1) hZ (own_w hw 237 rfl) (own_w hw 18 rfl) (by decide) (by decide)) (g := (mkF m 20 (own_ARIIRI a1 i p2 r1 i) [(.int c), (.int i), (.ref r1)])) rfl (by rw [hml]; rfl) (argsL := [(.ref r1), (.int i), (.int c)]) (rest := []) (lenOf pd_44_1 rfl) rfl (Nat.le_of_eq rfl) (hb hby d44_20) (fun _ _ => ⟨rfl, eT, (by decide : 1 + 0 ≤ _), (by decide : 84 + 0 ≤ _)⟩)
      dsimp only [Pt.U, Pt.locs, Pt.cells, Pt.slots] at X20 l20 y20 z20 st20 hQ20
      subst l20 y20 z20
      obtain ⟨rfl, N20q, Kq20, Aq20⟩ := hQ20
      have N20 := Fr.app NL N20q
      have K20 : Keep h0 T20.heap [] := KH.trans Kq20 (fun x hx => by cases List.mem_singleton.mp hx; exact (Or.inr sz_r1))
      have Z20 : n0 ≤ T20.heap.size := Nat.le_trans ZH Kq20.1
      have Af : Arv Z T20.heap r1 kr1 .byte (Int32.ofNat (2 * cs.length)) (own_c1 (done ++ [c])) (.int (0 : Int32)) := by rw [own_c1_snoc]; exact Aq20
      have sg8_2 : own_G p e below T20 (mkF m 8 (own_ARIIRI a1 (i + (1 : Int32)) p2 r1 (i + (1 : Int32))) []) T20 (mkF m 23 (own_ARIIRI a1 i p2 r1 i) []) := by
        intro t k
        refine XS.iinc X20.here hx rfl (hb hby d44_23) rfl (l' := (own_ARIIRI a1 (i + (1 : Int32)) p2 r1 i)) rfl ?_
        refine XS.iinc X20.here hx rfl (hb hby d44_26) rfl (l' := (own_ARIIRI a1 (i + (1 : Int32)) p2 r1 (i + (1 : Int32)))) rfl ?_
        refine XS.goto X20.here hx rfl (pc0 := 29) (pc' := 8) rfl (hb hby d44_29) (by decide) (by decide) ?_
        exact k
      obtain ⟨T', L', H', i', r1, r2, r3, r4, r5, st'⟩ := ih (done ++ [c]) (i + (1 : Int32)) T20 _ T20.heap (by rw [hd]; simp) (by rw [List.length_append]; exact (own_nadd (n := 1) hi (rfl : (1 : Int32) = Int32.ofNat 1))) X20 N20 rfl K20 Z20 (OH.keep Kq20 (allS g_r1 all0)) Af
      exact ⟨T', L', H', i', r1, r2, r3, r4, r5, fun t k => (sg19 t (sg20 t (st20 t (sg8_2 t (st' t k)))))⟩
  obtain ⟨Tlo, Llo, Hlo, i', Xlo, Nlo, elo, Klo, Alo, stlo⟩ := loop cs [] (0 : Int32) T1 _ T1.heap rfl rfl X1 N1 rfl K1 Z1 (O.keep Kq1 all0) Aq1
  refine own_by stlo ?_
  have sg33 : own_G p e below Tlo (mkF m 33 (own_ARIIRI a1 i' p2 r1 i') [(.ref r1)]) Tlo (mkF m 32 (own_ARIIRI a1 i' p2 r1 i') []) := by
    intro t k
    refine XS.aloadN Xlo.here hx rfl (hb hby d44_32) rfl rfl ?_
    exact k
  refine own_by sg33 ?_
  obtain ⟨fs, hr, hrun, hended, hW, hsame⟩ := Xlo.leave (v := some (.ref r1)) (fun h => by rw [Bd.returns] at h; cases h)
  refine ⟨_, _, ?_, hrun, hended, _, _, rfl, ?_, ⟨_, rfl⟩, hW, hsame.mono (by decide) (by decide)⟩
  · show Steps p.tables e below (Tlo.setTop (mkF m 33 (own_ARIIRI a1 i' p2 r1 i') [(.ref r1)])) _
    jvm_step Xlo.here [Xlo.here.top, hx, (hb hby d44_33), Xlo.method', Bd.returns, Value.isRef, FieldType.isReference]
    first | (intro acts; rw [hr _ acts rfl rfl rfl]) | rw [hr _ _ rfl rfl rfl]
    exact Steps.refl _
  · show Q44 Z a1 p2 kc cs gz gf h0 n0 _ Tlo.heap _
    rw [elo]
    exact ⟨_, _, rfl, sz_r1, Nlo, Klo, Alo⟩
abbrev own_b4 := jdk_52_method_16_code
theorem d4_0 : decode own_b4 0 = .ok (.iload_n 2, 1) := by decide +kernel
theorem d4_1 : decode own_b4 1 = .ok (.newarray .byte, 2) := by decide +kernel
theorem d4_3 : decode own_b4 3 = .ok (.astore_n 3, 1) := by decide +kernel
theorem d4_4 : decode own_b4 4 = .ok (.aload_n 0, 1) := by decide +kernel
theorem d4_5 : decode own_b4 5 = .ok (.iload_n 1, 1) := by decide +kernel
theorem d4_6 : decode own_b4 6 = .ok (.aload_n 3, 1) := by decide +kernel
theorem d4_7 : decode own_b4 7 = .ok (.iconst 0, 1) := by decide +kernel
theorem d4_8 : decode own_b4 8 = .ok (.iload_n 2, 1) := by decide +kernel
theorem d4_9 : decode own_b4 9 = .ok (.invokestatic 115, 3) := by decide +kernel
theorem d4_12 : decode own_b4 12 = .ok (.istore 4, 2) := by decide +kernel
theorem d4_14 : decode own_b4 14 = .ok (.iload 4, 2) := by decide +kernel
theorem d4_16 : decode own_b4 16 = .ok (.iload_n 2, 1) := by decide +kernel
theorem d4_17 : decode own_b4 17 = .ok (.if_icmp .eq 40, 3) := by decide +kernel
theorem d4_20 : decode own_b4 20 = .ok (.aload_n 0, 1) := by decide +kernel
theorem d4_21 : decode own_b4 21 = .ok (.iload_n 1, 1) := by decide +kernel
theorem d4_22 : decode own_b4 22 = .ok (.iload_n 2, 1) := by decide +kernel
theorem d4_23 : decode own_b4 23 = .ok (.invokestatic 119, 3) := by decide +kernel
theorem d4_26 : decode own_b4 26 = .ok (.astore 5, 2) := by decide +kernel
theorem d4_28 : decode own_b4 28 = .ok (.aload 5, 2) := by decide +kernel
theorem d4_30 : decode own_b4 30 = .ok (.iload 4, 2) := by decide +kernel
theorem d4_32 : decode own_b4 32 = .ok (.invokestatic 71, 3) := by decide +kernel
theorem d4_35 : decode own_b4 35 = .ok (.sipush 255, 3) := by decide +kernel
theorem d4_38 : decode own_b4 38 = .ok (.if_icmp .gt 16, 3) := by decide +kernel
theorem d4_54 : decode own_b4 54 = .ok (.aload 5, 2) := by decide +kernel
theorem d4_56 : decode own_b4 56 = .ok (.areturn, 1) := by decide +kernel
theorem d4_57 : decode own_b4 57 = .ok (.aload_n 3, 1) := by decide +kernel
theorem d4_58 : decode own_b4 58 = .ok (.areturn, 1) := by decide +kernel
theorem pn_4 : plainFor (⟨"java/lang/StringUTF16", "compress", "([CII)[B"⟩ : MethodName) = true := by first | exact plainFor_of_name (by first | (simp [plainName, overriddenIn]; done) | decide +kernel) | decide +kernel | exact Jvm.Free.JP.mathPlain rfl (by decide +kernel)
theorem pd_4_0 : parseMethodDescriptor "([CI[BII)I" = some ⟨[(.array .char), .int, (.array .byte), .int, .int], some .int⟩ := by decide +kernel
theorem pd_4_1 : parseMethodDescriptor "([CII)[B" = some ⟨[(.array .char), .int, .int], some (.array .byte)⟩ := by decide +kernel
theorem pd_4_2 : parseMethodDescriptor "([BI)C" = some ⟨[(.array .byte), .int], some .char⟩ := by decide +kernel
theorem ef_4 (m : MethodId) (a1 : Addr) (p2 : Int32) : entryFrame m #[(.ref a1), (.int (0 : Int32)), (.int p2)] 6 = mkF m 0 #[.val (.ref a1), .val (.int (0 : Int32)), .val (.int p2), .unset, .unset, .unset] [] := by first | (simp [entryFrame, mkF, argsToLocals, Value.category]; done) | rfl
abbrev own_r4 : Room := { frames := 3, cells := 2, slots := 87, locals := 40 }
def Q4 (Z : State) (a1 : Addr) (p2 : Int32) (kc : ClassId) (cs : List Int32) (gz : Int32) (gf : Value) (h0 : Heap) (n0 : Nat) (v : Option Value) (h : Heap) (L : List Loc) : Prop := ∃ (r : Addr) (kr : ClassId) (M : Nat) (cd : Int32), v = some (.ref r) ∧ h0.size ≤ r ∧ Fr n0 L ∧ Keep h0 h [] ∧ Arv Z h r kr .byte (Int32.ofNat (M)) (own_cod cd cs) (.int (0 : Int32)) ∧ (cd = (0 : Int32) ∨ cd = (1 : Int32)) ∧ (cd = (0 : Int32) → M = cs.length ∧ own_lat cs) ∧ (cd = (1 : Int32) → M = 2 * cs.length)
theorem rm4 (l : Launch) (Z : State) (a0 : Array Value) (hw : ∀ d ∈ tables_1, d.before a0 Z = true) (ws : List Jvm.Cond) (a1 : Addr) (p2 : Int32) (kc : ClassId) (cs : List Int32) (gz : Int32) (gf : Value) (h0 : Heap) (n0 : Nat) (Z0 : n0 ≤ h0.size) (O : Old Z n0 h0) (hst : own_ST Z gz gf) (A_s : Arv Z h0 a1 kc .char (Int32.ofNat (cs).length) ((cs).map Value.int) (.int (0 : Int32))) (hp2 : p2 = Int32.ofNat cs.length) (hln : cs.length ≤ 3) (h16 : ∀ x ∈ cs, ¬ x < 0 ∧ ¬ (65535 : Int32) < x) :
    MetFree l own_n44 (head1 (Jvm.Cond.code own_n44 jdk_52_method_16_code 6 (some (.array .byte)) :: ws) own_r4) (fun a U => a = #[(.ref a1), (.int (0 : Int32)), (.int p2)] ∧ Z.Warmed39 U.vm ∧ U.heap = h0) (fun _ _ _ _ _ => True) (fun _ U o U' => ∃ v L, o = .returned v ∧ Q4 Z a1 p2 kc cs gz gf h0 n0 v U'.heap L ∧ FrameEnd U o U' L own_r4.cells own_r4.slots) := by
  refine MetFree.of_bodySF pn_4 hisR ?_
  intro p e s m args below meth c s₁ Bd hml0 hP hK
  obtain ⟨rfl, hZ, hh⟩ := hP
  have hx := Bd.exec
  have hby := Bd.bytes
  have hml : c.maxLocals = 6 := hml0
  have hown : s.vm.findClass "java/lang/StringUTF16" = some m.cls := findClass_of_methodNamed Bd.named
  have hnm := (name_of_methodNamed Bd.named Bd.method).1
  have X0 : Stand p l e own_r4 s m #[(.ref a1), (.int (0 : Int32)), (.int p2)] below meth c s₁ [] 0 0 := Stand.of_body Bd
  have e0 : s₁.heap = h0 := by rw [← hh, Bd.state]; rfl
  have N0 := Fr.nil n0
  refine own_at (castTop (ef_4 m a1 p2)) ?_
  have K0 := Keep.refl h0 []
  obtain ⟨S1, P5, S2, rf, S3, S4, S5⟩ := id hst
  by_cases hl : own_lat cs
  · skip
    have sg1 : own_G p e below s₁ (mkF m 1 (own_ARIIUUU a1 (0 : Int32) p2) [(.int p2)]) s₁ (mkF m 0 (own_ARIIUUU a1 (0 : Int32) p2) []) := by
      intro t k
      refine XS.iloadN X0.here hx rfl (hb hby d4_0) rfl ?_
      exact k
    refine own_by sg1 ?_
    obtain ⟨T1, h1, kc1, X1, e1, E1, A1, Ex1, st1⟩ := newPE X0 hx hZ (own_w hw 20 rfl) e0 (g := (mkF m 1 (own_ARIIUUU a1 (0 : Int32) p2) [(.int p2)])) rfl (hb hby d4_1) rfl (own_nge hp2 (by omega)) (cap := 3) (by rw [own_ntc hp2 (by omega)]; omega) (by decide) (by decide) (by decide) (ad := "[B") (by decide)
    obtain ⟨b1, g1⟩ : ∃ z, z = h0.size := ⟨_, rfl⟩
    rw [← g1] at A1 st1 Ex1
    have ne_a1_b1 : a1 ≠ b1 := Nat.ne_of_lt (Nat.lt_of_lt_of_le A_s.lt (Nat.le_of_eq g1.symm))
    have g_b1 : n0 ≤ b1 := Nat.le_trans Z0 (Nat.le_of_eq g1.symm)
    have sz_b1 : h0.size ≤ b1 := Nat.le_trans K0.1 (Nat.le_of_eq g1.symm)
    have K1 := K0.ext E1
    have Z1 : n0 ≤ h1.size := Nat.le_trans Z0 E1.1
    have V1 : Arv Z h1 b1 kc1 .byte (Int32.ofNat (cs.length)) [] (.int (0 : Int32)) := by have q := Arv.new A1 (own_nge hp2 (by omega)); rw [hp2] at q; exact q
    refine own_by st1 ?_
    have sg9 : own_G p e below T1 (mkF m 9 (own_ARIIRUU a1 (0 : Int32) p2 b1) [(.int p2), (.int (0 : Int32)), (.ref b1), (.int (0 : Int32)), (.ref a1)]) T1 (mkF m 3 (own_ARIIUUU a1 (0 : Int32) p2) [(.ref b1)]) := by
      intro t k
      refine XS.astoreN X1.here hx rfl (hb hby d4_3) rfl rfl (l' := (own_ARIIRUU a1 (0 : Int32) p2 b1)) rfl ?_
      refine XS.aloadN X1.here hx rfl (hb hby d4_4) rfl rfl ?_
      refine XS.iloadN X1.here hx rfl (hb hby d4_5) rfl ?_
      refine XS.aloadN X1.here hx rfl (hb hby d4_6) rfl rfl ?_
      refine XS.iconst X1.here hx rfl (hb hby d4_7) ?_
      refine XS.iloadN X1.here hx rfl (hb hby d4_8) rfl ?_
      exact k
    refine own_by sg9 ?_
    obtain ⟨_, _, ⟨T9, L9, k9, n9⟩, -, X9, ⟨Lc9, hQ9, l9, y9, z9⟩, st9⟩ := Jvm.LawKit.callS X1 hx (y := own_n42) hown (mvT hZ (own_w hw 21 rfl)) (mvT hZ (own_w hw 22 rfl)) (mvT hZ (own_w hw 18 rfl)) (mvT hZ (own_w hw 23 rfl)) (by decide) (backOf (W := 0) (rm5a l Z a0 hw [] a1 b1 p2 kc cs kc1 cs.length cs h1 n0 Z1 (A_s.ext E1) V1 hp2 rfl hln hl ne_a1_b1 g_b1 (List.append_nil cs).symm) hZ (own_w hw 23 rfl) (own_w hw 18 rfl) (by decide) (by decide)) (g := (mkF m 9 (own_ARIIRUU a1 (0 : Int32) p2 b1) [(.int p2), (.int (0 : Int32)), (.ref b1), (.int (0 : Int32)), (.ref a1)])) rfl (by rw [hml]; rfl) (argsL := [(.ref a1), (.int (0 : Int32)), (.ref b1), (.int (0 : Int32)), (.int p2)]) (rest := []) (lenOf pd_4_0 rfl) rfl (Nat.le_of_eq rfl) (hb hby d4_9) (fun _ _ => ⟨rfl, e1, (by decide : 1 + 0 ≤ _), (by decide : 3 + 0 ≤ _)⟩)
    dsimp only [Pt.U, Pt.locs, Pt.cells, Pt.slots] at X9 l9 y9 z9 st9 hQ9
    subst l9 y9 z9
    obtain ⟨rfl, N9q, Kq9, Aq9⟩ := hQ9
    have N9 := Fr.app N0 N9q
    have fc := ((A_s.ext E1).keep Kq9 (fun h => ne_a1_b1 (List.mem_singleton.mp h)))
    have K9 : Keep h0 T9.heap [] := K1.trans Kq9 (fun x hx => by cases List.mem_singleton.mp hx; exact (Or.inr sz_b1))
    have Z9 : n0 ≤ T9.heap.size := Nat.le_trans Z1 Kq9.1
    refine own_by st9 ?_
    have sg58 : own_G p e below T9 (mkF m 58 (own_ARIIRIU a1 (0 : Int32) p2 b1 p2) [(.ref b1)]) T9 (mkF m 12 (own_ARIIRUU a1 (0 : Int32) p2 b1) [(.int p2)]) := by
      intro t k
      refine XS.istore X9.here hx rfl (hb hby d4_12) rfl (l' := (own_ARIIRIU a1 (0 : Int32) p2 b1 p2)) rfl ?_
      refine XS.iload X9.here hx rfl (hb hby d4_14) rfl ?_
      refine XS.iloadN X9.here hx rfl (hb hby d4_16) rfl ?_
      refine XS.icmpYes X9.here hx rfl (pc0 := 17) (pc' := 57) rfl (hb hby d4_17) rfl (teq (rfl : p2 = p2)).1 (by decide) (by decide) ?_
      refine XS.aloadN X9.here hx rfl (hb hby d4_57) rfl rfl ?_
      exact k
    refine own_by sg58 ?_
    obtain ⟨fs, hr, hrun, hended, hW, hsame⟩ := X9.leave (v := some (.ref b1)) (fun h => by rw [Bd.returns] at h; cases h)
    refine ⟨_, _, ?_, hrun, hended, _, _, rfl, ?_, ⟨_, rfl⟩, hW, hsame.mono (by decide) (by decide)⟩
    · show Steps p.tables e below (T9.setTop (mkF m 58 (own_ARIIRIU a1 (0 : Int32) p2 b1 p2) [(.ref b1)])) _
      jvm_step X9.here [X9.here.top, hx, (hb hby d4_58), X9.method', Bd.returns, Value.isRef, FieldType.isReference]
      first | (intro acts; rw [hr _ acts rfl rfl rfl]) | rw [hr _ _ rfl rfl rfl]
      exact Steps.refl _
    · show Q4 Z a1 p2 kc cs gz gf h0 n0 _ T9.heap _
      exact ⟨_, _, cs.length, (0 : Int32), rfl, sz_b1, N9, K9, Aq9, Or.inl rfl, (fun _ => ⟨rfl, hl⟩), (fun q => absurd q (by decide))⟩
  · obtain ⟨ls, c, post, hcs, hlat, hbig⟩ := own_first h16 hl
    have hqk : cs[ls.length]? = some c := by rw [hcs]; simp
    have hlk : ls.length < cs.length := (List.getElem?_eq_some_iff.mp hqk).1
    have sg1 : own_G p e below s₁ (mkF m 1 (own_ARIIUUU a1 (0 : Int32) p2) [(.int p2)]) s₁ (mkF m 0 (own_ARIIUUU a1 (0 : Int32) p2) []) := by
      intro t k
      refine XS.iloadN X0.here hx rfl (hb hby d4_0) rfl ?_
      exact k
    refine own_by sg1 ?_
    obtain ⟨T1, h1, kc1, X1, e1, E1, A1, Ex1, st1⟩ := newPE X0 hx hZ (own_w hw 20 rfl) e0 (g := (mkF m 1 (own_ARIIUUU a1 (0 : Int32) p2) [(.int p2)])) rfl (hb hby d4_1) rfl (own_nge hp2 (by omega)) (cap := 3) (by rw [own_ntc hp2 (by omega)]; omega) (by decide) (by decide) (by decide) (ad := "[B") (by decide)
    obtain ⟨b1, g1⟩ : ∃ z, z = h0.size := ⟨_, rfl⟩
    rw [← g1] at A1 st1 Ex1
    have ne_a1_b1 : a1 ≠ b1 := Nat.ne_of_lt (Nat.lt_of_lt_of_le A_s.lt (Nat.le_of_eq g1.symm))
    have g_b1 : n0 ≤ b1 := Nat.le_trans Z0 (Nat.le_of_eq g1.symm)
    have sz_b1 : h0.size ≤ b1 := Nat.le_trans K0.1 (Nat.le_of_eq g1.symm)
    have K1 := K0.ext E1
    have Z1 : n0 ≤ h1.size := Nat.le_trans Z0 E1.1
    have V1 : Arv Z h1 b1 kc1 .byte (Int32.ofNat (cs.length)) [] (.int (0 : Int32)) := by have q := Arv.new A1 (own_nge hp2 (by omega)); rw [hp2] at q; exact q
    refine own_by st1 ?_
    have sg9 : own_G p e below T1 (mkF m 9 (own_ARIIRUU a1 (0 : Int32) p2 b1) [(.int p2), (.int (0 : Int32)), (.ref b1), (.int (0 : Int32)), (.ref a1)]) T1 (mkF m 3 (own_ARIIUUU a1 (0 : Int32) p2) [(.ref b1)]) := by
      intro t k
      refine XS.astoreN X1.here hx rfl (hb hby d4_3) rfl rfl (l' := (own_ARIIRUU a1 (0 : Int32) p2 b1)) rfl ?_
      refine XS.aloadN X1.here hx rfl (hb hby d4_4) rfl rfl ?_
      refine XS.iloadN X1.here hx rfl (hb hby d4_5) rfl ?_
      refine XS.aloadN X1.here hx rfl (hb hby d4_6) rfl rfl ?_
      refine XS.iconst X1.here hx rfl (hb hby d4_7) ?_
      refine XS.iloadN X1.here hx rfl (hb hby d4_8) rfl ?_
      exact k
    refine own_by sg9 ?_
    obtain ⟨_, _, ⟨T9, L9, k9, n9⟩, -, X9, ⟨Lc9, hQ9, l9, y9, z9⟩, st9⟩ := Jvm.LawKit.callS X1 hx (y := own_n42) hown (mvT hZ (own_w hw 21 rfl)) (mvT hZ (own_w hw 22 rfl)) (mvT hZ (own_w hw 18 rfl)) (mvT hZ (own_w hw 23 rfl)) (by decide) (backOf (W := 0) (rm5b l Z a0 hw [] a1 b1 p2 kc cs kc1 cs.length ls c post h1 n0 Z1 (A_s.ext E1) V1 hp2 rfl hln hlat ne_a1_b1 g_b1 hcs hbig) hZ (own_w hw 23 rfl) (own_w hw 18 rfl) (by decide) (by decide)) (g := (mkF m 9 (own_ARIIRUU a1 (0 : Int32) p2 b1) [(.int p2), (.int (0 : Int32)), (.ref b1), (.int (0 : Int32)), (.ref a1)])) rfl (by rw [hml]; rfl) (argsL := [(.ref a1), (.int (0 : Int32)), (.ref b1), (.int (0 : Int32)), (.int p2)]) (rest := []) (lenOf pd_4_0 rfl) rfl (Nat.le_of_eq rfl) (hb hby d4_9) (fun _ _ => ⟨rfl, e1, (by decide : 1 + 0 ≤ _), (by decide : 3 + 0 ≤ _)⟩)
    dsimp only [Pt.U, Pt.locs, Pt.cells, Pt.slots] at X9 l9 y9 z9 st9 hQ9
    subst l9 y9 z9
    obtain ⟨rfl, N9q, Kq9⟩ := hQ9
    have N9 := Fr.app N0 N9q
    have fc := ((A_s.ext E1).keep Kq9 (fun h => ne_a1_b1 (List.mem_singleton.mp h)))
    have K9 : Keep h0 T9.heap [] := K1.trans Kq9 (fun x hx => by cases List.mem_singleton.mp hx; exact (Or.inr sz_b1))
    have Z9 : n0 ≤ T9.heap.size := Nat.le_trans Z1 Kq9.1
    obtain ⟨c9, hc9⟩ : ∃ z : Int32, z = Int32.ofNat ls.length := ⟨_, rfl⟩
    rw [← hc9] at st9
    refine own_by st9 ?_
    have sg23 : own_G p e below T9 (mkF m 23 (own_ARIIRIU a1 (0 : Int32) p2 b1 c9) [(.int p2), (.int (0 : Int32)), (.ref a1)]) T9 (mkF m 12 (own_ARIIRUU a1 (0 : Int32) p2 b1) [(.int c9)]) := by
      intro t k
      refine XS.istore X9.here hx rfl (hb hby d4_12) rfl (l' := (own_ARIIRIU a1 (0 : Int32) p2 b1 c9)) rfl ?_
      refine XS.iload X9.here hx rfl (hb hby d4_14) rfl ?_
      refine XS.iloadN X9.here hx rfl (hb hby d4_16) rfl ?_
      refine XS.icmpNo X9.here hx rfl (hb hby d4_17) rfl (feq ((not_congr (own_neq hc9 hp2 (by omega) (by omega))).mpr (by omega) : ¬ (c9 = p2))).1 ?_
      refine XS.aloadN X9.here hx rfl (hb hby d4_20) rfl rfl ?_
      refine XS.iloadN X9.here hx rfl (hb hby d4_21) rfl ?_
      refine XS.iloadN X9.here hx rfl (hb hby d4_22) rfl ?_
      exact k
    refine own_by sg23 ?_
    obtain ⟨_, _, ⟨T23, L23, k23, n23⟩, -, X23, ⟨Lc23, hQ23, l23, y23, z23⟩, st23⟩ := Jvm.LawKit.callS X9 hx (y := own_n43) hown (mvT hZ (own_w hw 225 rfl)) (mvT hZ (own_w hw 226 rfl)) (mvT hZ (own_w hw 18 rfl)) (mvT hZ (own_w hw 227 rfl)) (by decide) (backOf (W := 0) (rm44 l Z a0 hw [] a1 p2 kc cs gz gf T9.heap n0 Z9 ((O.ext E1).keep Kq9 (allS g_b1 all0)) hst fc hp2 hln) hZ (own_w hw 227 rfl) (own_w hw 18 rfl) (by decide) (by decide)) (g := (mkF m 23 (own_ARIIRIU a1 (0 : Int32) p2 b1 c9) [(.int p2), (.int (0 : Int32)), (.ref a1)])) rfl (by rw [hml]; rfl) (argsL := [(.ref a1), (.int (0 : Int32)), (.int p2)]) (rest := []) (lenOf pd_4_1 rfl) rfl (Nat.le_of_eq rfl) (hb hby d4_23) (fun _ _ => ⟨rfl, rfl, (by decide : 1 + 1 ≤ _), (by decide : 3 + 84 ≤ _)⟩)
    dsimp only [Pt.U, Pt.locs, Pt.cells, Pt.slots] at X23 l23 y23 z23 st23 hQ23
    subst l23 y23 z23
    obtain ⟨r23, kr23, rfl, ge23, N23q, Kq23, Aq23⟩ := hQ23
    have N23 := Fr.app N9 N23q
    have ne_a1_r23 : a1 ≠ r23 := Nat.ne_of_lt (Nat.lt_of_lt_of_le fc.lt ge23)
    have ne_b1_r23 : b1 ≠ r23 := Nat.ne_of_lt (Nat.lt_of_lt_of_le (Ex1.keep Kq9).lt ge23)
    have g_r23 : n0 ≤ r23 := Nat.le_trans Z9 ge23
    have sz_r23 : h0.size ≤ r23 := Nat.le_trans K9.1 ge23
    have K23 : Keep h0 T23.heap [] := K9.trans Kq23 (fun x hx => nomatch hx)
    have Z23 : n0 ≤ T23.heap.size := Nat.le_trans Z9 Kq23.1
    refine own_by st23 ?_
    have sg32 : own_G p e below T23 (mkF m 32 (own_ARIIRIR a1 (0 : Int32) p2 b1 c9 r23) [(.int c9), (.ref r23)]) T23 (mkF m 26 (own_ARIIRIU a1 (0 : Int32) p2 b1 c9) [(.ref r23)]) := by
      intro t k
      refine XS.astore X23.here hx rfl (hb hby d4_26) rfl rfl (l' := (own_ARIIRIR a1 (0 : Int32) p2 b1 c9 r23)) rfl ?_
      refine XS.aload X23.here hx rfl (hb hby d4_28) rfl rfl ?_
      refine XS.iload X23.here hx rfl (hb hby d4_30) rfl ?_
      exact k
    refine own_by sg32 ?_
    obtain ⟨_, _, ⟨T32, L32, k32, n32⟩, -, X32, ⟨Lc32, hQ32, l32, y32, z32⟩, st32⟩ := Jvm.LawKit.callS X23 hx (y := own_n24) hown (mvT hZ (own_w hw 241 rfl)) (mvT hZ (own_w hw 242 rfl)) (mvT hZ (own_w hw 18 rfl)) (mvT hZ (own_w hw 243 rfl)) (by decide) (backOf (W := 0) (rm48 l Z a0 hw [] r23 c9 kr23 (2 * cs.length) cs ls.length c gz gf T23.heap n0 Z23 (((O.ext E1).keep Kq9 (allS g_b1 all0)).keep Kq23 all0) hst Aq23 hc9 hqk (by omega) (h16 c (List.mem_of_getElem? hqk)) (by omega)) hZ (own_w hw 243 rfl) (own_w hw 18 rfl) (by decide) (by decide)) (g := (mkF m 32 (own_ARIIRIR a1 (0 : Int32) p2 b1 c9 r23) [(.int c9), (.ref r23)])) rfl (by rw [hml]; rfl) (argsL := [(.ref r23), (.int c9)]) (rest := []) (lenOf pd_4_2 rfl) rfl (Nat.le_of_eq rfl) (hb hby d4_32) (fun _ _ => ⟨rfl, rfl, (by decide : 2 + 0 ≤ _), (by decide : 87 + 0 ≤ _)⟩)
    dsimp only [Pt.U, Pt.locs, Pt.cells, Pt.slots] at X32 l32 y32 z32 st32 hQ32
    subst l32 y32 z32
    obtain ⟨rfl, N32q, hq32⟩ := hQ32
    have N32 := Fr.app N23 N32q
    refine own_by st32 ?_
    have sg56 : own_G p e below T32 (mkF m 56 (own_ARIIRIR a1 (0 : Int32) p2 b1 c9 r23) [(.ref r23)]) T32 (mkF m 35 (own_ARIIRIR a1 (0 : Int32) p2 b1 c9 r23) [(.int c)]) := by
      intro t k
      refine XS.sipush X32.here hx rfl (hb hby d4_35) ?_
      refine XS.icmpYes X32.here hx rfl (pc0 := 38) (pc' := 54) rfl (hb hby d4_38) rfl (tlt (hbig : (255 : Int32) < c)).2.2.1 (by decide) (by decide) ?_
      refine XS.aload X32.here hx rfl (hb hby d4_54) rfl rfl ?_
      exact k
    refine own_by sg56 ?_
    obtain ⟨fs, hr, hrun, hended, hW, hsame⟩ := X32.leave (v := some (.ref r23)) (fun h => by rw [Bd.returns] at h; cases h)
    refine ⟨_, _, ?_, hrun, hended, _, _, rfl, ?_, ⟨_, rfl⟩, hW, hsame.mono (by decide) (by decide)⟩
    · show Steps p.tables e below (T32.setTop (mkF m 56 (own_ARIIRIR a1 (0 : Int32) p2 b1 c9 r23) [(.ref r23)])) _
      jvm_step X32.here [X32.here.top, hx, (hb hby d4_56), X32.method', Bd.returns, Value.isRef, FieldType.isReference]
      first | (intro acts; rw [hr _ acts rfl rfl rfl]) | rw [hr _ _ rfl rfl rfl]
      exact Steps.refl _
    · show Q4 Z a1 p2 kc cs gz gf h0 n0 _ T32.heap _
      rw [hq32]
      exact ⟨_, _, 2 * cs.length, (1 : Int32), rfl, sz_r23, N32, K23, Aq23, Or.inr rfl, (fun q => absurd q (by decide)), (fun _ => rfl)⟩
abbrev own_b6 := jdk_52_method_15_code
theorem d6_0 : decode own_b6 0 = .ok (.iload_n 1, 1) := by decide +kernel
theorem d6_1 : decode own_b6 1 = .ok (.aload_n 0, 1) := by decide +kernel
theorem d6_2 : decode own_b6 2 = .ok (.arraylength, 1) := by decide +kernel
theorem d6_3 : decode own_b6 3 = .ok (.isub, 1) := by decide +kernel
theorem d6_4 : decode own_b6 4 = .ok (.bipush 31, 2) := by decide +kernel
theorem d6_6 : decode own_b6 6 = .ok (.iushr, 1) := by decide +kernel
theorem d6_7 : decode own_b6 7 = .ok (.i2b, 1) := by decide +kernel
theorem d6_8 : decode own_b6 8 = .ok (.ireturn, 1) := by decide +kernel
theorem pn_6c0 : plainFor (⟨"java/lang/StringUTF16", "coderFromArrayLen", "([BI)B"⟩ : MethodName) = true := by first | exact plainFor_of_name (by first | (simp [plainName, overriddenIn]; done) | decide +kernel) | decide +kernel | exact Jvm.Free.JP.mathPlain rfl (by decide +kernel)
theorem ef_6c0 (m : MethodId) (a1 : Addr) (p1 : Int32) : entryFrame m #[(.ref a1), (.int p1)] 2 = mkF m 0 #[.val (.ref a1), .val (.int p1)] [] := by first | (simp [entryFrame, mkF, argsToLocals, Value.category]; done) | rfl
abbrev own_r6c0 : Room := { frames := 0, cells := 0, slots := 0, locals := 0 }
def Q6c0 (Z : State) (a1 : Addr) (p1 : Int32) (kb : ClassId) (N : Nat) (vs : List Value) (mm : Nat) (h0 : Heap) (n0 : Nat) (v : Option Value) (h : Heap) (L : List Loc) : Prop := v = some (.int (0 : Int32)) ∧ Fr n0 L ∧ h = h0
theorem rm6c0 (l : Launch) (Z : State) (a0 : Array Value) (hw : ∀ d ∈ tables_1, d.before a0 Z = true) (ws : List Jvm.Cond) (a1 : Addr) (p1 : Int32) (kb : ClassId) (N : Nat) (vs : List Value) (mm : Nat) (h0 : Heap) (n0 : Nat) (Z0 : n0 ≤ h0.size) (A_1 : Arv Z h0 a1 kb .byte (Int32.ofNat (N)) vs (.int (0 : Int32))) (hp1 : p1 = Int32.ofNat mm) (hN : N = mm) (hm0 : 0 < mm) (hm : mm ≤ 3) :
    MetFree l own_n45 (head1 (Jvm.Cond.code own_n45 jdk_52_method_15_code 2 (some .byte) :: ws) own_r6c0) (fun a U => a = #[(.ref a1), (.int p1)] ∧ Z.Warmed39 U.vm ∧ U.heap = h0) (fun _ _ _ _ _ => True) (fun _ U o U' => ∃ v L, o = .returned v ∧ Q6c0 Z a1 p1 kb N vs mm h0 n0 v U'.heap L ∧ FrameEnd U o U' L own_r6c0.cells own_r6c0.slots) := by
  refine MetFree.of_bodySF pn_6c0 hisR ?_
  intro p e s m args below meth c s₁ Bd hml0 hP hK
  obtain ⟨rfl, hZ, hh⟩ := hP
  have hx := Bd.exec
  have hby := Bd.bytes
  have hml : c.maxLocals = 2 := hml0
  have hown : s.vm.findClass "java/lang/StringUTF16" = some m.cls := findClass_of_methodNamed Bd.named
  have hnm := (name_of_methodNamed Bd.named Bd.method).1
  have X0 : Stand p l e own_r6c0 s m #[(.ref a1), (.int p1)] below meth c s₁ [] 0 0 := Stand.of_body Bd
  have e0 : s₁.heap = h0 := by rw [← hh, Bd.state]; rfl
  have N0 := Fr.nil n0
  refine own_at (castTop (ef_6c0 m a1 p1)) ?_
  have K0 := Keep.refl h0 []
  have sg2 : own_G p e below s₁ (mkF m 2 #[.val (.ref a1), .val (.int p1)] [(.ref a1), (.int p1)]) s₁ (mkF m 0 #[.val (.ref a1), .val (.int p1)] []) := by
    intro t k
    refine XS.iloadN X0.here hx rfl (hb hby d6_0) rfl ?_
    refine XS.aloadN X0.here hx rfl (hb hby d6_1) rfl rfl ?_
    exact k
  refine own_by sg2 ?_
  obtain ⟨cl2, Ar2, qa2, Sa2, Na2, Ha2, Ga2⟩ := id A_1
  obtain ⟨t2, ht2⟩ : ∃ z : Int32, z = (Int32.ofNat (N)) := ⟨_, rfl⟩
  have sg3 : own_G p e below s₁ (mkF m 3 #[.val (.ref a1), .val (.int p1)] [(.int t2), (.int p1)]) s₁ (mkF m 2 #[.val (.ref a1), .val (.int p1)] [(.ref a1), (.int p1)]) := by
    intro t k
    rw [ht2] at k
    refine X0.arraylength hx (by rw [e0]; exact Ar2.1) (State.isArrayOf_alike hZ.alike Ar2.2.1) (g := (mkF m 2 #[.val (.ref a1), .val (.int p1)] [(.ref a1), (.int p1)])) rfl rfl (hb hby d6_2) _ ?_
    rw [len_of Sa2 Na2]
    exact k
  refine own_by sg3 ?_
  have nt_t2 : t2 = Int32.ofNat (N) := ht2
  obtain ⟨k, hk⟩ : ∃ z : Int32, z = ((((p1 - t2).toUInt32 >>> ((31 : Int32) &&& 31).toUInt32).toInt32).toInt8.toInt32) := ⟨_, rfl⟩
  have sg8 : own_G p e below s₁ (mkF m 8 #[.val (.ref a1), .val (.int p1)] [(.int k)]) s₁ (mkF m 3 #[.val (.ref a1), .val (.int p1)] [(.int t2), (.int p1)]) := by
    intro t k
    rw [hk] at k
    refine XS.isub X0.here hx rfl (hb hby d6_3) rfl ?_
    refine XS.bipush X0.here hx rfl (hb hby d6_4) ?_
    refine XS.iushr X0.here hx rfl (hb hby d6_6) rfl ?_
    refine XS.i2b X0.here hx rfl (hb hby d6_7) rfl ?_
    exact k
  refine own_by sg8 ?_
  have hkc : k = (0 : Int32) := by rw [hk]; exact own_cfl0 (hp1.trans (by rw [ht2, hN]))
  obtain ⟨fs, hr, hrun, hended, hW, hsame⟩ := X0.leave (v := some (.int k)) (fun h => by rw [Bd.returns] at h; cases h)
  refine ⟨_, _, ?_, hrun, hended, _, _, rfl, ?_, ⟨_, rfl⟩, hW, hsame.mono (by decide) (by decide)⟩
  · exact retN X0 hx (t := .byte) Bd.returns (by simp) (hb hby d6_8) (by rw [show nar .byte k = k from by rw [hkc]; rfl]; exact hr)
  · show Q6c0 Z a1 p1 kb N vs mm h0 n0 _ s₁.heap _
    rw [e0]
    exact ⟨by rw [hkc], N0, rfl⟩
theorem pn_6c1 : plainFor (⟨"java/lang/StringUTF16", "coderFromArrayLen", "([BI)B"⟩ : MethodName) = true := by first | exact plainFor_of_name (by first | (simp [plainName, overriddenIn]; done) | decide +kernel) | decide +kernel | exact Jvm.Free.JP.mathPlain rfl (by decide +kernel)
theorem ef_6c1 (m : MethodId) (a1 : Addr) (p1 : Int32) : entryFrame m #[(.ref a1), (.int p1)] 2 = mkF m 0 #[.val (.ref a1), .val (.int p1)] [] := by first | (simp [entryFrame, mkF, argsToLocals, Value.category]; done) | rfl
abbrev own_r6c1 : Room := { frames := 0, cells := 0, slots := 0, locals := 0 }
def Q6c1 (Z : State) (a1 : Addr) (p1 : Int32) (kb : ClassId) (N : Nat) (vs : List Value) (mm : Nat) (h0 : Heap) (n0 : Nat) (v : Option Value) (h : Heap) (L : List Loc) : Prop := v = some (.int (1 : Int32)) ∧ Fr n0 L ∧ h = h0
theorem rm6c1 (l : Launch) (Z : State) (a0 : Array Value) (hw : ∀ d ∈ tables_1, d.before a0 Z = true) (ws : List Jvm.Cond) (a1 : Addr) (p1 : Int32) (kb : ClassId) (N : Nat) (vs : List Value) (mm : Nat) (h0 : Heap) (n0 : Nat) (Z0 : n0 ≤ h0.size) (A_1 : Arv Z h0 a1 kb .byte (Int32.ofNat (N)) vs (.int (0 : Int32))) (hp1 : p1 = Int32.ofNat mm) (hN : N = 2 * mm) (hm0 : 0 < mm) (hm : mm ≤ 3) :
    MetFree l own_n45 (head1 (Jvm.Cond.code own_n45 jdk_52_method_15_code 2 (some .byte) :: ws) own_r6c1) (fun a U => a = #[(.ref a1), (.int p1)] ∧ Z.Warmed39 U.vm ∧ U.heap = h0) (fun _ _ _ _ _ => True) (fun _ U o U' => ∃ v L, o = .returned v ∧ Q6c1 Z a1 p1 kb N vs mm h0 n0 v U'.heap L ∧ FrameEnd U o U' L own_r6c1.cells own_r6c1.slots) := by
  refine MetFree.of_bodySF pn_6c1 hisR ?_
  intro p e s m args below meth c s₁ Bd hml0 hP hK
  obtain ⟨rfl, hZ, hh⟩ := hP
  have hx := Bd.exec
  have hby := Bd.bytes
  have hml : c.maxLocals = 2 := hml0
  have hown : s.vm.findClass "java/lang/StringUTF16" = some m.cls := findClass_of_methodNamed Bd.named
  have hnm := (name_of_methodNamed Bd.named Bd.method).1
  have X0 : Stand p l e own_r6c1 s m #[(.ref a1), (.int p1)] below meth c s₁ [] 0 0 := Stand.of_body Bd
  have e0 : s₁.heap = h0 := by rw [← hh, Bd.state]; rfl
  have N0 := Fr.nil n0
  refine own_at (castTop (ef_6c1 m a1 p1)) ?_
  have K0 := Keep.refl h0 []
  have sg2 : own_G p e below s₁ (mkF m 2 #[.val (.ref a1), .val (.int p1)] [(.ref a1), (.int p1)]) s₁ (mkF m 0 #[.val (.ref a1), .val (.int p1)] []) := by
    intro t k
    refine XS.iloadN X0.here hx rfl (hb hby d6_0) rfl ?_
    refine XS.aloadN X0.here hx rfl (hb hby d6_1) rfl rfl ?_
    exact k
  refine own_by sg2 ?_
  obtain ⟨cl2, Ar2, qa2, Sa2, Na2, Ha2, Ga2⟩ := id A_1
  obtain ⟨t2, ht2⟩ : ∃ z : Int32, z = (Int32.ofNat (N)) := ⟨_, rfl⟩
  have sg3 : own_G p e below s₁ (mkF m 3 #[.val (.ref a1), .val (.int p1)] [(.int t2), (.int p1)]) s₁ (mkF m 2 #[.val (.ref a1), .val (.int p1)] [(.ref a1), (.int p1)]) := by
    intro t k
    rw [ht2] at k
    refine X0.arraylength hx (by rw [e0]; exact Ar2.1) (State.isArrayOf_alike hZ.alike Ar2.2.1) (g := (mkF m 2 #[.val (.ref a1), .val (.int p1)] [(.ref a1), (.int p1)])) rfl rfl (hb hby d6_2) _ ?_
    rw [len_of Sa2 Na2]
    exact k
  refine own_by sg3 ?_
  have nt_t2 : t2 = Int32.ofNat (N) := ht2
  obtain ⟨k, hk⟩ : ∃ z : Int32, z = ((((p1 - t2).toUInt32 >>> ((31 : Int32) &&& 31).toUInt32).toInt32).toInt8.toInt32) := ⟨_, rfl⟩
  have sg8 : own_G p e below s₁ (mkF m 8 #[.val (.ref a1), .val (.int p1)] [(.int k)]) s₁ (mkF m 3 #[.val (.ref a1), .val (.int p1)] [(.int t2), (.int p1)]) := by
    intro t k
    rw [hk] at k
    refine XS.isub X0.here hx rfl (hb hby d6_3) rfl ?_
    refine XS.bipush X0.here hx rfl (hb hby d6_4) ?_
    refine XS.iushr X0.here hx rfl (hb hby d6_6) rfl ?_
    refine XS.i2b X0.here hx rfl (hb hby d6_7) rfl ?_
    exact k
  refine own_by sg8 ?_
  have hkc : k = (1 : Int32) := by rw [hk]; exact own_cfl1 hp1 (by rw [ht2, hN]) hm0 hm
  obtain ⟨fs, hr, hrun, hended, hW, hsame⟩ := X0.leave (v := some (.int k)) (fun h => by rw [Bd.returns] at h; cases h)
  refine ⟨_, _, ?_, hrun, hended, _, _, rfl, ?_, ⟨_, rfl⟩, hW, hsame.mono (by decide) (by decide)⟩
  · exact retN X0 hx (t := .byte) Bd.returns (by simp) (hb hby d6_8) (by rw [show nar .byte k = k from by rw [hkc]; rfl]; exact hr)
  · show Q6c1 Z a1 p1 kb N vs mm h0 n0 _ s₁.heap _
    rw [e0]
    exact ⟨by rw [hkc], N0, rfl⟩
abbrev own_b2 := jdk_42_method_149_code
theorem d2_0 : decode own_b2 0 = .ok (.aload_n 0, 1) := by decide +kernel
theorem d2_1 : decode own_b2 1 = .ok (.invokespecial 1, 3) := by decide +kernel
theorem d2_4 : decode own_b2 4 = .ok (.iload_n 3, 1) := by decide +kernel
theorem d2_5 : decode own_b2 5 = .ok (.ifCond .ne 22, 3) := by decide +kernel
theorem d2_27 : decode own_b2 27 = .ok (.getstatic 38, 3) := by decide +kernel
theorem d2_30 : decode own_b2 30 = .ok (.ifCond .eq 28, 3) := by decide +kernel
theorem d2_33 : decode own_b2 33 = .ok (.aload_n 1, 1) := by decide +kernel
theorem d2_34 : decode own_b2 34 = .ok (.iload_n 2, 1) := by decide +kernel
theorem d2_35 : decode own_b2 35 = .ok (.iload_n 3, 1) := by decide +kernel
theorem d2_36 : decode own_b2 36 = .ok (.invokestatic 177, 3) := by decide +kernel
theorem d2_39 : decode own_b2 39 = .ok (.astore 5, 2) := by decide +kernel
theorem d2_41 : decode own_b2 41 = .ok (.aload_n 0, 1) := by decide +kernel
theorem d2_42 : decode own_b2 42 = .ok (.aload 5, 2) := by decide +kernel
theorem d2_44 : decode own_b2 44 = .ok (.iload_n 3, 1) := by decide +kernel
theorem d2_45 : decode own_b2 45 = .ok (.invokestatic 47, 3) := by decide +kernel
theorem d2_48 : decode own_b2 48 = .ok (.putfield 15, 3) := by decide +kernel
theorem d2_51 : decode own_b2 51 = .ok (.aload_n 0, 1) := by decide +kernel
theorem d2_52 : decode own_b2 52 = .ok (.aload 5, 2) := by decide +kernel
theorem d2_54 : decode own_b2 54 = .ok (.putfield 9, 3) := by decide +kernel
theorem d2_57 : decode own_b2 57 = .ok (.return_, 1) := by decide +kernel
theorem pn_2 : plainFor (⟨"java/lang/String", "<init>", "([CIILjava/lang/Void;)V"⟩ : MethodName) = true := by first | exact plainFor_of_name (by first | (simp [plainName, overriddenIn]; done) | decide +kernel) | decide +kernel | exact Jvm.Free.JP.mathPlain rfl (by decide +kernel)
theorem pd_2_0 : parseMethodDescriptor "([CII)[B" = some ⟨[(.array .char), .int, .int], some (.array .byte)⟩ := by decide +kernel
theorem pd_2_1 : parseMethodDescriptor "([BI)B" = some ⟨[(.array .byte), .int], some .byte⟩ := by decide +kernel
theorem ef_2 (m : MethodId) (a1 : Addr) (a2 : Addr) (p3 : Int32) : entryFrame m #[(.ref a1), (.ref a2), (.int (0 : Int32)), (.int p3), .null] 6 = mkF m 0 #[.val (.ref a1), .val (.ref a2), .val (.int (0 : Int32)), .val (.int p3), .val .null, .unset] [] := by first | (simp [entryFrame, mkF, argsToLocals, Value.category]; done) | rfl
abbrev own_r2 : Room := { frames := 4, cells := 2, slots := 87, locals := 57 }
def Q2 (Z : State) (a1 : Addr) (a2 : Addr) (p3 : Int32) (kc : ClassId) (cs : List Int32) (gz : Int32) (gf : Value) (h0 : Heap) (n0 : Nat) (v : Option Value) (h : Heap) (L : List Loc) : Prop := v = none ∧ Fr n0 L ∧ Keep h0 h [a1] ∧ ∃ (t : Addr) (kt : ClassId) (M : Nat) (cd : Int32), h0.size ≤ t ∧ own_T Z h a1 t kt M cd cs
theorem rm2 (l : Launch) (Z : State) (a0 : Array Value) (hw : ∀ d ∈ tables_1, d.before a0 Z = true) (ws : List Jvm.Cond) (a1 : Addr) (a2 : Addr) (p3 : Int32) (kc : ClassId) (cs : List Int32) (gz : Int32) (gf : Value) (h0 : Heap) (n0 : Nat) (Z0 : n0 ≤ h0.size) (O : Old Z n0 h0) (hst : own_ST Z gz gf) (E_a1 : Exa Z h0 a1 "java/lang/String") (F_v : Fld Z h0 a1 "java/lang/String" "value" "[B" .null) (F_c : Fld Z h0 a1 "java/lang/String" "coder" "B" (.int (0 : Int32))) (g_a1 : n0 ≤ a1) (A_s : Arv Z h0 a2 kc .char (Int32.ofNat (cs).length) ((cs).map Value.int) (.int (0 : Int32))) (hln : cs.length ≤ 3) (hpos : 0 < cs.length) (h16 : ∀ x ∈ cs, ¬ x < 0 ∧ ¬ (65535 : Int32) < x) (hp3 : p3 = Int32.ofNat cs.length) :
    MetFree l own_n46 (head1 (Jvm.Cond.code own_n46 jdk_42_method_149_code 6 none :: ws) own_r2) (fun a U => a = #[(.ref a1), (.ref a2), (.int (0 : Int32)), (.int p3), .null] ∧ Z.Warmed39 U.vm ∧ U.heap = h0) (fun _ _ _ _ _ => True) (fun _ U o U' => ∃ v L, o = .returned v ∧ Q2 Z a1 a2 p3 kc cs gz gf h0 n0 v U'.heap L ∧ FrameEnd U o U' L own_r2.cells own_r2.slots) := by
  refine MetFree.of_bodySF pn_2 hisR ?_
  intro p e s m args below meth c s₁ Bd hml0 hP hK
  obtain ⟨rfl, hZ, hh⟩ := hP
  have hx := Bd.exec
  have hby := Bd.bytes
  have hml : c.maxLocals = 6 := hml0
  have hown : s.vm.findClass "java/lang/String" = some m.cls := findClass_of_methodNamed Bd.named
  have hnm := (name_of_methodNamed Bd.named Bd.method).1
  have X0 : Stand p l e own_r2 s m #[(.ref a1), (.ref a2), (.int (0 : Int32)), (.int p3), .null] below meth c s₁ [] 0 0 := Stand.of_body Bd
  have e0 : s₁.heap = h0 := by rw [← hh, Bd.state]; rfl
  have N0 := Fr.nil n0
  refine own_at (castTop (ef_2 m a1 a2 p3)) ?_
  have K0 := Keep.refl h0 [a1]
  obtain ⟨S1, P5, S2, rf, S3, S4, S5⟩ := id hst
  have n_12 : a1 ≠ a2 := E_a1.neArv A_s (own_w hw 3 rfl)
  have sg1 : own_G p e below s₁ (mkF m 1 (own_ARRIINU a1 a2 (0 : Int32) p3) [(.ref a1)]) s₁ (mkF m 0 (own_ARRIINU a1 a2 (0 : Int32) p3) []) := by
    intro t k
    refine XS.aloadN X0.here hx rfl (hb hby d2_0) rfl rfl ?_
    exact k
  refine own_by sg1 ?_
  obtain ⟨T1, X1, e1, st1⟩ := initO X0 hx hZ hown (own_w hw 12 rfl) (own_w hw 13 rfl) (own_w hw 14 rfl) e0 (g := (mkF m 1 (own_ARRIINU a1 a2 (0 : Int32) p3) [(.ref a1)])) rfl (by rw [hml]; rfl) rfl (hb hby d2_1) (by decide) (W := 0) (by show 2 * 0 + _ ≤ _; exact Nat.le_of_eq rfl) (by decide)
  refine own_by st1 ?_
  have sg27 : own_G p e below T1 (mkF m 27 (own_ARRIINU a1 a2 (0 : Int32) p3) []) T1 (mkF m 4 (own_ARRIINU a1 a2 (0 : Int32) p3) []) := by
    intro t k
    refine XS.iloadN X1.here hx rfl (hb hby d2_4) rfl ?_
    refine XS.ifYes X1.here hx rfl (pc0 := 5) (pc' := 27) rfl (hb hby d2_5) rfl ((if0 _ _).trans (feq ((not_congr (own_neq (n := 0) hp3 (rfl : (0 : Int32) = Int32.ofNat 0) (by omega) (by decide))).mpr (by omega) : ¬ (p3 = (0 : Int32)))).2) (by decide) (by decide) ?_
    exact k
  refine own_by sg27 ?_
  obtain ⟨T27, X27, e27, st27⟩ := getS2 X1 hx hZ hown (host := "") (Or.inl (own_w hw 15 rfl)) Via.refl e1 (S1.ext O.2) (g := (mkF m 27 (own_ARRIINU a1 a2 (0 : Int32) p3) [])) rfl (hb hby d2_27)
  refine own_by st27 ?_
  have sg36 : own_G p e below T27 (mkF m 36 (own_ARRIINU a1 a2 (0 : Int32) p3) [(.int p3), (.int (0 : Int32)), (.ref a2)]) T27 (mkF m 30 (own_ARRIINU a1 a2 (0 : Int32) p3) [(.int gz)]) := by
    intro t k
    refine XS.ifNo X27.here hx rfl (hb hby d2_30) rfl ((if0 _ _).trans (feq P5).1) ?_
    refine XS.aloadN X27.here hx rfl (hb hby d2_33) rfl rfl ?_
    refine XS.iloadN X27.here hx rfl (hb hby d2_34) rfl ?_
    refine XS.iloadN X27.here hx rfl (hb hby d2_35) rfl ?_
    exact k
  refine own_by sg36 ?_
  obtain ⟨_, _, ⟨T36, L36, k36, n36⟩, -, X36, ⟨Lc36, hQ36, l36, y36, z36⟩, st36⟩ := Jvm.LawKit.callS X27 hx (y := own_n44) hown (mvT hZ (own_w hw 16 rfl)) (mvT hZ (own_w hw 17 rfl)) (mvT hZ (own_w hw 18 rfl)) (mvT hZ (own_w hw 19 rfl)) (by decide) (backOf (W := 0) (rm4 l Z a0 hw [] a2 p3 kc cs gz gf h0 n0 Z0 O hst A_s hp3 hln h16) hZ (own_w hw 19 rfl) (own_w hw 18 rfl) (by decide) (by decide)) (g := (mkF m 36 (own_ARRIINU a1 a2 (0 : Int32) p3) [(.int p3), (.int (0 : Int32)), (.ref a2)])) rfl (by rw [hml]; rfl) (argsL := [(.ref a2), (.int (0 : Int32)), (.int p3)]) (rest := []) (lenOf pd_2_0 rfl) rfl (Nat.le_of_eq rfl) (hb hby d2_36) (fun _ _ => ⟨rfl, e27, (by decide : 0 + 2 ≤ _), (by decide : 0 + 87 ≤ _)⟩)
  dsimp only [Pt.U, Pt.locs, Pt.cells, Pt.slots] at X36 l36 y36 z36 st36 hQ36
  subst l36 y36 z36
  obtain ⟨r36, kr, M, cd, rfl, ge36, N36q, Kq36, Aq, hcd, hs0, hs1⟩ := hQ36
  have N36 := Fr.app N0 N36q
  have ne_a1_r36 : a1 ≠ r36 := Nat.ne_of_lt (Nat.lt_of_lt_of_le E_a1.lt ge36)
  have ne_a2_r36 : a2 ≠ r36 := Nat.ne_of_lt (Nat.lt_of_lt_of_le A_s.lt ge36)
  have g_r36 : n0 ≤ r36 := Nat.le_trans Z0 ge36
  have sz_r36 : h0.size ≤ r36 := Nat.le_trans K0.1 ge36
  have K36 : Keep h0 T36.heap [a1] := K0.trans Kq36 (fun x hx => nomatch hx)
  have Z36 : n0 ≤ T36.heap.size := Nat.le_trans Z0 Kq36.1
  refine own_by st36 ?_
  have sg41 : own_G p e below T36 (mkF m 41 (own_ARRIINR a1 a2 (0 : Int32) p3 r36) []) T36 (mkF m 39 (own_ARRIINU a1 a2 (0 : Int32) p3) [(.ref r36)]) := by
    intro t k
    refine XS.astore X36.here hx rfl (hb hby d2_39) rfl rfl (l' := (own_ARRIINR a1 a2 (0 : Int32) p3 r36)) rfl ?_
    exact k
  refine own_by sg41 ?_
  rcases hcd with rfl | rfl
  · skip
    have hs_ := hs0 rfl
    have sg45 : own_G p e below T36 (mkF m 45 (own_ARRIINR a1 a2 (0 : Int32) p3 r36) [(.int p3), (.ref r36), (.ref a1)]) T36 (mkF m 41 (own_ARRIINR a1 a2 (0 : Int32) p3 r36) []) := by
      intro t k
      refine XS.aloadN X36.here hx rfl (hb hby d2_41) rfl rfl ?_
      refine XS.aload X36.here hx rfl (hb hby d2_42) rfl rfl ?_
      refine XS.iloadN X36.here hx rfl (hb hby d2_44) rfl ?_
      exact k
    refine own_by sg45 ?_
    obtain ⟨_, _, ⟨T45, L45, k45, n45⟩, -, X45, ⟨Lc45, hQ45, l45, y45, z45⟩, st45⟩ := Jvm.LawKit.callS X36 hx (y := own_n45) hown (mvT hZ (own_w hw 24 rfl)) (mvT hZ (own_w hw 25 rfl)) (mvT hZ (own_w hw 18 rfl)) (mvT hZ (own_w hw 26 rfl)) (by decide) (backOf (W := 1) (rm6c0 l Z a0 hw [] r36 p3 kr M (own_cod (0 : Int32) cs) cs.length T36.heap n0 Z36 Aq hp3 (hs_.1) hpos hln) hZ (own_w hw 26 rfl) (own_w hw 18 rfl) (by decide) (by decide)) (g := (mkF m 45 (own_ARRIINR a1 a2 (0 : Int32) p3 r36) [(.int p3), (.ref r36), (.ref a1)])) rfl (by rw [hml]; rfl) (argsL := [(.ref r36), (.int p3)]) (rest := [(.ref a1)]) (lenOf pd_2_1 rfl) rfl (Nat.le_of_eq rfl) (hb hby d2_45) (fun _ _ => ⟨rfl, rfl, (by decide : 2 + 0 ≤ _), (by decide : 87 + 0 ≤ _)⟩)
    dsimp only [Pt.U, Pt.locs, Pt.cells, Pt.slots] at X45 l45 y45 z45 st45 hQ45
    subst l45 y45 z45
    obtain ⟨rfl, N45q, hq45⟩ := hQ45
    have N45 := Fr.app N36 N45q
    refine own_by st45 ?_
    obtain ⟨T48, h48, X48, e48, W48, st48⟩ := putF X45 hx hZ hown (host := "") (Or.inl (own_w hw 27 rfl)) Via.refl hq45 (F_c.keep Kq36 List.not_mem_nil) (E_a1.keep Kq36) (Or.inr ⟨(own_w hw 28 rfl), rfl, hnm⟩) (own_w hw 3 rfl) (ty := .byte) (by decide) rfl rfl (g := (mkF m 48 (own_ARRIINR a1 a2 (0 : Int32) p3 r36) [(.int (0 : Int32)), (.ref a1)])) rfl rfl (hb hby d2_48)
    have Fw48 := (F_c.keep Kq36 List.not_mem_nil).same W48
    have fc := ((F_v.keep Kq36 List.not_mem_nil).other W48 (Or.inr (slot_ne (Or.inr (own_w hw 30 rfl)) (Or.inr (own_w hw 28 rfl)) (by decide) (t := (.array .byte)) (t' := .byte) (by decide) (by decide))))
    have K48 : Keep h0 h48 [a1] := K36.wr W48 (Or.inl (List.mem_of_getElem? (i := 0) rfl))
    have Z48 : n0 ≤ h48.size := Nat.le_trans Z36 (Keep.of_wr W48).1
    have N48 := Fr.snoc X48 N45 g_a1
    refine own_by st48 ?_
    have sg54 : own_G p e below T48 (mkF m 54 (own_ARRIINR a1 a2 (0 : Int32) p3 r36) [(.ref r36), (.ref a1)]) T48 (mkF m 51 (own_ARRIINR a1 a2 (0 : Int32) p3 r36) []) := by
      intro t k
      refine XS.aloadN X48.here hx rfl (hb hby d2_51) rfl rfl ?_
      refine XS.aload X48.here hx rfl (hb hby d2_52) rfl rfl ?_
      exact k
    refine own_by sg54 ?_
    obtain ⟨T54, h54, X54, e54, W54, st54⟩ := putF X48 hx hZ hown (host := "") (Or.inl (own_w hw 29 rfl)) Via.refl e48 fc ((E_a1.keep Kq36).wr W48) (Or.inr ⟨(own_w hw 30 rfl), rfl, hnm⟩) (own_w hw 3 rfl) (ty := (.array .byte)) (by decide) rfl rfl (g := (mkF m 54 (own_ARRIINR a1 a2 (0 : Int32) p3 r36) [(.ref r36), (.ref a1)])) rfl rfl (hb hby d2_54)
    have Fw54 := fc.same W54
    have fc_2 := (Fw48.other W54 (Or.inr (slot_ne (Or.inr (own_w hw 28 rfl)) (Or.inr (own_w hw 30 rfl)) (by decide) (t := .byte) (t' := (.array .byte)) (by decide) (by decide))))
    have fc_3 := (((A_s.keep Kq36 List.not_mem_nil).other W48 (Ne.symm n_12)).other W54 (Ne.symm n_12))
    have fc_4 := ((Aq.other W48 (Ne.symm ne_a1_r36)).other W54 (Ne.symm ne_a1_r36))
    have K54 : Keep h0 h54 [a1] := K48.wr W54 (Or.inl (List.mem_of_getElem? (i := 0) rfl))
    have Z54 : n0 ≤ h54.size := Nat.le_trans Z48 (Keep.of_wr W54).1
    have N54 := Fr.snoc X54 N48 g_a1
    refine own_by st54 ?_
    obtain ⟨fs, hr, hrun, hended, hW, hsame⟩ := X54.leave (v := none) (fun _ => rfl)
    refine ⟨_, _, ?_, hrun, hended, _, _, rfl, ?_, ⟨_, rfl⟩, hW, hsame.mono (by decide) (by decide)⟩
    · exact X54.returnOut hx Bd.returns (hb hby d2_57) hr
    · show Q2 Z a1 a2 p3 kc cs gz gf h0 n0 _ T54.heap _
      rw [e54]
      exact ⟨rfl, N54, K54, r36, kr, M, (0 : Int32), sz_r36, (((E_a1.keep Kq36).wr W48).wr W54), Fw54, fc_2, fc_4, Or.inl rfl, ⟨hs0, hs1⟩, h16, (by omega)⟩
  · skip
    have hs_ := hs1 rfl
    have sg45 : own_G p e below T36 (mkF m 45 (own_ARRIINR a1 a2 (0 : Int32) p3 r36) [(.int p3), (.ref r36), (.ref a1)]) T36 (mkF m 41 (own_ARRIINR a1 a2 (0 : Int32) p3 r36) []) := by
      intro t k
      refine XS.aloadN X36.here hx rfl (hb hby d2_41) rfl rfl ?_
      refine XS.aload X36.here hx rfl (hb hby d2_42) rfl rfl ?_
      refine XS.iloadN X36.here hx rfl (hb hby d2_44) rfl ?_
      exact k
    refine own_by sg45 ?_
    obtain ⟨_, _, ⟨T45, L45, k45, n45⟩, -, X45, ⟨Lc45, hQ45, l45, y45, z45⟩, st45⟩ := Jvm.LawKit.callS X36 hx (y := own_n45) hown (mvT hZ (own_w hw 24 rfl)) (mvT hZ (own_w hw 25 rfl)) (mvT hZ (own_w hw 18 rfl)) (mvT hZ (own_w hw 26 rfl)) (by decide) (backOf (W := 1) (rm6c1 l Z a0 hw [] r36 p3 kr M (own_cod (1 : Int32) cs) cs.length T36.heap n0 Z36 Aq hp3 hs_ hpos hln) hZ (own_w hw 26 rfl) (own_w hw 18 rfl) (by decide) (by decide)) (g := (mkF m 45 (own_ARRIINR a1 a2 (0 : Int32) p3 r36) [(.int p3), (.ref r36), (.ref a1)])) rfl (by rw [hml]; rfl) (argsL := [(.ref r36), (.int p3)]) (rest := [(.ref a1)]) (lenOf pd_2_1 rfl) rfl (Nat.le_of_eq rfl) (hb hby d2_45) (fun _ _ => ⟨rfl, rfl, (by decide : 2 + 0 ≤ _), (by decide : 87 + 0 ≤ _)⟩)
    dsimp only [Pt.U, Pt.locs, Pt.cells, Pt.slots] at X45 l45 y45 z45 st45 hQ45
    subst l45 y45 z45
    obtain ⟨rfl, N45q, hq45⟩ := hQ45
    have N45 := Fr.app N36 N45q
    refine own_by st45 ?_
    obtain ⟨T48, h48, X48, e48, W48, st48⟩ := putF X45 hx hZ hown (host := "") (Or.inl (own_w hw 27 rfl)) Via.refl hq45 (F_c.keep Kq36 List.not_mem_nil) (E_a1.keep Kq36) (Or.inr ⟨(own_w hw 28 rfl), rfl, hnm⟩) (own_w hw 3 rfl) (ty := .byte) (by decide) rfl rfl (g := (mkF m 48 (own_ARRIINR a1 a2 (0 : Int32) p3 r36) [(.int (1 : Int32)), (.ref a1)])) rfl rfl (hb hby d2_48)
    have Fw48 := (F_c.keep Kq36 List.not_mem_nil).same W48
    have fc := ((F_v.keep Kq36 List.not_mem_nil).other W48 (Or.inr (slot_ne (Or.inr (own_w hw 30 rfl)) (Or.inr (own_w hw 28 rfl)) (by decide) (t := (.array .byte)) (t' := .byte) (by decide) (by decide))))
    have K48 : Keep h0 h48 [a1] := K36.wr W48 (Or.inl (List.mem_of_getElem? (i := 0) rfl))
    have Z48 : n0 ≤ h48.size := Nat.le_trans Z36 (Keep.of_wr W48).1
    have N48 := Fr.snoc X48 N45 g_a1
    refine own_by st48 ?_
    have sg54 : own_G p e below T48 (mkF m 54 (own_ARRIINR a1 a2 (0 : Int32) p3 r36) [(.ref r36), (.ref a1)]) T48 (mkF m 51 (own_ARRIINR a1 a2 (0 : Int32) p3 r36) []) := by
      intro t k
      refine XS.aloadN X48.here hx rfl (hb hby d2_51) rfl rfl ?_
      refine XS.aload X48.here hx rfl (hb hby d2_52) rfl rfl ?_
      exact k
    refine own_by sg54 ?_
    obtain ⟨T54, h54, X54, e54, W54, st54⟩ := putF X48 hx hZ hown (host := "") (Or.inl (own_w hw 29 rfl)) Via.refl e48 fc ((E_a1.keep Kq36).wr W48) (Or.inr ⟨(own_w hw 30 rfl), rfl, hnm⟩) (own_w hw 3 rfl) (ty := (.array .byte)) (by decide) rfl rfl (g := (mkF m 54 (own_ARRIINR a1 a2 (0 : Int32) p3 r36) [(.ref r36), (.ref a1)])) rfl rfl (hb hby d2_54)
    have Fw54 := fc.same W54
    have fc_2 := (Fw48.other W54 (Or.inr (slot_ne (Or.inr (own_w hw 28 rfl)) (Or.inr (own_w hw 30 rfl)) (by decide) (t := .byte) (t' := (.array .byte)) (by decide) (by decide))))
    have fc_3 := (((A_s.keep Kq36 List.not_mem_nil).other W48 (Ne.symm n_12)).other W54 (Ne.symm n_12))
    have fc_4 := ((Aq.other W48 (Ne.symm ne_a1_r36)).other W54 (Ne.symm ne_a1_r36))
    have K54 : Keep h0 h54 [a1] := K48.wr W54 (Or.inl (List.mem_of_getElem? (i := 0) rfl))
    have Z54 : n0 ≤ h54.size := Nat.le_trans Z48 (Keep.of_wr W54).1
    have N54 := Fr.snoc X54 N48 g_a1
    refine own_by st54 ?_
    obtain ⟨fs, hr, hrun, hended, hW, hsame⟩ := X54.leave (v := none) (fun _ => rfl)
    refine ⟨_, _, ?_, hrun, hended, _, _, rfl, ?_, ⟨_, rfl⟩, hW, hsame.mono (by decide) (by decide)⟩
    · exact X54.returnOut hx Bd.returns (hb hby d2_57) hr
    · show Q2 Z a1 a2 p3 kc cs gz gf h0 n0 _ T54.heap _
      rw [e54]
      exact ⟨rfl, N54, K54, r36, kr, M, (1 : Int32), sz_r36, (((E_a1.keep Kq36).wr W48).wr W54), Fw54, fc_2, fc_4, Or.inr rfl, ⟨hs0, hs1⟩, h16, (by omega)⟩
abbrev own_b1 := jdk_42_method_3_code
theorem d1_0 : decode own_b1 0 = .ok (.aload_n 0, 1) := by decide +kernel
theorem d1_1 : decode own_b1 1 = .ok (.aload_n 1, 1) := by decide +kernel
theorem d1_2 : decode own_b1 2 = .ok (.iconst 0, 1) := by decide +kernel
theorem d1_3 : decode own_b1 3 = .ok (.aload_n 1, 1) := by decide +kernel
theorem d1_4 : decode own_b1 4 = .ok (.arraylength, 1) := by decide +kernel
theorem d1_5 : decode own_b1 5 = .ok (.aconst_null, 1) := by decide +kernel
theorem d1_6 : decode own_b1 6 = .ok (.invokespecial 27, 3) := by decide +kernel
theorem d1_9 : decode own_b1 9 = .ok (.return_, 1) := by decide +kernel
theorem pn_1 : plainFor (⟨"java/lang/String", "<init>", "([C)V"⟩ : MethodName) = true := by first | exact plainFor_of_name (by first | (simp [plainName, overriddenIn]; done) | decide +kernel) | decide +kernel | exact Jvm.Free.JP.mathPlain rfl (by decide +kernel)
theorem pd_1_0 : parseMethodDescriptor "([CIILjava/lang/Void;)V" = some ⟨[(.array .char), .int, .int, (.object "java/lang/Void")], none⟩ := by decide +kernel
theorem ef_1 (m : MethodId) (a1 : Addr) (a2 : Addr) : entryFrame m #[(.ref a1), (.ref a2)] 2 = mkF m 0 #[.val (.ref a1), .val (.ref a2)] [] := by first | (simp [entryFrame, mkF, argsToLocals, Value.category]; done) | rfl
abbrev own_r1 : Room := { frames := 5, cells := 2, slots := 87, locals := 74 }
def Q1 (Z : State) (a1 : Addr) (a2 : Addr) (kc : ClassId) (cs : List Int32) (gz : Int32) (gf : Value) (h0 : Heap) (n0 : Nat) (v : Option Value) (h : Heap) (L : List Loc) : Prop := v = none ∧ Fr n0 L ∧ Keep h0 h [a1] ∧ ∃ (t : Addr) (kt : ClassId) (M : Nat) (cd : Int32), h0.size ≤ t ∧ own_T Z h a1 t kt M cd cs
theorem rm1 (l : Launch) (Z : State) (a0 : Array Value) (hw : ∀ d ∈ tables_1, d.before a0 Z = true) (ws : List Jvm.Cond) (a1 : Addr) (a2 : Addr) (kc : ClassId) (cs : List Int32) (gz : Int32) (gf : Value) (h0 : Heap) (n0 : Nat) (Z0 : n0 ≤ h0.size) (O : Old Z n0 h0) (hst : own_ST Z gz gf) (E_a1 : Exa Z h0 a1 "java/lang/String") (F_v : Fld Z h0 a1 "java/lang/String" "value" "[B" .null) (F_c : Fld Z h0 a1 "java/lang/String" "coder" "B" (.int (0 : Int32))) (g_a1 : n0 ≤ a1) (A_s : Arv Z h0 a2 kc .char (Int32.ofNat (cs).length) ((cs).map Value.int) (.int (0 : Int32))) (hln : cs.length ≤ 3) (hpos : 0 < cs.length) (h16 : ∀ x ∈ cs, ¬ x < 0 ∧ ¬ (65535 : Int32) < x) :
    MetFree l own_n53 (head1 (Jvm.Cond.code own_n53 jdk_42_method_3_code 2 none :: ws) own_r1) (fun a U => a = #[(.ref a1), (.ref a2)] ∧ Z.Warmed39 U.vm ∧ U.heap = h0) (fun _ _ _ _ _ => True) (fun _ U o U' => ∃ v L, o = .returned v ∧ Q1 Z a1 a2 kc cs gz gf h0 n0 v U'.heap L ∧ FrameEnd U o U' L own_r1.cells own_r1.slots) := by
  refine MetFree.of_bodySF pn_1 hisR ?_
  intro p e s m args below meth c s₁ Bd hml0 hP hK
  obtain ⟨rfl, hZ, hh⟩ := hP
  have hx := Bd.exec
  have hby := Bd.bytes
  have hml : c.maxLocals = 2 := hml0
  have hown : s.vm.findClass "java/lang/String" = some m.cls := findClass_of_methodNamed Bd.named
  have hnm := (name_of_methodNamed Bd.named Bd.method).1
  have X0 : Stand p l e own_r1 s m #[(.ref a1), (.ref a2)] below meth c s₁ [] 0 0 := Stand.of_body Bd
  have e0 : s₁.heap = h0 := by rw [← hh, Bd.state]; rfl
  have N0 := Fr.nil n0
  refine own_at (castTop (ef_1 m a1 a2)) ?_
  have K0 := Keep.refl h0 [a1]
  obtain ⟨S1, P5, S2, rf, S3, S4, S5⟩ := id hst
  have sg4 : own_G p e below s₁ (mkF m 4 #[.val (.ref a1), .val (.ref a2)] [(.ref a2), (.int (0 : Int32)), (.ref a2), (.ref a1)]) s₁ (mkF m 0 #[.val (.ref a1), .val (.ref a2)] []) := by
    intro t k
    refine XS.aloadN X0.here hx rfl (hb hby d1_0) rfl rfl ?_
    refine XS.aloadN X0.here hx rfl (hb hby d1_1) rfl rfl ?_
    refine XS.iconst X0.here hx rfl (hb hby d1_2) ?_
    refine XS.aloadN X0.here hx rfl (hb hby d1_3) rfl rfl ?_
    exact k
  refine own_by sg4 ?_
  obtain ⟨cl4, Ar4, qa4, Sa4, Na4, Ha4, Ga4⟩ := id A_s
  obtain ⟨t4, ht4⟩ : ∃ z : Int32, z = (Int32.ofNat (cs.length)) := ⟨_, rfl⟩
  have sg5 : own_G p e below s₁ (mkF m 5 #[.val (.ref a1), .val (.ref a2)] [(.int t4), (.int (0 : Int32)), (.ref a2), (.ref a1)]) s₁ (mkF m 4 #[.val (.ref a1), .val (.ref a2)] [(.ref a2), (.int (0 : Int32)), (.ref a2), (.ref a1)]) := by
    intro t k
    rw [ht4] at k
    refine X0.arraylength hx (by rw [e0]; exact Ar4.1) (State.isArrayOf_alike hZ.alike Ar4.2.1) (g := (mkF m 4 #[.val (.ref a1), .val (.ref a2)] [(.ref a2), (.int (0 : Int32)), (.ref a2), (.ref a1)])) rfl rfl (hb hby d1_4) _ ?_
    rw [len_of Sa4 Na4]
    exact k
  refine own_by sg5 ?_
  have nt_t4 : t4 = Int32.ofNat (cs.length) := ht4
  have sg6 : own_G p e below s₁ (mkF m 6 #[.val (.ref a1), .val (.ref a2)] [.null, (.int t4), (.int (0 : Int32)), (.ref a2), (.ref a1)]) s₁ (mkF m 5 #[.val (.ref a1), .val (.ref a2)] [(.int t4), (.int (0 : Int32)), (.ref a2), (.ref a1)]) := by
    intro t k
    refine XS.aconstNull X0.here hx rfl (hb hby d1_5) ?_
    exact k
  refine own_by sg6 ?_
  obtain ⟨_, _, ⟨T6, L6, k6, n6⟩, -, X6, ⟨Lc6, hQ6, l6, y6, z6⟩, st6⟩ := X0.specialBack hx (y := own_n46) rfl hown (mvT hZ (own_w hw 8 rfl)) (mvT hZ (own_w hw 9 rfl)) (mvT hZ (own_w hw 11 rfl)) (by decide) (backOf (W := 0) (rm2 l Z a0 hw [] a1 a2 t4 kc cs gz gf h0 n0 Z0 O hst E_a1 F_v F_c g_a1 A_s hln hpos h16 nt_t4) hZ (own_w hw 11 rfl) (own_w hw 4 rfl) (by decide) (by decide)) (g := (mkF m 6 #[.val (.ref a1), .val (.ref a2)] [.null, (.int t4), (.int (0 : Int32)), (.ref a2), (.ref a1)])) rfl (by rw [hml]; rfl) (Steps.refl _) (a := a1) (argsL := [(.ref a2), (.int (0 : Int32)), (.int t4), .null]) (rest := []) (lenOf pd_1_0 rfl) rfl (Nat.le_of_eq rfl) (hb hby d1_6) (fun _ _ => ⟨rfl, e0, (by decide : 0 + 2 ≤ _), (by decide : 0 + 87 ≤ _)⟩)
  dsimp only [Pt.U, Pt.locs, Pt.cells, Pt.slots] at X6 l6 y6 z6 st6 hQ6
  subst l6 y6 z6
  obtain ⟨rfl, N6q, Kq6, tt, kt, M, cd, gt, TT⟩ := hQ6
  have N6 := Fr.app N0 N6q
  have K6 : Keep h0 T6.heap [a1] := K0.trans Kq6 (fun x hx => by cases List.mem_singleton.mp hx; exact (Or.inl (List.mem_of_getElem? (i := 0) rfl)))
  have Z6 : n0 ≤ T6.heap.size := Nat.le_trans Z0 Kq6.1
  refine own_by (fun t k => st6.trans k) ?_
  obtain ⟨fs, hr, hrun, hended, hW, hsame⟩ := X6.leave (v := none) (fun _ => rfl)
  refine ⟨_, _, ?_, hrun, hended, _, _, rfl, ?_, ⟨_, rfl⟩, hW, hsame.mono (by decide) (by decide)⟩
  · exact X6.returnOut hx Bd.returns (hb hby d1_9) hr
  · show Q1 Z a1 a2 kc cs gz gf h0 n0 _ T6.heap _
    exact ⟨rfl, N6, K6, tt, kt, M, cd, gt, TT⟩
abbrev own_b39 := method_3_code
theorem d39_0 : decode own_b39 0 = .ok (.iload_n 0, 1) := by decide +kernel
theorem d39_1 : decode own_b39 1 = .ok (.bipush 34, 2) := by decide +kernel
theorem d39_3 : decode own_b39 3 = .ok (.if_icmp .eq 9, 3) := by decide +kernel
theorem d39_6 : decode own_b39 6 = .ok (.iload_n 0, 1) := by decide +kernel
theorem d39_7 : decode own_b39 7 = .ok (.bipush 92, 2) := by decide +kernel
theorem d39_9 : decode own_b39 9 = .ok (.if_icmp .ne 5, 3) := by decide +kernel
theorem d39_12 : decode own_b39 12 = .ok (.iconst 2, 1) := by decide +kernel
theorem d39_13 : decode own_b39 13 = .ok (.ireturn, 1) := by decide +kernel
theorem d39_14 : decode own_b39 14 = .ok (.iload_n 0, 1) := by decide +kernel
theorem d39_15 : decode own_b39 15 = .ok (.bipush 32, 2) := by decide +kernel
theorem d39_17 : decode own_b39 17 = .ok (.if_icmp .ge 6, 3) := by decide +kernel
theorem d39_20 : decode own_b39 20 = .ok (.bipush 6, 2) := by decide +kernel
theorem d39_22 : decode own_b39 22 = .ok (.ireturn, 1) := by decide +kernel
theorem d39_23 : decode own_b39 23 = .ok (.iconst 1, 1) := by decide +kernel
theorem d39_24 : decode own_b39 24 = .ok (.ireturn, 1) := by decide +kernel
theorem pn_39 : plainFor (⟨"com/example/catchment/catchment/JsonStringPinLaw", "enc", "(C)I"⟩ : MethodName) = true := by first | exact plainFor_of_name (by first | (simp [plainName, overriddenIn]; done) | decide +kernel) | decide +kernel | exact Jvm.Free.JP.mathPlain rfl (by decide +kernel)
theorem ef_39 (m : MethodId) (p0 : Int32) : entryFrame m #[(.int p0)] 1 = mkF m 0 #[.val (.int p0)] [] := by first | (simp [entryFrame, mkF, argsToLocals, Value.category]; done) | rfl
abbrev own_r39 : Room := { frames := 0, cells := 0, slots := 0, locals := 0 }
def Q39 (Z : State) (p0 : Int32) (h0 : Heap) (n0 : Nat) (v : Option Value) (h : Heap) (L : List Loc) : Prop := v = some (.int (own_encj p0)) ∧ Fr n0 L ∧ h = h0
theorem rm39 (l : Launch) (Z : State) (a0 : Array Value) (hw : ∀ d ∈ tables_1, d.before a0 Z = true) (ws : List Jvm.Cond) (p0 : Int32) (h0 : Heap) (n0 : Nat) (Z0 : n0 ≤ h0.size) :
    MetFree l own_n55 (head1 (Jvm.Cond.code own_n55 method_3_code 1 (some .int) :: ws) own_r39) (fun a U => a = #[(.int p0)] ∧ Z.Warmed39 U.vm ∧ U.heap = h0) (fun _ _ _ _ _ => True) (fun _ U o U' => ∃ v L, o = .returned v ∧ Q39 Z p0 h0 n0 v U'.heap L ∧ FrameEnd U o U' L own_r39.cells own_r39.slots) := by
  refine MetFree.of_bodySF pn_39 hisR ?_
  intro p e s m args below meth c s₁ Bd hml0 hP hK
  obtain ⟨rfl, hZ, hh⟩ := hP
  have hx := Bd.exec
  have hby := Bd.bytes
  have hml : c.maxLocals = 1 := hml0
  have hown : s.vm.findClass "com/example/catchment/catchment/JsonStringPinLaw" = some m.cls := findClass_of_methodNamed Bd.named
  have hnm := (name_of_methodNamed Bd.named Bd.method).1
  have X0 : Stand p l e own_r39 s m #[(.int p0)] below meth c s₁ [] 0 0 := Stand.of_body Bd
  have e0 : s₁.heap = h0 := by rw [← hh, Bd.state]; rfl
  have N0 := Fr.nil n0
  refine own_at (castTop (ef_39 m p0)) ?_
  have K0 := Keep.refl h0 []
  have sg3 : own_G p e below s₁ (mkF m 3 #[.val (.int p0)] [(.int (34 : Int32)), (.int p0)]) s₁ (mkF m 0 #[.val (.int p0)] []) := by
    intro t k
    refine XS.iloadN X0.here hx rfl (hb hby d39_0) rfl ?_
    refine XS.bipush X0.here hx rfl (hb hby d39_1) ?_
    exact k
  refine own_by sg3 ?_
  by_cases hc3 : p0 = (34 : Int32)
  · have sg13 : own_G p e below s₁ (mkF m 13 #[.val (.int p0)] [(.int (2 : Int32))]) s₁ (mkF m 3 #[.val (.int p0)] [(.int (34 : Int32)), (.int p0)]) := by
      intro t k
      refine XS.icmpYes X0.here hx rfl (pc0 := 3) (pc' := 12) rfl (hb hby d39_3) rfl (teq hc3).1 (by decide) (by decide) ?_
      refine XS.iconst X0.here hx rfl (hb hby d39_12) ?_
      exact k
    refine own_by sg13 ?_
    obtain ⟨fs, hr, hrun, hended, hW, hsame⟩ := X0.leave (v := some (.int (2 : Int32))) (fun h => by rw [Bd.returns] at h; cases h)
    refine ⟨_, _, ?_, hrun, hended, _, _, rfl, ?_, ⟨_, rfl⟩, hW, hsame.mono (by decide) (by decide)⟩
    · exact retI X0 hx Bd.returns (hb hby d39_13) hr
    · show Q39 Z p0 h0 n0 _ s₁.heap _
      rw [e0]
      exact ⟨by unfold own_encj; rw [if_pos hc3], N0, rfl⟩
  · have sg9 : own_G p e below s₁ (mkF m 9 #[.val (.int p0)] [(.int (92 : Int32)), (.int p0)]) s₁ (mkF m 3 #[.val (.int p0)] [(.int (34 : Int32)), (.int p0)]) := by
      intro t k
      refine XS.icmpNo X0.here hx rfl (hb hby d39_3) rfl (feq hc3).1 ?_
      refine XS.iloadN X0.here hx rfl (hb hby d39_6) rfl ?_
      refine XS.bipush X0.here hx rfl (hb hby d39_7) ?_
      exact k
    refine own_by sg9 ?_
    by_cases hc9 : p0 = (92 : Int32)
    · have sg13 : own_G p e below s₁ (mkF m 13 #[.val (.int p0)] [(.int (2 : Int32))]) s₁ (mkF m 9 #[.val (.int p0)] [(.int (92 : Int32)), (.int p0)]) := by
        intro t k
        refine XS.icmpNo X0.here hx rfl (hb hby d39_9) rfl (teq hc9).2 ?_
        refine XS.iconst X0.here hx rfl (hb hby d39_12) ?_
        exact k
      refine own_by sg13 ?_
      obtain ⟨fs, hr, hrun, hended, hW, hsame⟩ := X0.leave (v := some (.int (2 : Int32))) (fun h => by rw [Bd.returns] at h; cases h)
      refine ⟨_, _, ?_, hrun, hended, _, _, rfl, ?_, ⟨_, rfl⟩, hW, hsame.mono (by decide) (by decide)⟩
      · exact retI X0 hx Bd.returns (hb hby d39_13) hr
      · show Q39 Z p0 h0 n0 _ s₁.heap _
        rw [e0]
        exact ⟨by unfold own_encj; rw [if_neg hc3, if_pos hc9], N0, rfl⟩
    · have sg17 : own_G p e below s₁ (mkF m 17 #[.val (.int p0)] [(.int (32 : Int32)), (.int p0)]) s₁ (mkF m 9 #[.val (.int p0)] [(.int (92 : Int32)), (.int p0)]) := by
        intro t k
        refine XS.icmpYes X0.here hx rfl (pc0 := 9) (pc' := 14) rfl (hb hby d39_9) rfl (feq hc9).2 (by decide) (by decide) ?_
        refine XS.iloadN X0.here hx rfl (hb hby d39_14) rfl ?_
        refine XS.bipush X0.here hx rfl (hb hby d39_15) ?_
        exact k
      refine own_by sg17 ?_
      by_cases hc17 : p0 < (32 : Int32)
      · have sg22 : own_G p e below s₁ (mkF m 22 #[.val (.int p0)] [(.int (6 : Int32))]) s₁ (mkF m 17 #[.val (.int p0)] [(.int (32 : Int32)), (.int p0)]) := by
          intro t k
          refine XS.icmpNo X0.here hx rfl (hb hby d39_17) rfl (tlt hc17).2.1 ?_
          refine XS.bipush X0.here hx rfl (hb hby d39_20) ?_
          exact k
        refine own_by sg22 ?_
        obtain ⟨fs, hr, hrun, hended, hW, hsame⟩ := X0.leave (v := some (.int (6 : Int32))) (fun h => by rw [Bd.returns] at h; cases h)
        refine ⟨_, _, ?_, hrun, hended, _, _, rfl, ?_, ⟨_, rfl⟩, hW, hsame.mono (by decide) (by decide)⟩
        · exact retI X0 hx Bd.returns (hb hby d39_22) hr
        · show Q39 Z p0 h0 n0 _ s₁.heap _
          rw [e0]
          exact ⟨by unfold own_encj; rw [if_neg hc3, if_neg hc9, if_pos hc17], N0, rfl⟩
      · have sg24 : own_G p e below s₁ (mkF m 24 #[.val (.int p0)] [(.int (1 : Int32))]) s₁ (mkF m 17 #[.val (.int p0)] [(.int (32 : Int32)), (.int p0)]) := by
          intro t k
          refine XS.icmpYes X0.here hx rfl (pc0 := 17) (pc' := 23) rfl (hb hby d39_17) rfl (flt hc17).2.1 (by decide) (by decide) ?_
          refine XS.iconst X0.here hx rfl (hb hby d39_23) ?_
          exact k
        refine own_by sg24 ?_
        obtain ⟨fs, hr, hrun, hended, hW, hsame⟩ := X0.leave (v := some (.int (1 : Int32))) (fun h => by rw [Bd.returns] at h; cases h)
        refine ⟨_, _, ?_, hrun, hended, _, _, rfl, ?_, ⟨_, rfl⟩, hW, hsame.mono (by decide) (by decide)⟩
        · exact retI X0 hx Bd.returns (hb hby d39_24) hr
        · show Q39 Z p0 h0 n0 _ s₁.heap _
          rw [e0]
          exact ⟨by unfold own_encj; rw [if_neg hc3, if_neg hc9, if_neg hc17], N0, rfl⟩
abbrev own_b41 := method_4_code
theorem d41_0 : decode own_b41 0 = .ok (.iload_n 0, 1) := by decide +kernel
theorem d41_1 : decode own_b41 1 = .ok (.bipush 10, 2) := by decide +kernel
theorem d41_3 : decode own_b41 3 = .ok (.if_icmp .ge 9, 3) := by decide +kernel
theorem d41_6 : decode own_b41 6 = .ok (.bipush 48, 2) := by decide +kernel
theorem d41_8 : decode own_b41 8 = .ok (.iload_n 0, 1) := by decide +kernel
theorem d41_9 : decode own_b41 9 = .ok (.iadd, 1) := by decide +kernel
theorem d41_10 : decode own_b41 10 = .ok (.i2c, 1) := by decide +kernel
theorem d41_11 : decode own_b41 11 = .ok (.ireturn, 1) := by decide +kernel
theorem d41_12 : decode own_b41 12 = .ok (.bipush 97, 2) := by decide +kernel
theorem d41_14 : decode own_b41 14 = .ok (.iload_n 0, 1) := by decide +kernel
theorem d41_15 : decode own_b41 15 = .ok (.iadd, 1) := by decide +kernel
theorem d41_16 : decode own_b41 16 = .ok (.bipush 10, 2) := by decide +kernel
theorem d41_18 : decode own_b41 18 = .ok (.isub, 1) := by decide +kernel
theorem d41_19 : decode own_b41 19 = .ok (.i2c, 1) := by decide +kernel
theorem d41_20 : decode own_b41 20 = .ok (.ireturn, 1) := by decide +kernel
theorem pn_41 : plainFor (⟨"com/example/catchment/catchment/JsonStringPinLaw", "hex", "(I)C"⟩ : MethodName) = true := by first | exact plainFor_of_name (by first | (simp [plainName, overriddenIn]; done) | decide +kernel) | decide +kernel | exact Jvm.Free.JP.mathPlain rfl (by decide +kernel)
theorem ef_41 (m : MethodId) (p0 : Int32) : entryFrame m #[(.int p0)] 1 = mkF m 0 #[.val (.int p0)] [] := by first | (simp [entryFrame, mkF, argsToLocals, Value.category]; done) | rfl
abbrev own_r41 : Room := { frames := 0, cells := 0, slots := 0, locals := 0 }
def Q41 (Z : State) (p0 : Int32) (h0 : Heap) (n0 : Nat) (v : Option Value) (h : Heap) (L : List Loc) : Prop := v = some (.int (own_hexj p0)) ∧ Fr n0 L ∧ h = h0
theorem rm41 (l : Launch) (Z : State) (a0 : Array Value) (hw : ∀ d ∈ tables_1, d.before a0 Z = true) (ws : List Jvm.Cond) (p0 : Int32) (h0 : Heap) (n0 : Nat) (Z0 : n0 ≤ h0.size) :
    MetFree l own_n48 (head1 (Jvm.Cond.code own_n48 method_4_code 1 (some .char) :: ws) own_r41) (fun a U => a = #[(.int p0)] ∧ Z.Warmed39 U.vm ∧ U.heap = h0) (fun _ _ _ _ _ => True) (fun _ U o U' => ∃ v L, o = .returned v ∧ Q41 Z p0 h0 n0 v U'.heap L ∧ FrameEnd U o U' L own_r41.cells own_r41.slots) := by
  refine MetFree.of_bodySF pn_41 hisR ?_
  intro p e s m args below meth c s₁ Bd hml0 hP hK
  obtain ⟨rfl, hZ, hh⟩ := hP
  have hx := Bd.exec
  have hby := Bd.bytes
  have hml : c.maxLocals = 1 := hml0
  have hown : s.vm.findClass "com/example/catchment/catchment/JsonStringPinLaw" = some m.cls := findClass_of_methodNamed Bd.named
  have hnm := (name_of_methodNamed Bd.named Bd.method).1
  have X0 : Stand p l e own_r41 s m #[(.int p0)] below meth c s₁ [] 0 0 := Stand.of_body Bd
  have e0 : s₁.heap = h0 := by rw [← hh, Bd.state]; rfl
  have N0 := Fr.nil n0
  refine own_at (castTop (ef_41 m p0)) ?_
  have K0 := Keep.refl h0 []
  have sg3 : own_G p e below s₁ (mkF m 3 #[.val (.int p0)] [(.int (10 : Int32)), (.int p0)]) s₁ (mkF m 0 #[.val (.int p0)] []) := by
    intro t k
    refine XS.iloadN X0.here hx rfl (hb hby d41_0) rfl ?_
    refine XS.bipush X0.here hx rfl (hb hby d41_1) ?_
    exact k
  refine own_by sg3 ?_
  by_cases hc3 : p0 < (10 : Int32)
  · obtain ⟨k, hk⟩ : ∃ z : Int32, z = (((48 : Int32) + p0).toUInt32.toUInt16.toUInt32.toInt32) := ⟨_, rfl⟩
    have sg11 : own_G p e below s₁ (mkF m 11 #[.val (.int p0)] [(.int k)]) s₁ (mkF m 3 #[.val (.int p0)] [(.int (10 : Int32)), (.int p0)]) := by
      intro t k
      rw [hk] at k
      refine XS.icmpNo X0.here hx rfl (hb hby d41_3) rfl (tlt hc3).2.1 ?_
      refine XS.bipush X0.here hx rfl (hb hby d41_6) ?_
      refine XS.iloadN X0.here hx rfl (hb hby d41_8) rfl ?_
      refine XS.iadd X0.here hx rfl (hb hby d41_9) rfl ?_
      refine XS.i2c X0.here hx rfl (hb hby d41_10) rfl ?_
      exact k
    refine own_by sg11 ?_
    obtain ⟨fs, hr, hrun, hended, hW, hsame⟩ := X0.leave (v := some (.int k)) (fun h => by rw [Bd.returns] at h; cases h)
    refine ⟨_, _, ?_, hrun, hended, _, _, rfl, ?_, ⟨_, rfl⟩, hW, hsame.mono (by decide) (by decide)⟩
    · exact retN X0 hx (t := .char) Bd.returns (by simp) (hb hby d41_11) (by rw [show nar .char k = k from by rw [hk]; exact own_i2c2 _]; exact hr)
    · show Q41 Z p0 h0 n0 _ s₁.heap _
      rw [e0]
      exact ⟨by unfold own_hexj; rw [if_pos hc3, hk], N0, rfl⟩
  · obtain ⟨k, hk⟩ : ∃ z : Int32, z = ((((97 : Int32) + p0) - (10 : Int32)).toUInt32.toUInt16.toUInt32.toInt32) := ⟨_, rfl⟩
    have sg20 : own_G p e below s₁ (mkF m 20 #[.val (.int p0)] [(.int k)]) s₁ (mkF m 3 #[.val (.int p0)] [(.int (10 : Int32)), (.int p0)]) := by
      intro t k
      rw [hk] at k
      refine XS.icmpYes X0.here hx rfl (pc0 := 3) (pc' := 12) rfl (hb hby d41_3) rfl (flt hc3).2.1 (by decide) (by decide) ?_
      refine XS.bipush X0.here hx rfl (hb hby d41_12) ?_
      refine XS.iloadN X0.here hx rfl (hb hby d41_14) rfl ?_
      refine XS.iadd X0.here hx rfl (hb hby d41_15) rfl ?_
      refine XS.bipush X0.here hx rfl (hb hby d41_16) ?_
      refine XS.isub X0.here hx rfl (hb hby d41_18) rfl ?_
      refine XS.i2c X0.here hx rfl (hb hby d41_19) rfl ?_
      exact k
    refine own_by sg20 ?_
    obtain ⟨fs, hr, hrun, hended, hW, hsame⟩ := X0.leave (v := some (.int k)) (fun h => by rw [Bd.returns] at h; cases h)
    refine ⟨_, _, ?_, hrun, hended, _, _, rfl, ?_, ⟨_, rfl⟩, hW, hsame.mono (by decide) (by decide)⟩
    · exact retN X0 hx (t := .char) Bd.returns (by simp) (hb hby d41_20) (by rw [show nar .char k = k from by rw [hk]; exact own_i2c2 _]; exact hr)
    · show Q41 Z p0 h0 n0 _ s₁.heap _
      rw [e0]
      exact ⟨by unfold own_hexj; rw [if_neg hc3, hk], N0, rfl⟩
abbrev own_b40 := method_5_code
theorem d40_0 : decode own_b40 0 = .ok (.iload_n 2, 1) := by decide +kernel
theorem d40_1 : decode own_b40 1 = .ok (.bipush 34, 2) := by decide +kernel
theorem d40_3 : decode own_b40 3 = .ok (.if_icmp .eq 9, 3) := by decide +kernel
theorem d40_6 : decode own_b40 6 = .ok (.iload_n 2, 1) := by decide +kernel
theorem d40_7 : decode own_b40 7 = .ok (.bipush 92, 2) := by decide +kernel
theorem d40_9 : decode own_b40 9 = .ok (.if_icmp .ne 30, 3) := by decide +kernel
theorem d40_12 : decode own_b40 12 = .ok (.aload_n 0, 1) := by decide +kernel
theorem d40_13 : decode own_b40 13 = .ok (.iload_n 1, 1) := by decide +kernel
theorem d40_14 : decode own_b40 14 = .ok (.invokevirtual 29, 3) := by decide +kernel
theorem d40_17 : decode own_b40 17 = .ok (.bipush 92, 2) := by decide +kernel
theorem d40_19 : decode own_b40 19 = .ok (.if_icmp .ne 18, 3) := by decide +kernel
theorem d40_22 : decode own_b40 22 = .ok (.aload_n 0, 1) := by decide +kernel
theorem d40_23 : decode own_b40 23 = .ok (.iload_n 1, 1) := by decide +kernel
theorem d40_24 : decode own_b40 24 = .ok (.iconst 1, 1) := by decide +kernel
theorem d40_25 : decode own_b40 25 = .ok (.iadd, 1) := by decide +kernel
theorem d40_26 : decode own_b40 26 = .ok (.invokevirtual 29, 3) := by decide +kernel
theorem d40_29 : decode own_b40 29 = .ok (.iload_n 2, 1) := by decide +kernel
theorem d40_30 : decode own_b40 30 = .ok (.if_icmp .ne 7, 3) := by decide +kernel
theorem d40_33 : decode own_b40 33 = .ok (.iconst 1, 1) := by decide +kernel
theorem d40_34 : decode own_b40 34 = .ok (.goto 4, 3) := by decide +kernel
theorem d40_38 : decode own_b40 38 = .ok (.ireturn, 1) := by decide +kernel
theorem d40_39 : decode own_b40 39 = .ok (.iload_n 2, 1) := by decide +kernel
theorem d40_40 : decode own_b40 40 = .ok (.bipush 32, 2) := by decide +kernel
theorem d40_42 : decode own_b40 42 = .ok (.if_icmp .ge 89, 3) := by decide +kernel
theorem d40_45 : decode own_b40 45 = .ok (.aload_n 0, 1) := by decide +kernel
theorem d40_46 : decode own_b40 46 = .ok (.iload_n 1, 1) := by decide +kernel
theorem d40_47 : decode own_b40 47 = .ok (.invokevirtual 29, 3) := by decide +kernel
theorem d40_50 : decode own_b40 50 = .ok (.bipush 92, 2) := by decide +kernel
theorem d40_52 : decode own_b40 52 = .ok (.if_icmp .ne 77, 3) := by decide +kernel
theorem d40_55 : decode own_b40 55 = .ok (.aload_n 0, 1) := by decide +kernel
theorem d40_56 : decode own_b40 56 = .ok (.iload_n 1, 1) := by decide +kernel
theorem d40_57 : decode own_b40 57 = .ok (.iconst 1, 1) := by decide +kernel
theorem d40_58 : decode own_b40 58 = .ok (.iadd, 1) := by decide +kernel
theorem d40_59 : decode own_b40 59 = .ok (.invokevirtual 29, 3) := by decide +kernel
theorem d40_62 : decode own_b40 62 = .ok (.bipush 117, 2) := by decide +kernel
theorem d40_64 : decode own_b40 64 = .ok (.if_icmp .ne 65, 3) := by decide +kernel
theorem d40_67 : decode own_b40 67 = .ok (.aload_n 0, 1) := by decide +kernel
theorem d40_68 : decode own_b40 68 = .ok (.iload_n 1, 1) := by decide +kernel
theorem d40_69 : decode own_b40 69 = .ok (.iconst 2, 1) := by decide +kernel
theorem d40_70 : decode own_b40 70 = .ok (.iadd, 1) := by decide +kernel
theorem d40_71 : decode own_b40 71 = .ok (.invokevirtual 29, 3) := by decide +kernel
theorem d40_74 : decode own_b40 74 = .ok (.bipush 48, 2) := by decide +kernel
theorem d40_76 : decode own_b40 76 = .ok (.if_icmp .ne 53, 3) := by decide +kernel
theorem d40_79 : decode own_b40 79 = .ok (.aload_n 0, 1) := by decide +kernel
theorem d40_80 : decode own_b40 80 = .ok (.iload_n 1, 1) := by decide +kernel
theorem d40_81 : decode own_b40 81 = .ok (.iconst 3, 1) := by decide +kernel
theorem d40_82 : decode own_b40 82 = .ok (.iadd, 1) := by decide +kernel
theorem d40_83 : decode own_b40 83 = .ok (.invokevirtual 29, 3) := by decide +kernel
theorem d40_86 : decode own_b40 86 = .ok (.bipush 48, 2) := by decide +kernel
theorem d40_88 : decode own_b40 88 = .ok (.if_icmp .ne 41, 3) := by decide +kernel
theorem d40_91 : decode own_b40 91 = .ok (.aload_n 0, 1) := by decide +kernel
theorem d40_92 : decode own_b40 92 = .ok (.iload_n 1, 1) := by decide +kernel
theorem d40_93 : decode own_b40 93 = .ok (.iconst 4, 1) := by decide +kernel
theorem d40_94 : decode own_b40 94 = .ok (.iadd, 1) := by decide +kernel
theorem d40_95 : decode own_b40 95 = .ok (.invokevirtual 29, 3) := by decide +kernel
theorem d40_98 : decode own_b40 98 = .ok (.iload_n 2, 1) := by decide +kernel
theorem d40_99 : decode own_b40 99 = .ok (.bipush 16, 2) := by decide +kernel
theorem d40_101 : decode own_b40 101 = .ok (.idiv, 1) := by decide +kernel
theorem d40_102 : decode own_b40 102 = .ok (.invokestatic 37, 3) := by decide +kernel
theorem d40_105 : decode own_b40 105 = .ok (.if_icmp .ne 24, 3) := by decide +kernel
theorem d40_108 : decode own_b40 108 = .ok (.aload_n 0, 1) := by decide +kernel
theorem d40_109 : decode own_b40 109 = .ok (.iload_n 1, 1) := by decide +kernel
theorem d40_110 : decode own_b40 110 = .ok (.iconst 5, 1) := by decide +kernel
theorem d40_111 : decode own_b40 111 = .ok (.iadd, 1) := by decide +kernel
theorem d40_112 : decode own_b40 112 = .ok (.invokevirtual 29, 3) := by decide +kernel
theorem d40_115 : decode own_b40 115 = .ok (.iload_n 2, 1) := by decide +kernel
theorem d40_116 : decode own_b40 116 = .ok (.bipush 16, 2) := by decide +kernel
theorem d40_118 : decode own_b40 118 = .ok (.irem, 1) := by decide +kernel
theorem d40_119 : decode own_b40 119 = .ok (.invokestatic 37, 3) := by decide +kernel
theorem d40_122 : decode own_b40 122 = .ok (.if_icmp .ne 7, 3) := by decide +kernel
theorem d40_125 : decode own_b40 125 = .ok (.iconst 1, 1) := by decide +kernel
theorem d40_126 : decode own_b40 126 = .ok (.goto 4, 3) := by decide +kernel
theorem d40_130 : decode own_b40 130 = .ok (.ireturn, 1) := by decide +kernel
theorem d40_131 : decode own_b40 131 = .ok (.aload_n 0, 1) := by decide +kernel
theorem d40_132 : decode own_b40 132 = .ok (.iload_n 1, 1) := by decide +kernel
theorem d40_133 : decode own_b40 133 = .ok (.invokevirtual 29, 3) := by decide +kernel
theorem d40_136 : decode own_b40 136 = .ok (.iload_n 2, 1) := by decide +kernel
theorem d40_137 : decode own_b40 137 = .ok (.if_icmp .ne 7, 3) := by decide +kernel
theorem d40_140 : decode own_b40 140 = .ok (.iconst 1, 1) := by decide +kernel
theorem d40_141 : decode own_b40 141 = .ok (.goto 4, 3) := by decide +kernel
theorem d40_145 : decode own_b40 145 = .ok (.ireturn, 1) := by decide +kernel
theorem pn_40 : plainFor (⟨"com/example/catchment/catchment/JsonStringPinLaw", "at", "(Ljava/lang/String;IC)Z"⟩ : MethodName) = true := by first | exact plainFor_of_name (by first | (simp [plainName, overriddenIn]; done) | decide +kernel) | decide +kernel | exact Jvm.Free.JP.mathPlain rfl (by decide +kernel)
theorem pd_40_0 : parseMethodDescriptor "(I)C" = some ⟨[.int], some .char⟩ := by decide +kernel
theorem ef_40 (m : MethodId) (a1 : Addr) (p1 : Int32) (p2 : Int32) : entryFrame m #[(.ref a1), (.int p1), (.int p2)] 3 = mkF m 0 #[.val (.ref a1), .val (.int p1), .val (.int p2)] [] := by first | (simp [entryFrame, mkF, argsToLocals, Value.category]; done) | rfl
abbrev own_r40 : Room := { frames := 5, cells := 0, slots := 0, locals := 66 }
def Q40 (Z : State) (a1 : Addr) (p1 : Int32) (p2 : Int32) (ta : Addr) (kb : ClassId) (N : Nat) (cd : Int32) (cs : List Int32) (i : Nat) (gz : Int32) (gf : Value) (h0 : Heap) (n0 : Nat) (v : Option Value) (h : Heap) (L : List Loc) : Prop := v = some (.int (1 : Int32)) ∧ Fr n0 L ∧ h = h0
theorem rm40 (l : Launch) (Z : State) (a0 : Array Value) (hw : ∀ d ∈ tables_1, d.before a0 Z = true) (ws : List Jvm.Cond) (a1 : Addr) (p1 : Int32) (p2 : Int32) (ta : Addr) (kb : ClassId) (N : Nat) (cd : Int32) (cs : List Int32) (i : Nat) (gz : Int32) (gf : Value) (h0 : Heap) (n0 : Nat) (Z0 : n0 ≤ h0.size) (O : Old Z n0 h0) (hst : own_ST Z gz gf) (TT : own_T Z h0 a1 ta kb N cd cs) (hp1 : p1 = Int32.ofNat i) (hch : ¬ p2 < 0 ∧ ¬ (65535 : Int32) < p2) (hpf : ∀ k e, (own_esc p2)[k]? = some e → cs[i + k]? = some e) :
    MetFree l own_n56 (head1 (Jvm.Cond.code own_n56 method_5_code 3 (some .boolean) :: ws) own_r40) (fun a U => a = #[(.ref a1), (.int p1), (.int p2)] ∧ Z.Warmed39 U.vm ∧ U.heap = h0) (fun _ _ _ _ _ => True) (fun _ U o U' => ∃ v L, o = .returned v ∧ Q40 Z a1 p1 p2 ta kb N cd cs i gz gf h0 n0 v U'.heap L ∧ FrameEnd U o U' L own_r40.cells own_r40.slots) := by
  refine MetFree.of_bodySF pn_40 hisR ?_
  intro p e s m args below meth c s₁ Bd hml0 hP hK
  obtain ⟨rfl, hZ, hh⟩ := hP
  have hx := Bd.exec
  have hby := Bd.bytes
  have hml : c.maxLocals = 3 := hml0
  have hown : s.vm.findClass "com/example/catchment/catchment/JsonStringPinLaw" = some m.cls := findClass_of_methodNamed Bd.named
  have hnm := (name_of_methodNamed Bd.named Bd.method).1
  have X0 : Stand p l e own_r40 s m #[(.ref a1), (.int p1), (.int p2)] below meth c s₁ [] 0 0 := Stand.of_body Bd
  have e0 : s₁.heap = h0 := by rw [← hh, Bd.state]; rfl
  have N0 := Fr.nil n0
  refine own_at (castTop (ef_40 m a1 p1 p2)) ?_
  have K0 := Keep.refl h0 []
  obtain ⟨S1, P5, S2, rf, S3, S4, S5⟩ := id hst
  have E_s := TT.1
  have sg3 : own_G p e below s₁ (mkF m 3 #[.val (.ref a1), .val (.int p1), .val (.int p2)] [(.int (34 : Int32)), (.int p2)]) s₁ (mkF m 0 #[.val (.ref a1), .val (.int p1), .val (.int p2)] []) := by
    intro t k
    refine XS.iloadN X0.here hx rfl (hb hby d40_0) rfl ?_
    refine XS.bipush X0.here hx rfl (hb hby d40_1) ?_
    exact k
  refine own_by sg3 ?_
  by_cases hc3 : p2 = (34 : Int32)
  · have sg14 : own_G p e below s₁ (mkF m 14 #[.val (.ref a1), .val (.int p1), .val (.int p2)] [(.int p1), (.ref a1)]) s₁ (mkF m 3 #[.val (.ref a1), .val (.int p1), .val (.int p2)] [(.int (34 : Int32)), (.int p2)]) := by
      intro t k
      refine XS.icmpYes X0.here hx rfl (pc0 := 3) (pc' := 12) rfl (hb hby d40_3) rfl (teq hc3).1 (by decide) (by decide) ?_
      refine XS.aloadN X0.here hx rfl (hb hby d40_12) rfl rfl ?_
      refine XS.iloadN X0.here hx rfl (hb hby d40_13) rfl ?_
      exact k
    refine own_by sg14 ?_
    have he : own_esc p2 = [(92 : Int32), p2] := by unfold own_esc; rw [if_pos hc3]
    have hq14 : cs[i]? = some (92 : Int32) := hpf 0 _ (by rw [he]; rfl)
    obtain ⟨cq14, kq14, q14a, q14b, q14c⟩ := isOf hZ e0 E_s
    obtain ⟨_, _, ⟨T14, L14, k14, n14⟩, -, X14, ⟨Lc14, hQ14, l14, y14, z14⟩, st14⟩ := X0.virtualBack hx (y := own_n47) (z := own_n47) hown (mvT hZ (own_w hw 211 rfl)) (mvT hZ (own_w hw 90 rfl)) (notFace_of_selects (args := #[]) (mvT hZ (own_w hw 92 rfl))) (mvT hZ (own_w hw 92 rfl)) (mvT hZ (own_w hw 91 rfl)) (by decide) (backOf (W := 0) (rm17 l Z a0 hw [] a1 p1 ta kb N cd cs (i) (92 : Int32) gz gf h0 n0 Z0 O hst TT hp1 hq14) hZ (own_w hw 93 rfl) (own_w hw 4 rfl) (by decide) (by decide)) q14a q14c (g := (mkF m 14 #[.val (.ref a1), .val (.int p1), .val (.int p2)] [(.int p1), (.ref a1)])) rfl (by rw [hml]; rfl) (Steps.refl _) (argsL := [(.int p1)]) (rest := []) (lenOf pd_40_0 rfl) rfl (Nat.le_of_eq rfl) (hb hby d40_14) (fun _ _ => ⟨rfl, e0, (by decide : 0 + 0 ≤ _), (by decide : 0 + 0 ≤ _)⟩)
    dsimp only [Pt.U, Pt.locs, Pt.cells, Pt.slots] at X14 l14 y14 z14 st14 hQ14
    subst l14 y14 z14
    obtain ⟨rfl, N14q, hq14⟩ := hQ14
    have N14 := Fr.app N0 N14q
    refine own_by (fun t k => st14.trans k) ?_
    obtain ⟨t25, ht25⟩ : ∃ z : Int32, z = (p1 + (1 : Int32)) := ⟨_, rfl⟩
    have sg26 : own_G p e below T14 (mkF m 26 #[.val (.ref a1), .val (.int p1), .val (.int p2)] [(.int t25), (.ref a1)]) T14 (mkF m 17 #[.val (.ref a1), .val (.int p1), .val (.int p2)] [(.int (92 : Int32))]) := by
      intro t k
      rw [ht25] at k
      refine XS.bipush X14.here hx rfl (hb hby d40_17) ?_
      refine XS.icmpNo X14.here hx rfl (hb hby d40_19) rfl (teq (by decide : (92 : Int32) = (92 : Int32))).2 ?_
      refine XS.aloadN X14.here hx rfl (hb hby d40_22) rfl rfl ?_
      refine XS.iloadN X14.here hx rfl (hb hby d40_23) rfl ?_
      refine XS.iconst X14.here hx rfl (hb hby d40_24) ?_
      refine XS.iadd X14.here hx rfl (hb hby d40_25) rfl ?_
      exact k
    refine own_by sg26 ?_
    have nt_t25 : t25 = Int32.ofNat (i + 1) := ht25.trans (own_nadd hp1 rfl)
    have hq26 : cs[i + 1]? = some p2 := hpf 1 _ (by rw [he]; rfl)
    obtain ⟨cq26, kq26, q26a, q26b, q26c⟩ := isOf hZ hq14 E_s
    obtain ⟨_, _, ⟨T26, L26, k26, n26⟩, -, X26, ⟨Lc26, hQ26, l26, y26, z26⟩, st26⟩ := X14.virtualBack hx (y := own_n47) (z := own_n47) hown (mvT hZ (own_w hw 211 rfl)) (mvT hZ (own_w hw 90 rfl)) (notFace_of_selects (args := #[]) (mvT hZ (own_w hw 92 rfl))) (mvT hZ (own_w hw 92 rfl)) (mvT hZ (own_w hw 91 rfl)) (by decide) (backOf (W := 0) (rm17 l Z a0 hw [] a1 t25 ta kb N cd cs (i + 1) p2 gz gf h0 n0 Z0 O hst TT nt_t25 hq26) hZ (own_w hw 93 rfl) (own_w hw 4 rfl) (by decide) (by decide)) q26a q26c (g := (mkF m 26 #[.val (.ref a1), .val (.int p1), .val (.int p2)] [(.int t25), (.ref a1)])) rfl (by rw [hml]; rfl) (Steps.refl _) (argsL := [(.int t25)]) (rest := []) (lenOf pd_40_0 rfl) rfl (Nat.le_of_eq rfl) (hb hby d40_26) (fun _ _ => ⟨rfl, hq14, (by decide : 0 + 0 ≤ _), (by decide : 0 + 0 ≤ _)⟩)
    dsimp only [Pt.U, Pt.locs, Pt.cells, Pt.slots] at X26 l26 y26 z26 st26 hQ26
    subst l26 y26 z26
    obtain ⟨rfl, N26q, hq26⟩ := hQ26
    have N26 := Fr.app N14 N26q
    refine own_by (fun t k => st26.trans k) ?_
    have sg38 : own_G p e below T26 (mkF m 38 #[.val (.ref a1), .val (.int p1), .val (.int p2)] [(.int (1 : Int32))]) T26 (mkF m 29 #[.val (.ref a1), .val (.int p1), .val (.int p2)] [(.int p2)]) := by
      intro t k
      refine XS.iloadN X26.here hx rfl (hb hby d40_29) rfl ?_
      refine XS.icmpNo X26.here hx rfl (hb hby d40_30) rfl (teq (rfl : p2 = p2)).2 ?_
      refine XS.iconst X26.here hx rfl (hb hby d40_33) ?_
      refine XS.goto X26.here hx rfl (pc0 := 34) (pc' := 38) rfl (hb hby d40_34) (by decide) (by decide) ?_
      exact k
    refine own_by sg38 ?_
    obtain ⟨fs, hr, hrun, hended, hW, hsame⟩ := X26.leave (v := some (.int (1 : Int32))) (fun h => by rw [Bd.returns] at h; cases h)
    refine ⟨_, _, ?_, hrun, hended, _, _, rfl, ?_, ⟨_, rfl⟩, hW, hsame.mono (by decide) (by decide)⟩
    · exact retN X26 hx (t := .boolean) Bd.returns (by simp) (hb hby d40_38) hr
    · show Q40 Z a1 p1 p2 ta kb N cd cs i gz gf h0 n0 _ T26.heap _
      rw [hq26]
      exact ⟨rfl, N26, rfl⟩
  · have sg9 : own_G p e below s₁ (mkF m 9 #[.val (.ref a1), .val (.int p1), .val (.int p2)] [(.int (92 : Int32)), (.int p2)]) s₁ (mkF m 3 #[.val (.ref a1), .val (.int p1), .val (.int p2)] [(.int (34 : Int32)), (.int p2)]) := by
      intro t k
      refine XS.icmpNo X0.here hx rfl (hb hby d40_3) rfl (feq hc3).1 ?_
      refine XS.iloadN X0.here hx rfl (hb hby d40_6) rfl ?_
      refine XS.bipush X0.here hx rfl (hb hby d40_7) ?_
      exact k
    refine own_by sg9 ?_
    by_cases hc9 : p2 = (92 : Int32)
    · have sg14 : own_G p e below s₁ (mkF m 14 #[.val (.ref a1), .val (.int p1), .val (.int p2)] [(.int p1), (.ref a1)]) s₁ (mkF m 9 #[.val (.ref a1), .val (.int p1), .val (.int p2)] [(.int (92 : Int32)), (.int p2)]) := by
        intro t k
        refine XS.icmpNo X0.here hx rfl (hb hby d40_9) rfl (teq hc9).2 ?_
        refine XS.aloadN X0.here hx rfl (hb hby d40_12) rfl rfl ?_
        refine XS.iloadN X0.here hx rfl (hb hby d40_13) rfl ?_
        exact k
      refine own_by sg14 ?_
      have he : own_esc p2 = [(92 : Int32), p2] := by unfold own_esc; rw [if_neg hc3, if_pos hc9]
      have hq14 : cs[i]? = some (92 : Int32) := hpf 0 _ (by rw [he]; rfl)
      obtain ⟨cq14, kq14, q14a, q14b, q14c⟩ := isOf hZ e0 E_s
      obtain ⟨_, _, ⟨T14, L14, k14, n14⟩, -, X14, ⟨Lc14, hQ14, l14, y14, z14⟩, st14⟩ := X0.virtualBack hx (y := own_n47) (z := own_n47) hown (mvT hZ (own_w hw 211 rfl)) (mvT hZ (own_w hw 90 rfl)) (notFace_of_selects (args := #[]) (mvT hZ (own_w hw 92 rfl))) (mvT hZ (own_w hw 92 rfl)) (mvT hZ (own_w hw 91 rfl)) (by decide) (backOf (W := 0) (rm17 l Z a0 hw [] a1 p1 ta kb N cd cs (i) (92 : Int32) gz gf h0 n0 Z0 O hst TT hp1 hq14) hZ (own_w hw 93 rfl) (own_w hw 4 rfl) (by decide) (by decide)) q14a q14c (g := (mkF m 14 #[.val (.ref a1), .val (.int p1), .val (.int p2)] [(.int p1), (.ref a1)])) rfl (by rw [hml]; rfl) (Steps.refl _) (argsL := [(.int p1)]) (rest := []) (lenOf pd_40_0 rfl) rfl (Nat.le_of_eq rfl) (hb hby d40_14) (fun _ _ => ⟨rfl, e0, (by decide : 0 + 0 ≤ _), (by decide : 0 + 0 ≤ _)⟩)
      dsimp only [Pt.U, Pt.locs, Pt.cells, Pt.slots] at X14 l14 y14 z14 st14 hQ14
      subst l14 y14 z14
      obtain ⟨rfl, N14q, hq14⟩ := hQ14
      have N14 := Fr.app N0 N14q
      refine own_by (fun t k => st14.trans k) ?_
      obtain ⟨t25, ht25⟩ : ∃ z : Int32, z = (p1 + (1 : Int32)) := ⟨_, rfl⟩
      have sg26 : own_G p e below T14 (mkF m 26 #[.val (.ref a1), .val (.int p1), .val (.int p2)] [(.int t25), (.ref a1)]) T14 (mkF m 17 #[.val (.ref a1), .val (.int p1), .val (.int p2)] [(.int (92 : Int32))]) := by
        intro t k
        rw [ht25] at k
        refine XS.bipush X14.here hx rfl (hb hby d40_17) ?_
        refine XS.icmpNo X14.here hx rfl (hb hby d40_19) rfl (teq (by decide : (92 : Int32) = (92 : Int32))).2 ?_
        refine XS.aloadN X14.here hx rfl (hb hby d40_22) rfl rfl ?_
        refine XS.iloadN X14.here hx rfl (hb hby d40_23) rfl ?_
        refine XS.iconst X14.here hx rfl (hb hby d40_24) ?_
        refine XS.iadd X14.here hx rfl (hb hby d40_25) rfl ?_
        exact k
      refine own_by sg26 ?_
      have nt_t25 : t25 = Int32.ofNat (i + 1) := ht25.trans (own_nadd hp1 rfl)
      have hq26 : cs[i + 1]? = some p2 := hpf 1 _ (by rw [he]; rfl)
      obtain ⟨cq26, kq26, q26a, q26b, q26c⟩ := isOf hZ hq14 E_s
      obtain ⟨_, _, ⟨T26, L26, k26, n26⟩, -, X26, ⟨Lc26, hQ26, l26, y26, z26⟩, st26⟩ := X14.virtualBack hx (y := own_n47) (z := own_n47) hown (mvT hZ (own_w hw 211 rfl)) (mvT hZ (own_w hw 90 rfl)) (notFace_of_selects (args := #[]) (mvT hZ (own_w hw 92 rfl))) (mvT hZ (own_w hw 92 rfl)) (mvT hZ (own_w hw 91 rfl)) (by decide) (backOf (W := 0) (rm17 l Z a0 hw [] a1 t25 ta kb N cd cs (i + 1) p2 gz gf h0 n0 Z0 O hst TT nt_t25 hq26) hZ (own_w hw 93 rfl) (own_w hw 4 rfl) (by decide) (by decide)) q26a q26c (g := (mkF m 26 #[.val (.ref a1), .val (.int p1), .val (.int p2)] [(.int t25), (.ref a1)])) rfl (by rw [hml]; rfl) (Steps.refl _) (argsL := [(.int t25)]) (rest := []) (lenOf pd_40_0 rfl) rfl (Nat.le_of_eq rfl) (hb hby d40_26) (fun _ _ => ⟨rfl, hq14, (by decide : 0 + 0 ≤ _), (by decide : 0 + 0 ≤ _)⟩)
      dsimp only [Pt.U, Pt.locs, Pt.cells, Pt.slots] at X26 l26 y26 z26 st26 hQ26
      subst l26 y26 z26
      obtain ⟨rfl, N26q, hq26⟩ := hQ26
      have N26 := Fr.app N14 N26q
      refine own_by (fun t k => st26.trans k) ?_
      have sg38 : own_G p e below T26 (mkF m 38 #[.val (.ref a1), .val (.int p1), .val (.int p2)] [(.int (1 : Int32))]) T26 (mkF m 29 #[.val (.ref a1), .val (.int p1), .val (.int p2)] [(.int p2)]) := by
        intro t k
        refine XS.iloadN X26.here hx rfl (hb hby d40_29) rfl ?_
        refine XS.icmpNo X26.here hx rfl (hb hby d40_30) rfl (teq (rfl : p2 = p2)).2 ?_
        refine XS.iconst X26.here hx rfl (hb hby d40_33) ?_
        refine XS.goto X26.here hx rfl (pc0 := 34) (pc' := 38) rfl (hb hby d40_34) (by decide) (by decide) ?_
        exact k
      refine own_by sg38 ?_
      obtain ⟨fs, hr, hrun, hended, hW, hsame⟩ := X26.leave (v := some (.int (1 : Int32))) (fun h => by rw [Bd.returns] at h; cases h)
      refine ⟨_, _, ?_, hrun, hended, _, _, rfl, ?_, ⟨_, rfl⟩, hW, hsame.mono (by decide) (by decide)⟩
      · exact retN X26 hx (t := .boolean) Bd.returns (by simp) (hb hby d40_38) hr
      · show Q40 Z a1 p1 p2 ta kb N cd cs i gz gf h0 n0 _ T26.heap _
        rw [hq26]
        exact ⟨rfl, N26, rfl⟩
    · have sg42 : own_G p e below s₁ (mkF m 42 #[.val (.ref a1), .val (.int p1), .val (.int p2)] [(.int (32 : Int32)), (.int p2)]) s₁ (mkF m 9 #[.val (.ref a1), .val (.int p1), .val (.int p2)] [(.int (92 : Int32)), (.int p2)]) := by
        intro t k
        refine XS.icmpYes X0.here hx rfl (pc0 := 9) (pc' := 39) rfl (hb hby d40_9) rfl (feq hc9).2 (by decide) (by decide) ?_
        refine XS.iloadN X0.here hx rfl (hb hby d40_39) rfl ?_
        refine XS.bipush X0.here hx rfl (hb hby d40_40) ?_
        exact k
      refine own_by sg42 ?_
      by_cases hc42 : p2 < (32 : Int32)
      · have sg47 : own_G p e below s₁ (mkF m 47 #[.val (.ref a1), .val (.int p1), .val (.int p2)] [(.int p1), (.ref a1)]) s₁ (mkF m 42 #[.val (.ref a1), .val (.int p1), .val (.int p2)] [(.int (32 : Int32)), (.int p2)]) := by
          intro t k
          refine XS.icmpNo X0.here hx rfl (hb hby d40_42) rfl (tlt hc42).2.1 ?_
          refine XS.aloadN X0.here hx rfl (hb hby d40_45) rfl rfl ?_
          refine XS.iloadN X0.here hx rfl (hb hby d40_46) rfl ?_
          exact k
        refine own_by sg47 ?_
        have he : own_esc p2 = [(92 : Int32), (117 : Int32), (48 : Int32), (48 : Int32), (own_hx (p2 >>> ((4 : Int32) &&& 31))), (own_hx (p2 &&& (15 : Int32)))] := by unfold own_esc; rw [if_neg hc3, if_neg hc9, if_pos hc42]
        have hq47 : cs[i]? = some (92 : Int32) := hpf 0 _ (by rw [he]; rfl)
        obtain ⟨cq47, kq47, q47a, q47b, q47c⟩ := isOf hZ e0 E_s
        obtain ⟨_, _, ⟨T47, L47, k47, n47⟩, -, X47, ⟨Lc47, hQ47, l47, y47, z47⟩, st47⟩ := X0.virtualBack hx (y := own_n47) (z := own_n47) hown (mvT hZ (own_w hw 211 rfl)) (mvT hZ (own_w hw 90 rfl)) (notFace_of_selects (args := #[]) (mvT hZ (own_w hw 92 rfl))) (mvT hZ (own_w hw 92 rfl)) (mvT hZ (own_w hw 91 rfl)) (by decide) (backOf (W := 0) (rm17 l Z a0 hw [] a1 p1 ta kb N cd cs (i) (92 : Int32) gz gf h0 n0 Z0 O hst TT hp1 hq47) hZ (own_w hw 93 rfl) (own_w hw 4 rfl) (by decide) (by decide)) q47a q47c (g := (mkF m 47 #[.val (.ref a1), .val (.int p1), .val (.int p2)] [(.int p1), (.ref a1)])) rfl (by rw [hml]; rfl) (Steps.refl _) (argsL := [(.int p1)]) (rest := []) (lenOf pd_40_0 rfl) rfl (Nat.le_of_eq rfl) (hb hby d40_47) (fun _ _ => ⟨rfl, e0, (by decide : 0 + 0 ≤ _), (by decide : 0 + 0 ≤ _)⟩)
        dsimp only [Pt.U, Pt.locs, Pt.cells, Pt.slots] at X47 l47 y47 z47 st47 hQ47
        subst l47 y47 z47
        obtain ⟨rfl, N47q, hq47⟩ := hQ47
        have N47 := Fr.app N0 N47q
        refine own_by (fun t k => st47.trans k) ?_
        obtain ⟨t58, ht58⟩ : ∃ z : Int32, z = (p1 + (1 : Int32)) := ⟨_, rfl⟩
        have sg59 : own_G p e below T47 (mkF m 59 #[.val (.ref a1), .val (.int p1), .val (.int p2)] [(.int t58), (.ref a1)]) T47 (mkF m 50 #[.val (.ref a1), .val (.int p1), .val (.int p2)] [(.int (92 : Int32))]) := by
          intro t k
          rw [ht58] at k
          refine XS.bipush X47.here hx rfl (hb hby d40_50) ?_
          refine XS.icmpNo X47.here hx rfl (hb hby d40_52) rfl (teq (by decide : (92 : Int32) = (92 : Int32))).2 ?_
          refine XS.aloadN X47.here hx rfl (hb hby d40_55) rfl rfl ?_
          refine XS.iloadN X47.here hx rfl (hb hby d40_56) rfl ?_
          refine XS.iconst X47.here hx rfl (hb hby d40_57) ?_
          refine XS.iadd X47.here hx rfl (hb hby d40_58) rfl ?_
          exact k
        refine own_by sg59 ?_
        have nt_t58 : t58 = Int32.ofNat (i + 1) := ht58.trans (own_nadd hp1 rfl)
        have hq59 : cs[i + 1]? = some (117 : Int32) := hpf 1 _ (by rw [he]; rfl)
        obtain ⟨cq59, kq59, q59a, q59b, q59c⟩ := isOf hZ hq47 E_s
        obtain ⟨_, _, ⟨T59, L59, k59, n59⟩, -, X59, ⟨Lc59, hQ59, l59, y59, z59⟩, st59⟩ := X47.virtualBack hx (y := own_n47) (z := own_n47) hown (mvT hZ (own_w hw 211 rfl)) (mvT hZ (own_w hw 90 rfl)) (notFace_of_selects (args := #[]) (mvT hZ (own_w hw 92 rfl))) (mvT hZ (own_w hw 92 rfl)) (mvT hZ (own_w hw 91 rfl)) (by decide) (backOf (W := 0) (rm17 l Z a0 hw [] a1 t58 ta kb N cd cs (i + 1) (117 : Int32) gz gf h0 n0 Z0 O hst TT nt_t58 hq59) hZ (own_w hw 93 rfl) (own_w hw 4 rfl) (by decide) (by decide)) q59a q59c (g := (mkF m 59 #[.val (.ref a1), .val (.int p1), .val (.int p2)] [(.int t58), (.ref a1)])) rfl (by rw [hml]; rfl) (Steps.refl _) (argsL := [(.int t58)]) (rest := []) (lenOf pd_40_0 rfl) rfl (Nat.le_of_eq rfl) (hb hby d40_59) (fun _ _ => ⟨rfl, hq47, (by decide : 0 + 0 ≤ _), (by decide : 0 + 0 ≤ _)⟩)
        dsimp only [Pt.U, Pt.locs, Pt.cells, Pt.slots] at X59 l59 y59 z59 st59 hQ59
        subst l59 y59 z59
        obtain ⟨rfl, N59q, hq59⟩ := hQ59
        have N59 := Fr.app N47 N59q
        refine own_by (fun t k => st59.trans k) ?_
        obtain ⟨t70, ht70⟩ : ∃ z : Int32, z = (p1 + (2 : Int32)) := ⟨_, rfl⟩
        have sg71 : own_G p e below T59 (mkF m 71 #[.val (.ref a1), .val (.int p1), .val (.int p2)] [(.int t70), (.ref a1)]) T59 (mkF m 62 #[.val (.ref a1), .val (.int p1), .val (.int p2)] [(.int (117 : Int32))]) := by
          intro t k
          rw [ht70] at k
          refine XS.bipush X59.here hx rfl (hb hby d40_62) ?_
          refine XS.icmpNo X59.here hx rfl (hb hby d40_64) rfl (teq (by decide : (117 : Int32) = (117 : Int32))).2 ?_
          refine XS.aloadN X59.here hx rfl (hb hby d40_67) rfl rfl ?_
          refine XS.iloadN X59.here hx rfl (hb hby d40_68) rfl ?_
          refine XS.iconst X59.here hx rfl (hb hby d40_69) ?_
          refine XS.iadd X59.here hx rfl (hb hby d40_70) rfl ?_
          exact k
        refine own_by sg71 ?_
        have nt_t70 : t70 = Int32.ofNat (i + 2) := ht70.trans (own_nadd hp1 rfl)
        have hq71 : cs[i + 2]? = some (48 : Int32) := hpf 2 _ (by rw [he]; rfl)
        obtain ⟨cq71, kq71, q71a, q71b, q71c⟩ := isOf hZ hq59 E_s
        obtain ⟨_, _, ⟨T71, L71, k71, n71⟩, -, X71, ⟨Lc71, hQ71, l71, y71, z71⟩, st71⟩ := X59.virtualBack hx (y := own_n47) (z := own_n47) hown (mvT hZ (own_w hw 211 rfl)) (mvT hZ (own_w hw 90 rfl)) (notFace_of_selects (args := #[]) (mvT hZ (own_w hw 92 rfl))) (mvT hZ (own_w hw 92 rfl)) (mvT hZ (own_w hw 91 rfl)) (by decide) (backOf (W := 0) (rm17 l Z a0 hw [] a1 t70 ta kb N cd cs (i + 2) (48 : Int32) gz gf h0 n0 Z0 O hst TT nt_t70 hq71) hZ (own_w hw 93 rfl) (own_w hw 4 rfl) (by decide) (by decide)) q71a q71c (g := (mkF m 71 #[.val (.ref a1), .val (.int p1), .val (.int p2)] [(.int t70), (.ref a1)])) rfl (by rw [hml]; rfl) (Steps.refl _) (argsL := [(.int t70)]) (rest := []) (lenOf pd_40_0 rfl) rfl (Nat.le_of_eq rfl) (hb hby d40_71) (fun _ _ => ⟨rfl, hq59, (by decide : 0 + 0 ≤ _), (by decide : 0 + 0 ≤ _)⟩)
        dsimp only [Pt.U, Pt.locs, Pt.cells, Pt.slots] at X71 l71 y71 z71 st71 hQ71
        subst l71 y71 z71
        obtain ⟨rfl, N71q, hq71⟩ := hQ71
        have N71 := Fr.app N59 N71q
        refine own_by (fun t k => st71.trans k) ?_
        obtain ⟨t82, ht82⟩ : ∃ z : Int32, z = (p1 + (3 : Int32)) := ⟨_, rfl⟩
        have sg83 : own_G p e below T71 (mkF m 83 #[.val (.ref a1), .val (.int p1), .val (.int p2)] [(.int t82), (.ref a1)]) T71 (mkF m 74 #[.val (.ref a1), .val (.int p1), .val (.int p2)] [(.int (48 : Int32))]) := by
          intro t k
          rw [ht82] at k
          refine XS.bipush X71.here hx rfl (hb hby d40_74) ?_
          refine XS.icmpNo X71.here hx rfl (hb hby d40_76) rfl (teq (by decide : (48 : Int32) = (48 : Int32))).2 ?_
          refine XS.aloadN X71.here hx rfl (hb hby d40_79) rfl rfl ?_
          refine XS.iloadN X71.here hx rfl (hb hby d40_80) rfl ?_
          refine XS.iconst X71.here hx rfl (hb hby d40_81) ?_
          refine XS.iadd X71.here hx rfl (hb hby d40_82) rfl ?_
          exact k
        refine own_by sg83 ?_
        have nt_t82 : t82 = Int32.ofNat (i + 3) := ht82.trans (own_nadd hp1 rfl)
        have hq83 : cs[i + 3]? = some (48 : Int32) := hpf 3 _ (by rw [he]; rfl)
        obtain ⟨cq83, kq83, q83a, q83b, q83c⟩ := isOf hZ hq71 E_s
        obtain ⟨_, _, ⟨T83, L83, k83, n83⟩, -, X83, ⟨Lc83, hQ83, l83, y83, z83⟩, st83⟩ := X71.virtualBack hx (y := own_n47) (z := own_n47) hown (mvT hZ (own_w hw 211 rfl)) (mvT hZ (own_w hw 90 rfl)) (notFace_of_selects (args := #[]) (mvT hZ (own_w hw 92 rfl))) (mvT hZ (own_w hw 92 rfl)) (mvT hZ (own_w hw 91 rfl)) (by decide) (backOf (W := 0) (rm17 l Z a0 hw [] a1 t82 ta kb N cd cs (i + 3) (48 : Int32) gz gf h0 n0 Z0 O hst TT nt_t82 hq83) hZ (own_w hw 93 rfl) (own_w hw 4 rfl) (by decide) (by decide)) q83a q83c (g := (mkF m 83 #[.val (.ref a1), .val (.int p1), .val (.int p2)] [(.int t82), (.ref a1)])) rfl (by rw [hml]; rfl) (Steps.refl _) (argsL := [(.int t82)]) (rest := []) (lenOf pd_40_0 rfl) rfl (Nat.le_of_eq rfl) (hb hby d40_83) (fun _ _ => ⟨rfl, hq71, (by decide : 0 + 0 ≤ _), (by decide : 0 + 0 ≤ _)⟩)
        dsimp only [Pt.U, Pt.locs, Pt.cells, Pt.slots] at X83 l83 y83 z83 st83 hQ83
        subst l83 y83 z83
        obtain ⟨rfl, N83q, hq83⟩ := hQ83
        have N83 := Fr.app N71 N83q
        refine own_by (fun t k => st83.trans k) ?_
        obtain ⟨t94, ht94⟩ : ∃ z : Int32, z = (p1 + (4 : Int32)) := ⟨_, rfl⟩
        have sg95 : own_G p e below T83 (mkF m 95 #[.val (.ref a1), .val (.int p1), .val (.int p2)] [(.int t94), (.ref a1)]) T83 (mkF m 86 #[.val (.ref a1), .val (.int p1), .val (.int p2)] [(.int (48 : Int32))]) := by
          intro t k
          rw [ht94] at k
          refine XS.bipush X83.here hx rfl (hb hby d40_86) ?_
          refine XS.icmpNo X83.here hx rfl (hb hby d40_88) rfl (teq (by decide : (48 : Int32) = (48 : Int32))).2 ?_
          refine XS.aloadN X83.here hx rfl (hb hby d40_91) rfl rfl ?_
          refine XS.iloadN X83.here hx rfl (hb hby d40_92) rfl ?_
          refine XS.iconst X83.here hx rfl (hb hby d40_93) ?_
          refine XS.iadd X83.here hx rfl (hb hby d40_94) rfl ?_
          exact k
        refine own_by sg95 ?_
        have nt_t94 : t94 = Int32.ofNat (i + 4) := ht94.trans (own_nadd hp1 rfl)
        have hq95 : cs[i + 4]? = some (own_hx (p2 >>> ((4 : Int32) &&& 31))) := hpf 4 _ (by rw [he]; rfl)
        obtain ⟨cq95, kq95, q95a, q95b, q95c⟩ := isOf hZ hq83 E_s
        obtain ⟨_, _, ⟨T95, L95, k95, n95⟩, -, X95, ⟨Lc95, hQ95, l95, y95, z95⟩, st95⟩ := X83.virtualBack hx (y := own_n47) (z := own_n47) hown (mvT hZ (own_w hw 211 rfl)) (mvT hZ (own_w hw 90 rfl)) (notFace_of_selects (args := #[]) (mvT hZ (own_w hw 92 rfl))) (mvT hZ (own_w hw 92 rfl)) (mvT hZ (own_w hw 91 rfl)) (by decide) (backOf (W := 0) (rm17 l Z a0 hw [] a1 t94 ta kb N cd cs (i + 4) (own_hx (p2 >>> ((4 : Int32) &&& 31))) gz gf h0 n0 Z0 O hst TT nt_t94 hq95) hZ (own_w hw 93 rfl) (own_w hw 4 rfl) (by decide) (by decide)) q95a q95c (g := (mkF m 95 #[.val (.ref a1), .val (.int p1), .val (.int p2)] [(.int t94), (.ref a1)])) rfl (by rw [hml]; rfl) (Steps.refl _) (argsL := [(.int t94)]) (rest := []) (lenOf pd_40_0 rfl) rfl (Nat.le_of_eq rfl) (hb hby d40_95) (fun _ _ => ⟨rfl, hq83, (by decide : 0 + 0 ≤ _), (by decide : 0 + 0 ≤ _)⟩)
        dsimp only [Pt.U, Pt.locs, Pt.cells, Pt.slots] at X95 l95 y95 z95 st95 hQ95
        subst l95 y95 z95
        obtain ⟨rfl, N95q, hq95⟩ := hQ95
        have N95 := Fr.app N83 N95q
        obtain ⟨c95, hc95⟩ : ∃ z : Int32, z = (own_hx (p2 >>> ((4 : Int32) &&& 31))) := ⟨_, rfl⟩
        rw [← hc95] at st95
        refine own_by (fun t k => st95.trans k) ?_
        have sg102 : own_G p e below T95 (mkF m 102 #[.val (.ref a1), .val (.int p1), .val (.int p2)] [(.int (p2 / (16 : Int32))), (.int c95)]) T95 (mkF m 98 #[.val (.ref a1), .val (.int p1), .val (.int p2)] [(.int c95)]) := by
          intro t k
          refine XS.iloadN X95.here hx rfl (hb hby d40_98) rfl ?_
          refine XS.bipush X95.here hx rfl (hb hby d40_99) ?_
          refine XS.idiv X95.here hx rfl (hb hby d40_101) rfl (by decide) ?_
          exact k
        refine own_by sg102 ?_
        obtain ⟨_, _, ⟨T102, L102, k102, n102⟩, -, X102, ⟨Lc102, hQ102, l102, y102, z102⟩, st102⟩ := Jvm.LawKit.callS X95 hx (y := own_n48) hown (mvT hZ (own_w hw 215 rfl)) (mvT hZ (own_w hw 216 rfl)) (mvT hZ (own_w hw 208 rfl)) (mvT hZ (own_w hw 217 rfl)) (by decide) (backOf (W := 1) (rm41 l Z a0 hw [] (p2 / (16 : Int32)) h0 n0 Z0) hZ (own_w hw 217 rfl) (own_w hw 208 rfl) (by decide) (by decide)) (g := (mkF m 102 #[.val (.ref a1), .val (.int p1), .val (.int p2)] [(.int (p2 / (16 : Int32))), (.int c95)])) rfl (by rw [hml]; rfl) (argsL := [(.int (p2 / (16 : Int32)))]) (rest := [(.int c95)]) (lenOf pd_40_0 rfl) rfl (Nat.le_of_eq rfl) (hb hby d40_102) (fun _ _ => ⟨rfl, hq95, (by decide : 0 + 0 ≤ _), (by decide : 0 + 0 ≤ _)⟩)
        dsimp only [Pt.U, Pt.locs, Pt.cells, Pt.slots] at X102 l102 y102 z102 st102 hQ102
        subst l102 y102 z102
        obtain ⟨rfl, N102q, hq102⟩ := hQ102
        have N102 := Fr.app N95 N102q
        obtain ⟨c102, hc102⟩ : ∃ z : Int32, z = (own_hexj (p2 / (16 : Int32))) := ⟨_, rfl⟩
        rw [← hc102] at st102
        refine own_by st102 ?_
        obtain ⟨t111, ht111⟩ : ∃ z : Int32, z = (p1 + (5 : Int32)) := ⟨_, rfl⟩
        have sg112 : own_G p e below T102 (mkF m 112 #[.val (.ref a1), .val (.int p1), .val (.int p2)] [(.int t111), (.ref a1)]) T102 (mkF m 105 #[.val (.ref a1), .val (.int p1), .val (.int p2)] [(.int c102), (.int c95)]) := by
          intro t k
          rw [ht111] at k
          refine XS.icmpNo X102.here hx rfl (hb hby d40_105) rfl (teq (by rw [hc95, hc102]; exact (own_hxe hch.1 hc42).1.symm : c95 = c102)).2 ?_
          refine XS.aloadN X102.here hx rfl (hb hby d40_108) rfl rfl ?_
          refine XS.iloadN X102.here hx rfl (hb hby d40_109) rfl ?_
          refine XS.iconst X102.here hx rfl (hb hby d40_110) ?_
          refine XS.iadd X102.here hx rfl (hb hby d40_111) rfl ?_
          exact k
        refine own_by sg112 ?_
        have nt_t111 : t111 = Int32.ofNat (i + 5) := ht111.trans (own_nadd hp1 rfl)
        have hq112 : cs[i + 5]? = some (own_hx (p2 &&& (15 : Int32))) := hpf 5 _ (by rw [he]; rfl)
        obtain ⟨cq112, kq112, q112a, q112b, q112c⟩ := isOf hZ hq102 E_s
        obtain ⟨_, _, ⟨T112, L112, k112, n112⟩, -, X112, ⟨Lc112, hQ112, l112, y112, z112⟩, st112⟩ := X102.virtualBack hx (y := own_n47) (z := own_n47) hown (mvT hZ (own_w hw 211 rfl)) (mvT hZ (own_w hw 90 rfl)) (notFace_of_selects (args := #[]) (mvT hZ (own_w hw 92 rfl))) (mvT hZ (own_w hw 92 rfl)) (mvT hZ (own_w hw 91 rfl)) (by decide) (backOf (W := 0) (rm17 l Z a0 hw [] a1 t111 ta kb N cd cs (i + 5) (own_hx (p2 &&& (15 : Int32))) gz gf h0 n0 Z0 O hst TT nt_t111 hq112) hZ (own_w hw 93 rfl) (own_w hw 4 rfl) (by decide) (by decide)) q112a q112c (g := (mkF m 112 #[.val (.ref a1), .val (.int p1), .val (.int p2)] [(.int t111), (.ref a1)])) rfl (by rw [hml]; rfl) (Steps.refl _) (argsL := [(.int t111)]) (rest := []) (lenOf pd_40_0 rfl) rfl (Nat.le_of_eq rfl) (hb hby d40_112) (fun _ _ => ⟨rfl, hq102, (by decide : 0 + 0 ≤ _), (by decide : 0 + 0 ≤ _)⟩)
        dsimp only [Pt.U, Pt.locs, Pt.cells, Pt.slots] at X112 l112 y112 z112 st112 hQ112
        subst l112 y112 z112
        obtain ⟨rfl, N112q, hq112⟩ := hQ112
        have N112 := Fr.app N102 N112q
        obtain ⟨c112, hc112⟩ : ∃ z : Int32, z = (own_hx (p2 &&& (15 : Int32))) := ⟨_, rfl⟩
        rw [← hc112] at st112
        refine own_by (fun t k => st112.trans k) ?_
        have sg119 : own_G p e below T112 (mkF m 119 #[.val (.ref a1), .val (.int p1), .val (.int p2)] [(.int (p2 % (16 : Int32))), (.int c112)]) T112 (mkF m 115 #[.val (.ref a1), .val (.int p1), .val (.int p2)] [(.int c112)]) := by
          intro t k
          refine XS.iloadN X112.here hx rfl (hb hby d40_115) rfl ?_
          refine XS.bipush X112.here hx rfl (hb hby d40_116) ?_
          refine iremM X112 hx rfl (hb hby d40_118) rfl (by decide) ?_
          exact k
        refine own_by sg119 ?_
        obtain ⟨_, _, ⟨T119, L119, k119, n119⟩, -, X119, ⟨Lc119, hQ119, l119, y119, z119⟩, st119⟩ := Jvm.LawKit.callS X112 hx (y := own_n48) hown (mvT hZ (own_w hw 215 rfl)) (mvT hZ (own_w hw 216 rfl)) (mvT hZ (own_w hw 208 rfl)) (mvT hZ (own_w hw 217 rfl)) (by decide) (backOf (W := 1) (rm41 l Z a0 hw [] (p2 % (16 : Int32)) h0 n0 Z0) hZ (own_w hw 217 rfl) (own_w hw 208 rfl) (by decide) (by decide)) (g := (mkF m 119 #[.val (.ref a1), .val (.int p1), .val (.int p2)] [(.int (p2 % (16 : Int32))), (.int c112)])) rfl (by rw [hml]; rfl) (argsL := [(.int (p2 % (16 : Int32)))]) (rest := [(.int c112)]) (lenOf pd_40_0 rfl) rfl (Nat.le_of_eq rfl) (hb hby d40_119) (fun _ _ => ⟨rfl, hq112, (by decide : 0 + 0 ≤ _), (by decide : 0 + 0 ≤ _)⟩)
        dsimp only [Pt.U, Pt.locs, Pt.cells, Pt.slots] at X119 l119 y119 z119 st119 hQ119
        subst l119 y119 z119
        obtain ⟨rfl, N119q, hq119⟩ := hQ119
        have N119 := Fr.app N112 N119q
        obtain ⟨c119, hc119⟩ : ∃ z : Int32, z = (own_hexj (p2 % (16 : Int32))) := ⟨_, rfl⟩
        rw [← hc119] at st119
        refine own_by st119 ?_
        have sg130 : own_G p e below T119 (mkF m 130 #[.val (.ref a1), .val (.int p1), .val (.int p2)] [(.int (1 : Int32))]) T119 (mkF m 122 #[.val (.ref a1), .val (.int p1), .val (.int p2)] [(.int c119), (.int c112)]) := by
          intro t k
          refine XS.icmpNo X119.here hx rfl (hb hby d40_122) rfl (teq (by rw [hc112, hc119]; exact (own_hxe hch.1 hc42).2.symm : c112 = c119)).2 ?_
          refine XS.iconst X119.here hx rfl (hb hby d40_125) ?_
          refine XS.goto X119.here hx rfl (pc0 := 126) (pc' := 130) rfl (hb hby d40_126) (by decide) (by decide) ?_
          exact k
        refine own_by sg130 ?_
        obtain ⟨fs, hr, hrun, hended, hW, hsame⟩ := X119.leave (v := some (.int (1 : Int32))) (fun h => by rw [Bd.returns] at h; cases h)
        refine ⟨_, _, ?_, hrun, hended, _, _, rfl, ?_, ⟨_, rfl⟩, hW, hsame.mono (by decide) (by decide)⟩
        · exact retN X119 hx (t := .boolean) Bd.returns (by simp) (hb hby d40_130) hr
        · show Q40 Z a1 p1 p2 ta kb N cd cs i gz gf h0 n0 _ T119.heap _
          rw [hq119]
          exact ⟨rfl, N119, rfl⟩
      · have sg133 : own_G p e below s₁ (mkF m 133 #[.val (.ref a1), .val (.int p1), .val (.int p2)] [(.int p1), (.ref a1)]) s₁ (mkF m 42 #[.val (.ref a1), .val (.int p1), .val (.int p2)] [(.int (32 : Int32)), (.int p2)]) := by
          intro t k
          refine XS.icmpYes X0.here hx rfl (pc0 := 42) (pc' := 131) rfl (hb hby d40_42) rfl (flt hc42).2.1 (by decide) (by decide) ?_
          refine XS.aloadN X0.here hx rfl (hb hby d40_131) rfl rfl ?_
          refine XS.iloadN X0.here hx rfl (hb hby d40_132) rfl ?_
          exact k
        refine own_by sg133 ?_
        have he : own_esc p2 = [p2] := by unfold own_esc; rw [if_neg hc3, if_neg hc9, if_neg hc42]
        have hq133 : cs[i]? = some p2 := hpf 0 _ (by rw [he]; rfl)
        obtain ⟨cq133, kq133, q133a, q133b, q133c⟩ := isOf hZ e0 E_s
        obtain ⟨_, _, ⟨T133, L133, k133, n133⟩, -, X133, ⟨Lc133, hQ133, l133, y133, z133⟩, st133⟩ := X0.virtualBack hx (y := own_n47) (z := own_n47) hown (mvT hZ (own_w hw 211 rfl)) (mvT hZ (own_w hw 90 rfl)) (notFace_of_selects (args := #[]) (mvT hZ (own_w hw 92 rfl))) (mvT hZ (own_w hw 92 rfl)) (mvT hZ (own_w hw 91 rfl)) (by decide) (backOf (W := 0) (rm17 l Z a0 hw [] a1 p1 ta kb N cd cs (i) p2 gz gf h0 n0 Z0 O hst TT hp1 hq133) hZ (own_w hw 93 rfl) (own_w hw 4 rfl) (by decide) (by decide)) q133a q133c (g := (mkF m 133 #[.val (.ref a1), .val (.int p1), .val (.int p2)] [(.int p1), (.ref a1)])) rfl (by rw [hml]; rfl) (Steps.refl _) (argsL := [(.int p1)]) (rest := []) (lenOf pd_40_0 rfl) rfl (Nat.le_of_eq rfl) (hb hby d40_133) (fun _ _ => ⟨rfl, e0, (by decide : 0 + 0 ≤ _), (by decide : 0 + 0 ≤ _)⟩)
        dsimp only [Pt.U, Pt.locs, Pt.cells, Pt.slots] at X133 l133 y133 z133 st133 hQ133
        subst l133 y133 z133
        obtain ⟨rfl, N133q, hq133⟩ := hQ133
        have N133 := Fr.app N0 N133q
        refine own_by (fun t k => st133.trans k) ?_
        have sg145 : own_G p e below T133 (mkF m 145 #[.val (.ref a1), .val (.int p1), .val (.int p2)] [(.int (1 : Int32))]) T133 (mkF m 136 #[.val (.ref a1), .val (.int p1), .val (.int p2)] [(.int p2)]) := by
          intro t k
          refine XS.iloadN X133.here hx rfl (hb hby d40_136) rfl ?_
          refine XS.icmpNo X133.here hx rfl (hb hby d40_137) rfl (teq (rfl : p2 = p2)).2 ?_
          refine XS.iconst X133.here hx rfl (hb hby d40_140) ?_
          refine XS.goto X133.here hx rfl (pc0 := 141) (pc' := 145) rfl (hb hby d40_141) (by decide) (by decide) ?_
          exact k
        refine own_by sg145 ?_
        obtain ⟨fs, hr, hrun, hended, hW, hsame⟩ := X133.leave (v := some (.int (1 : Int32))) (fun h => by rw [Bd.returns] at h; cases h)
        refine ⟨_, _, ?_, hrun, hended, _, _, rfl, ?_, ⟨_, rfl⟩, hW, hsame.mono (by decide) (by decide)⟩
        · exact retN X133 hx (t := .boolean) Bd.returns (by simp) (hb hby d40_145) hr
        · show Q40 Z a1 p1 p2 ta kb N cd cs i gz gf h0 n0 _ T133.heap _
          rw [hq133]
          exact ⟨rfl, N133, rfl⟩
abbrev own_b7 := prog_21_method_2_code
theorem d7_0 : decode own_b7 0 = .ok (.new 7, 3) := by decide +kernel
theorem d7_3 : decode own_b7 3 = .ok (.dup, 1) := by decide +kernel
theorem d7_4 : decode own_b7 4 = .ok (.aload_n 0, 1) := by decide +kernel
theorem d7_5 : decode own_b7 5 = .ok (.invokevirtual 9, 3) := by decide +kernel
theorem d7_8 : decode own_b7 8 = .ok (.iconst 2, 1) := by decide +kernel
theorem d7_9 : decode own_b7 9 = .ok (.iadd, 1) := by decide +kernel
theorem d7_10 : decode own_b7 10 = .ok (.invokespecial 15, 3) := by decide +kernel
theorem d7_13 : decode own_b7 13 = .ok (.bipush 34, 2) := by decide +kernel
theorem d7_15 : decode own_b7 15 = .ok (.invokevirtual 18, 3) := by decide +kernel
theorem d7_18 : decode own_b7 18 = .ok (.astore_n 1, 1) := by decide +kernel
theorem d7_19 : decode own_b7 19 = .ok (.iconst 0, 1) := by decide +kernel
theorem d7_20 : decode own_b7 20 = .ok (.istore_n 2, 1) := by decide +kernel
theorem d7_21 : decode own_b7 21 = .ok (.iload_n 2, 1) := by decide +kernel
theorem d7_22 : decode own_b7 22 = .ok (.aload_n 0, 1) := by decide +kernel
theorem d7_23 : decode own_b7 23 = .ok (.invokevirtual 9, 3) := by decide +kernel
theorem d7_26 : decode own_b7 26 = .ok (.if_icmp .ge 84, 3) := by decide +kernel
theorem d7_29 : decode own_b7 29 = .ok (.aload_n 0, 1) := by decide +kernel
theorem d7_30 : decode own_b7 30 = .ok (.iload_n 2, 1) := by decide +kernel
theorem d7_31 : decode own_b7 31 = .ok (.invokevirtual 22, 3) := by decide +kernel
theorem d7_34 : decode own_b7 34 = .ok (.istore_n 3, 1) := by decide +kernel
theorem d7_35 : decode own_b7 35 = .ok (.iload_n 3, 1) := by decide +kernel
theorem d7_36 : decode own_b7 36 = .ok (.bipush 34, 2) := by decide +kernel
theorem d7_38 : decode own_b7 38 = .ok (.if_icmp .eq 9, 3) := by decide +kernel
theorem d7_41 : decode own_b7 41 = .ok (.iload_n 3, 1) := by decide +kernel
theorem d7_42 : decode own_b7 42 = .ok (.bipush 92, 2) := by decide +kernel
theorem d7_44 : decode own_b7 44 = .ok (.if_icmp .ne 17, 3) := by decide +kernel
theorem d7_47 : decode own_b7 47 = .ok (.aload_n 1, 1) := by decide +kernel
theorem d7_48 : decode own_b7 48 = .ok (.bipush 92, 2) := by decide +kernel
theorem d7_50 : decode own_b7 50 = .ok (.invokevirtual 18, 3) := by decide +kernel
theorem d7_53 : decode own_b7 53 = .ok (.iload_n 3, 1) := by decide +kernel
theorem d7_54 : decode own_b7 54 = .ok (.invokevirtual 18, 3) := by decide +kernel
theorem d7_57 : decode own_b7 57 = .ok (.pop, 1) := by decide +kernel
theorem d7_58 : decode own_b7 58 = .ok (.goto 46, 3) := by decide +kernel
theorem d7_61 : decode own_b7 61 = .ok (.iload_n 3, 1) := by decide +kernel
theorem d7_62 : decode own_b7 62 = .ok (.bipush 32, 2) := by decide +kernel
theorem d7_64 : decode own_b7 64 = .ok (.if_icmp .ge 34, 3) := by decide +kernel
theorem d7_67 : decode own_b7 67 = .ok (.aload_n 1, 1) := by decide +kernel
theorem d7_68 : decode own_b7 68 = .ok (.ldc 26, 2) := by decide +kernel
theorem d7_70 : decode own_b7 70 = .ok (.invokevirtual 28, 3) := by decide +kernel
theorem d7_73 : decode own_b7 73 = .ok (.getstatic 31, 3) := by decide +kernel
theorem d7_76 : decode own_b7 76 = .ok (.iload_n 3, 1) := by decide +kernel
theorem d7_77 : decode own_b7 77 = .ok (.iconst 4, 1) := by decide +kernel
theorem d7_78 : decode own_b7 78 = .ok (.ishr, 1) := by decide +kernel
theorem d7_79 : decode own_b7 79 = .ok (.caload, 1) := by decide +kernel
theorem d7_80 : decode own_b7 80 = .ok (.invokevirtual 18, 3) := by decide +kernel
theorem d7_83 : decode own_b7 83 = .ok (.getstatic 31, 3) := by decide +kernel
theorem d7_86 : decode own_b7 86 = .ok (.iload_n 3, 1) := by decide +kernel
theorem d7_87 : decode own_b7 87 = .ok (.bipush 15, 2) := by decide +kernel
theorem d7_89 : decode own_b7 89 = .ok (.iand, 1) := by decide +kernel
theorem d7_90 : decode own_b7 90 = .ok (.caload, 1) := by decide +kernel
theorem d7_91 : decode own_b7 91 = .ok (.invokevirtual 18, 3) := by decide +kernel
theorem d7_94 : decode own_b7 94 = .ok (.pop, 1) := by decide +kernel
theorem d7_95 : decode own_b7 95 = .ok (.goto 9, 3) := by decide +kernel
theorem d7_98 : decode own_b7 98 = .ok (.aload_n 1, 1) := by decide +kernel
theorem d7_99 : decode own_b7 99 = .ok (.iload_n 3, 1) := by decide +kernel
theorem d7_100 : decode own_b7 100 = .ok (.invokevirtual 18, 3) := by decide +kernel
theorem d7_103 : decode own_b7 103 = .ok (.pop, 1) := by decide +kernel
theorem d7_104 : decode own_b7 104 = .ok (.iinc 2 1, 3) := by decide +kernel
theorem d7_107 : decode own_b7 107 = .ok (.goto (-86), 3) := by decide +kernel
theorem d7_110 : decode own_b7 110 = .ok (.aload_n 1, 1) := by decide +kernel
theorem d7_111 : decode own_b7 111 = .ok (.bipush 34, 2) := by decide +kernel
theorem d7_113 : decode own_b7 113 = .ok (.invokevirtual 18, 3) := by decide +kernel
theorem d7_116 : decode own_b7 116 = .ok (.invokevirtual 37, 3) := by decide +kernel
theorem d7_119 : decode own_b7 119 = .ok (.areturn, 1) := by decide +kernel
theorem pn_7 : plainFor (⟨"com/example/catchment/catchment/Json", "string", "(Ljava/lang/String;)Ljava/lang/String;"⟩ : MethodName) = true := by first | exact plainFor_of_name (by first | (simp [plainName, overriddenIn]; done) | decide +kernel) | decide +kernel | exact Jvm.Free.JP.mathPlain rfl (by decide +kernel)
theorem pd_7_0 : parseMethodDescriptor "()I" = some ⟨[], some .int⟩ := by decide +kernel
theorem pd_7_1 : parseMethodDescriptor "(I)V" = some ⟨[.int], none⟩ := by decide +kernel
theorem pd_7_2 : parseMethodDescriptor "(C)Ljava/lang/StringBuilder;" = some ⟨[.char], some (.object "java/lang/StringBuilder")⟩ := by decide +kernel
theorem pd_7_3 : parseMethodDescriptor "(I)C" = some ⟨[.int], some .char⟩ := by decide +kernel
theorem pd_7_4 : parseMethodDescriptor "(Ljava/lang/String;)Ljava/lang/StringBuilder;" = some ⟨[(.object "java/lang/String")], some (.object "java/lang/StringBuilder")⟩ := by decide +kernel
theorem pd_7_5 : parseMethodDescriptor "()Ljava/lang/String;" = some ⟨[], some (.object "java/lang/String")⟩ := by decide +kernel
theorem ef_7 (m : MethodId) (a1 : Addr) : entryFrame m #[(.ref a1)] 4 = mkF m 0 #[.val (.ref a1), .unset, .unset, .unset] [] := by first | (simp [entryFrame, mkF, argsToLocals, Value.category]; done) | rfl
abbrev own_r7 : Room := { frames := 12, cells := 34, slots := 2150, locals := 250 }
def Q7 (Z : State) (a1 : Addr) (ta : Addr) (kt : ClassId) (M : Nat) (cd0 : Int32) (cs : List Int32) (wH : Addr) (gz : Int32) (gf : Value) (h0 : Heap) (n0 : Nat) (v : Option Value) (h : Heap) (L : List Loc) : Prop := ∃ (r t2 : Addr) (kt2 : ClassId) (M2 : Nat) (cd2 : Int32), v = some (.ref r) ∧ h0.size ≤ r ∧ h0.size ≤ t2 ∧ Fr n0 L ∧ Keep h0 h [] ∧ own_T Z h r t2 kt2 M2 cd2 (own_json cs)
theorem rm7 (l : Launch) (Z : State) (a0 : Array Value) (hw : ∀ d ∈ tables_1, d.before a0 Z = true) (ws : List Jvm.Cond) (a1 : Addr) (ta : Addr) (kt : ClassId) (M : Nat) (cd0 : Int32) (cs : List Int32) (wH : Addr) (gz : Int32) (gf : Value) (h0 : Heap) (n0 : Nat) (Z0 : n0 ≤ h0.size) (O : Old Z n0 h0) (hst : own_ST Z gz gf) (TT : own_T Z h0 a1 ta kt M cd0 cs) (hln : cs.length ≤ 3) (S_H : Sta Z Z.heap "com/example/catchment/catchment/Json" "HEX" "[C" (.ref wH)) (hHX : own_HX Z wH) :
    MetFree l own_n54 (head1 (Jvm.Cond.code own_n54 prog_21_method_2_code 4 (some (.object "java/lang/String")) :: ws) own_r7) (fun a U => a = #[(.ref a1)] ∧ Z.Warmed39 U.vm ∧ U.heap = h0 ∧ CHv Z consts_1 U.vm h0) (fun _ _ _ _ _ => True) (fun _ U o U' => ∃ v L, o = .returned v ∧ Q7 Z a1 ta kt M cd0 cs wH gz gf h0 n0 v U'.heap L ∧ CHr Z consts_1 U.vm U.heap U'.vm U'.heap ∧ ReturnedEndW U o U' L own_r7.cells own_r7.slots) := by
  refine MetFree.of_bodySF pn_7 hisR ?_
  intro p e s m args below meth c s₁ Bd hml0 hP hK
  obtain ⟨rfl, hZ, hh, hH0⟩ := hP
  have hx := Bd.exec
  have hby := Bd.bytes
  have hml : c.maxLocals = 4 := hml0
  have hown : s.vm.findClass "com/example/catchment/catchment/Json" = some m.cls := findClass_of_methodNamed Bd.named
  have hnm := (name_of_methodNamed Bd.named Bd.method).1
  have X0 : Stand p l e own_r7 (s.setVm s.vm) m #[(.ref a1)] below meth c s₁ [] 0 0 := Stand.of_body Bd
  have e0 : s₁.heap = h0 := by rw [← hh, Bd.state]; rfl
  have N0 := Fr.nil n0
  have hS0 : s.Since s.vm 0 := (State.WarmedH.refl s).since 0
  refine own_at (castTop (ef_7 m a1)) ?_
  have K0 := Keep.refl h0 []
  obtain ⟨S1, P5, S2, rf, S3, S4, S5⟩ := id hst
  have wS : ∀ a ∈ Bundle.stringAtoms, a.before a0 Z = true := fun d hd => hw d ((by decide +kernel : ∀ d ∈ Bundle.stringAtoms, d ∈ tables_1) d hd)
  have hEL : EW _ _ consts_1 := (EW.cons (own_w hw 110 rfl) (by decide) (EW.cons (own_w hw 224 rfl) (by decide) EW.nil))
  have E_s := TT.1
  have h16 := TT.2.2.2.2.2.2.1
  obtain ⟨T00, h00, X00, e00, E00, A00, D00, -, st00⟩ := newO X0 hx hZ hown (own_w hw 35 rfl) (own_w hw 36 rfl) (own_w hw 37 rfl) e0 (g := (mkF m 0 #[.val (.ref a1), .unset, .unset, .unset] [])) rfl (hb hby d7_0) (by decide) (by decide)
  obtain ⟨b00, g00⟩ : ∃ z, z = h0.size := ⟨_, rfl⟩
  rw [← g00] at A00 D00 st00
  have ne_a1_b00 : a1 ≠ b00 := Nat.ne_of_lt (Nat.lt_of_lt_of_le E_s.lt (Nat.le_of_eq g00.symm))
  have g_b00 : n0 ≤ b00 := Nat.le_trans Z0 (Nat.le_of_eq g00.symm)
  have sz_b00 : h0.size ≤ b00 := Nat.le_trans K0.1 (Nat.le_of_eq g00.symm)
  have K00 := K0.ext E00
  have Z00 : n0 ≤ h00.size := Nat.le_trans Z0 E00.1
  have CC00 := CHr.ext E00 hH0
  have CR00 := (CHr.refl hH0).trans CC00
  have F_value_b00 : Fld Z h00 b00 "java/lang/AbstractStringBuilder" "value" "[B" .null := D00 (Or.inl (own_w hw 60 rfl)) (ty := (.array .byte)) (by decide)
  have F_coder_b00 : Fld Z h00 b00 "java/lang/AbstractStringBuilder" "coder" "B" (.int (0 : Int32)) := D00 (Or.inl (own_w hw 62 rfl)) (ty := .byte) (by decide)
  have F_count_b00 : Fld Z h00 b00 "java/lang/AbstractStringBuilder" "count" "I" (.int (0 : Int32)) := D00 (Or.inl (own_w hw 74 rfl)) (ty := .int) (by decide)
  have F_maybeLatin1_b00 : Fld Z h00 b00 "java/lang/AbstractStringBuilder" "maybeLatin1" "Z" (.int (0 : Int32)) := D00 (Or.inl (own_w hw 279 rfl)) (ty := .boolean) (by decide)
  refine own_by st00 ?_
  have sg5 : own_G p e below T00 (mkF m 5 #[.val (.ref a1), .unset, .unset, .unset] [(.ref a1), (.ref b00), (.ref b00)]) T00 (mkF m 3 #[.val (.ref a1), .unset, .unset, .unset] [(.ref b00)]) := by
    intro t k
    refine XS.dup X00.here hx rfl (hb hby d7_3) rfl rfl ?_
    refine XS.aloadN X00.here hx rfl (hb hby d7_4) rfl rfl ?_
    exact k
  refine own_by sg5 ?_
  obtain ⟨cq5, kq5, q5a, q5b, q5c⟩ := isOf hZ e00 (E_s.ext E00)
  obtain ⟨_, _, ⟨T5, L5, k5, n5⟩, -, X5, ⟨Lc5, hQ5, l5, y5, z5⟩, st5⟩ := X00.virtualBack hx (y := own_n30) (z := own_n30) hown (mvT hZ (own_w hw 38 rfl)) (mvT hZ (own_w hw 39 rfl)) (notFace_of_selects (args := #[]) (mvT hZ (own_w hw 41 rfl))) (mvT hZ (own_w hw 41 rfl)) (mvT hZ (own_w hw 40 rfl)) (by decide) (backOf (W := 2) (rm8 l Z a0 hw [] a1 ta kt M cd0 cs gz gf h00 n0 Z00 (O.ext E00) hst (TT.keep K00 List.not_mem_nil List.not_mem_nil)) hZ (own_w hw 42 rfl) (own_w hw 4 rfl) (by decide) (by decide)) q5a q5c (g := (mkF m 5 #[.val (.ref a1), .unset, .unset, .unset] [(.ref a1), (.ref b00), (.ref b00)])) rfl (by rw [hml]; rfl) (Steps.refl _) (argsL := []) (rest := [(.ref b00), (.ref b00)]) (lenOf pd_7_0 rfl) rfl (Nat.le_of_eq rfl) (hb hby d7_5) (fun _ _ => ⟨rfl, e00, (by decide : 1 + 0 ≤ _), (by decide : 4 + 0 ≤ _)⟩)
  dsimp only [Pt.U, Pt.locs, Pt.cells, Pt.slots] at X5 l5 y5 z5 st5 hQ5
  subst l5 y5 z5
  obtain ⟨rfl, N5q, hq5⟩ := hQ5
  have N5 := Fr.app N0 N5q
  obtain ⟨c5, hc5⟩ : ∃ z : Int32, z = (Int32.ofNat (cs).length) := ⟨_, rfl⟩
  rw [← hc5] at st5
  have nt_c5 : c5 = Int32.ofNat ((cs).length) := hc5
  refine own_by (fun t k => st5.trans k) ?_
  obtain ⟨t9, ht9⟩ : ∃ z : Int32, z = (c5 + (2 : Int32)) := ⟨_, rfl⟩
  have sg10 : own_G p e below T5 (mkF m 10 #[.val (.ref a1), .unset, .unset, .unset] [(.int t9), (.ref b00), (.ref b00)]) T5 (mkF m 8 #[.val (.ref a1), .unset, .unset, .unset] [(.int c5), (.ref b00), (.ref b00)]) := by
    intro t k
    rw [ht9] at k
    refine XS.iconst X5.here hx rfl (hb hby d7_8) ?_
    refine XS.iadd X5.here hx rfl (hb hby d7_9) rfl ?_
    exact k
  refine own_by sg10 ?_
  have nt_t9 : t9 = Int32.ofNat ((cs).length + 2) := ht9.trans (own_nadd nt_c5 rfl)
  obtain ⟨_, _, ⟨T10, L10, k10, n10⟩, -, X10, ⟨Lc10, hQ10, l10, y10, z10⟩, st10⟩ := X5.specialBack hx (y := own_n49) rfl hown (mvT hZ (own_w hw 48 rfl)) (mvT hZ (own_w hw 49 rfl)) (mvT hZ (own_w hw 50 rfl)) (by decide) (backOf (W := 1) (rm10 l Z a0 hw [] b00 t9 ((cs).length + 2) gz gf h00 n0 Z00 (O.ext E00) hst A00 F_value_b00 F_coder_b00 F_maybeLatin1_b00 F_count_b00 g_b00 nt_t9 (by omega)) hZ (own_w hw 50 rfl) (own_w hw 37 rfl) (by decide) (by decide)) (g := (mkF m 10 #[.val (.ref a1), .unset, .unset, .unset] [(.int t9), (.ref b00), (.ref b00)])) rfl (by rw [hml]; rfl) (Steps.refl _) (a := b00) (argsL := [(.int t9)]) (rest := [(.ref b00)]) (lenOf pd_7_1 rfl) rfl (Nat.le_of_eq rfl) (hb hby d7_10) (fun _ _ => ⟨rfl, hq5, (by decide : 1 + 1 ≤ _), (by decide : 4 + 42 ≤ _)⟩)
  dsimp only [Pt.U, Pt.locs, Pt.cells, Pt.slots] at X10 l10 y10 z10 st10 hQ10
  subst l10 y10 z10
  obtain ⟨rfl, N10q, Kq10, vb, kb, gv, BB⟩ := hQ10
  have N10 := Fr.app N5 N10q
  have g_vb : n0 ≤ vb := Nat.le_trans Z00 gv
  have sz_vb : h0.size ≤ vb := Nat.le_trans K00.1 gv
  have Sv := Safe.keep Kq10 (sfS (Safe.exa hZ.alike A00 (by decide) (by decide)) sf0) CC00.1 (Safe.new gv : Safe Z consts_1 _ _ vb)
  have K10 : Keep h0 T10.heap [] := K00.trans Kq10 (fun x hx => by cases List.mem_singleton.mp hx; exact (Or.inr sz_b00))
  have Z10 : n0 ≤ T10.heap.size := Nat.le_trans Z00 Kq10.1
  have CC10 := CHr.keep Kq10 (sfS (Safe.exa hZ.alike A00 (by decide) (by decide)) sf0) CC00.1
  have CR10 := CR00.trans CC10
  have hcap0 : ((0 : Int32) = (0 : Int32) → ([] : List Int32).length ≤ ((cs).length + 2) ∧ ((cs).length + 2) ≤ 42) ∧ ((0 : Int32) = (1 : Int32) → 2 * (([] : List Int32).length) ≤ ((cs).length + 2) ∧ ((cs).length + 2) ≤ 86) := ⟨fun _ => ⟨by simp, by omega⟩, fun q => absurd q (by decide)⟩
  have hlat0 : (0 : Int32) = (0 : Int32) → own_lat [] := fun _ _ q => nomatch q
  refine own_by (fun t k => st10.trans k) ?_
  have sg15 : own_G p e below T10 (mkF m 15 #[.val (.ref a1), .unset, .unset, .unset] [(.int (34 : Int32)), (.ref b00)]) T10 (mkF m 13 #[.val (.ref a1), .unset, .unset, .unset] [(.ref b00)]) := by
    intro t k
    refine XS.bipush X10.here hx rfl (hb hby d7_13) ?_
    exact k
  refine own_by sg15 ?_
  obtain ⟨cq15, kq15, q15a, q15b, q15c⟩ := isOf hZ rfl (BB).1
  obtain ⟨_, _, ⟨T15, L15, k15, n15⟩, -, X15, ⟨Lc15, hQ15, l15, y15, z15⟩, st15⟩ := X10.virtualBack hx (y := own_n50) (z := own_n50) hown (mvT hZ (own_w hw 63 rfl)) (mvT hZ (own_w hw 64 rfl)) (notFace_of_selects (args := #[]) (mvT hZ (own_w hw 66 rfl))) (mvT hZ (own_w hw 66 rfl)) (mvT hZ (own_w hw 65 rfl)) (by decide) (backOf (W := 0) (rm12 l Z a0 hw [] b00 (34 : Int32) vb kb ((cs).length + 2) (0 : Int32) ([])  gz gf T10.heap n0 Z10 ((O.ext E00).keep Kq10 (allS g_b00 all0)) hst BB (Or.inl rfl) g_b00 g_vb hcap0 hlat0 (by decide) (by decide)) hZ (own_w hw 67 rfl) (own_w hw 37 rfl) (by decide) (by decide)) q15a q15c (g := (mkF m 15 #[.val (.ref a1), .unset, .unset, .unset] [(.int (34 : Int32)), (.ref b00)])) rfl (by rw [hml]; rfl) (Steps.refl _) (argsL := [(.int (34 : Int32))]) (rest := []) (lenOf pd_7_2 rfl) rfl (Nat.le_of_eq rfl) (hb hby d7_15) (fun _ _ => ⟨rfl, rfl, (by decide : 2 + 2 ≤ _), (by decide : 46 + 170 ≤ _)⟩)
  dsimp only [Pt.U, Pt.locs, Pt.cells, Pt.slots] at X15 l15 y15 z15 st15 hQ15
  subst l15 y15 z15
  obtain ⟨v_15, k_15, N_15, d_15, rfl, hv_15, hd_15, N15q, Kq15, BB15, cp_15, lt_15⟩ := hQ15
  have N15 := Fr.app N10 N15q
  have g_v_15 : n0 ≤ v_15 := hv_15.elim (fun q => q ▸ g_vb) (fun q => Nat.le_trans Z10 q)
  have sz_v_15 : h0.size ≤ v_15 := hv_15.elim (fun q => q ▸ sz_vb) (fun q => Nat.le_trans K10.1 q)
  have Sv_15 := Safe.keep Kq15 (sfS (Safe.exa hZ.alike (BB).1 (by decide) (by decide)) (sfS Sv sf0)) CC10.1 (hv_15.elim (fun q => q ▸ Sv) Safe.new : Safe Z consts_1 _ _ v_15)
  have K15 : Keep h0 T15.heap [] := K10.trans Kq15 ((allS (P := fun x => x ∈ [] ∨ h0.size ≤ x) (Or.inr sz_b00) (allS (P := fun x => x ∈ [] ∨ h0.size ≤ x) (Or.inr sz_vb) all0)))
  have Z15 : n0 ≤ T15.heap.size := Nat.le_trans Z10 Kq15.1
  have CC15 := CHr.keep Kq15 (sfS (Safe.exa hZ.alike (BB).1 (by decide) (by decide)) (sfS Sv sf0)) CC10.1
  have CR15 := CR10.trans CC15
  refine own_by (fun t k => st15.trans k) ?_
  have sg21 : own_G p e below T15 (mkF m 21 #[.val (.ref a1), .val (.ref b00), .val (.int (0 : Int32)), .unset] []) T15 (mkF m 18 #[.val (.ref a1), .unset, .unset, .unset] [(.ref b00)]) := by
    intro t k
    refine XS.astoreN X15.here hx rfl (hb hby d7_18) rfl rfl (l' := #[.val (.ref a1), .val (.ref b00), .unset, .unset]) rfl ?_
    refine XS.iconst X15.here hx rfl (hb hby d7_19) ?_
    refine XS.istoreN X15.here hx rfl (hb hby d7_20) rfl (l' := #[.val (.ref a1), .val (.ref b00), .val (.int (0 : Int32)), .unset]) rfl ?_
    exact k
  refine own_by sg21 ?_
  have loop : ∀ (rest done : List Int32) (i : Int32) (x3 : Slot) (vm0 : Vm) (ks : Nat) (T : State) (L : List Loc) (H : Heap) (vb : Addr) (kb : ClassId) (N : Nat) (cd : Int32) (cc ss : Nat), cs = done ++ rest → i = Int32.ofNat done.length → cc + 1 + 8 * rest.length ≤ 28 → ss + 1 + 530 * rest.length ≤ 1820 → own_one x3 → Stand p l e own_r7 (s.setVm vm0) m #[(.ref a1)] below meth c T L (cc + 1) (ss + 1) → Z.Warmed39 (s.setVm vm0).vm → (s.setVm vm0).vm.findClass "com/example/catchment/catchment/Json" = some m.cls → s.Since vm0 ks → ks ≤ H.size → T.heap = H → Fr n0 L → Keep h0 H [] → n0 ≤ H.size → Old Z n0 H → CHv Z consts_1 vm0 H → CHr Z consts_1 s.vm h0 vm0 H → own_B Z H b00 vb kb N cd ([34] ++ done.flatMap own_esc) → (cd = (0 : Int32) ∨ cd = (1 : Int32)) → ((cd = (0 : Int32) → ([34] ++ done.flatMap own_esc).length ≤ N ∧ N ≤ 42) ∧ (cd = (1 : Int32) → 2 * (([34] ++ done.flatMap own_esc).length) ≤ N ∧ N ≤ 86)) → (cd = (0 : Int32) → own_lat ([34] ++ done.flatMap own_esc)) → Safe Z consts_1 vm0 H vb → n0 ≤ vb → h0.size ≤ vb → ∃ (vm0' : Vm) (ks' : Nat) (T' : State) (L' : List Loc) (H' : Heap) (vb' : Addr) (kb' : ClassId) (N' : Nat) (cd' : Int32) (i' : Int32) (y3 : Slot), i' = Int32.ofNat cs.length ∧ Stand p l e own_r7 (s.setVm vm0') m #[(.ref a1)] below meth c T' L' 28 1820 ∧ Z.Warmed39 (s.setVm vm0').vm ∧ (s.setVm vm0').vm.findClass "com/example/catchment/catchment/Json" = some m.cls ∧ s.Since vm0' ks' ∧ ks' ≤ H'.size ∧ T'.heap = H' ∧ Fr n0 L' ∧ Keep h0 H' [] ∧ n0 ≤ H'.size ∧ Old Z n0 H' ∧ CHv Z consts_1 vm0' H' ∧ CHr Z consts_1 s.vm h0 vm0' H' ∧ own_B Z H' b00 vb' kb' N' cd' ([34] ++ cs.flatMap own_esc) ∧ (cd' = (0 : Int32) ∨ cd' = (1 : Int32)) ∧ ((cd' = (0 : Int32) → ([34] ++ cs.flatMap own_esc).length ≤ N' ∧ N' ≤ 42) ∧ (cd' = (1 : Int32) → 2 * (([34] ++ cs.flatMap own_esc).length) ≤ N' ∧ N' ≤ 86)) ∧ (cd' = (0 : Int32) → own_lat ([34] ++ cs.flatMap own_esc)) ∧ Safe Z consts_1 vm0' H' vb' ∧ n0 ≤ vb' ∧ h0.size ≤ vb' ∧ ∀ t, own_S p e below T' (mkF m 21 #[.val (.ref a1), .val (.ref b00), .val (.int i'), y3] []) t → own_S p e below T (mkF m 21 #[.val (.ref a1), .val (.ref b00), .val (.int i), x3] []) t := by
    intro rest
    induction rest with
    | nil =>
      intro done i x3 vm0 ks T L H vb kb N cd cc ss hd hi hcc hss o3 X hZL hoL hSL hkL eT NL KH ZH OH CHL CRL BBL hcdL hcapL hlatL SvL g_vb sz_vb
      have hdn : cs = done := by rw [hd]; simp
      exact ⟨vm0, ks, T, L, H, vb, kb, N, cd, i, x3, (by rw [hdn]; exact hi), X.more (by omega) (by omega), hZL, hoL, hSL, hkL, eT, NL, KH, ZH, OH, CHL, CRL, (by rw [hdn]; exact BBL), hcdL, (by rw [hdn]; exact hcapL), (by rw [hdn]; exact hlatL), SvL, g_vb, sz_vb, fun t k => k⟩
    | cons c rest ih =>
      intro done i x3 vm0 ks T L H vb kb N cd cc ss hd hi hcc hss o3 X hZL hoL hSL hkL eT NL KH ZH OH CHL CRL BBL hcdL hcapL hlatL SvL g_vb sz_vb
      have hq : cs[done.length]? = some c := by rw [hd]; simp
      have hll : done.length < cs.length := (List.getElem?_eq_some_iff.mp hq).1
      have hcc16 := h16 c (List.mem_of_getElem? hq)
      have hcc_ := hcc16
      have hfl := own_fl done
      simp only [List.length_cons] at hcc hss
      have sg23 : own_G p e below T (mkF m 23 #[.val (.ref a1), .val (.ref b00), .val (.int i), x3] [(.ref a1), (.int i)]) T (mkF m 21 #[.val (.ref a1), .val (.ref b00), .val (.int i), x3] []) := by
        intro t k
        refine XS.iloadN X.here hx rfl (hb hby d7_21) rfl ?_
        refine XS.aloadN X.here hx rfl (hb hby d7_22) rfl rfl ?_
        exact k
      obtain ⟨cq23, kq23, q23a, q23b, q23c⟩ := isOf hZL eT (E_s.keep KH)
      obtain ⟨_, _, ⟨T23, L23, k23, n23⟩, -, X23, ⟨Lc23, hQ23, l23, y23, z23⟩, st23⟩ := X.virtualBack hx (y := own_n30) (z := own_n30) hoL (mvT hZL (own_w hw 38 rfl)) (mvT hZL (own_w hw 39 rfl)) (notFace_of_selects (args := #[]) (mvT hZL (own_w hw 41 rfl))) (mvT hZL (own_w hw 41 rfl)) (mvT hZL (own_w hw 40 rfl)) (by decide) (backOf (W := 1) (rm8 l Z a0 hw [] a1 ta kt M cd0 cs gz gf H n0 ZH OH hst (TT.keep KH List.not_mem_nil List.not_mem_nil)) hZL (own_w hw 42 rfl) (own_w hw 4 rfl) (by decide) (by decide)) q23a q23c (g := (mkF m 23 #[.val (.ref a1), .val (.ref b00), .val (.int i), x3] [(.ref a1), (.int i)])) rfl (by rw [hml]; rfl) (Steps.refl _) (argsL := []) (rest := [(.int i)]) (lenOf pd_7_0 rfl) rfl (Nat.le_of_eq rfl) (hb hby d7_23) (fun _ _ => ⟨rfl, eT, (by show cc + 1 + 0 + 0 ≤ 34; omega), (by show ss + 1 + 0 + 0 ≤ 2150; omega)⟩)
      dsimp only [Pt.U, Pt.locs, Pt.cells, Pt.slots] at X23 l23 y23 z23 st23 hQ23
      subst l23 y23 z23
      obtain ⟨rfl, N23q, hq23⟩ := hQ23
      have N23 := Fr.app NL N23q
      obtain ⟨c23, hc23⟩ : ∃ z : Int32, z = (Int32.ofNat (cs).length) := ⟨_, rfl⟩
      rw [← hc23] at st23
      have nt_c23 : c23 = Int32.ofNat ((cs).length) := hc23
      have sg31 : own_G p e below T23 (mkF m 31 #[.val (.ref a1), .val (.ref b00), .val (.int i), x3] [(.int i), (.ref a1)]) T23 (mkF m 26 #[.val (.ref a1), .val (.ref b00), .val (.int i), x3] [(.int c23), (.int i)]) := by
        intro t k
        refine XS.icmpNo X23.here hx rfl (hb hby d7_26) rfl (tlt ((own_nlt hi nt_c23 (by omega) (by omega)).mpr hll : i < c23)).2.1 ?_
        refine XS.aloadN X23.here hx rfl (hb hby d7_29) rfl rfl ?_
        refine XS.iloadN X23.here hx rfl (hb hby d7_30) rfl ?_
        exact k
      obtain ⟨cq31, kq31, q31a, q31b, q31c⟩ := isOf hZL hq23 (E_s.keep KH)
      obtain ⟨_, _, ⟨T31, L31, k31, n31⟩, -, X31, ⟨Lc31, hQ31, l31, y31, z31⟩, st31⟩ := X23.virtualBack hx (y := own_n47) (z := own_n47) hoL (mvT hZL (own_w hw 89 rfl)) (mvT hZL (own_w hw 90 rfl)) (notFace_of_selects (args := #[]) (mvT hZL (own_w hw 92 rfl))) (mvT hZL (own_w hw 92 rfl)) (mvT hZL (own_w hw 91 rfl)) (by decide) (backOf (W := 0) (rm17 l Z a0 hw [] a1 i ta kt M cd0 cs done.length c gz gf H n0 ZH OH hst (TT.keep KH List.not_mem_nil List.not_mem_nil) hi hq) hZL (own_w hw 93 rfl) (own_w hw 4 rfl) (by decide) (by decide)) q31a q31c (g := (mkF m 31 #[.val (.ref a1), .val (.ref b00), .val (.int i), x3] [(.int i), (.ref a1)])) rfl (by rw [hml]; rfl) (Steps.refl _) (argsL := [(.int i)]) (rest := []) (lenOf pd_7_3 rfl) rfl (Nat.le_of_eq rfl) (hb hby d7_31) (fun _ _ => ⟨rfl, hq23, (by show cc + 1 + 0 + 0 ≤ 34; omega), (by show ss + 1 + 0 + 0 ≤ 2150; omega)⟩)
      dsimp only [Pt.U, Pt.locs, Pt.cells, Pt.slots] at X31 l31 y31 z31 st31 hQ31
      subst l31 y31 z31
      obtain ⟨rfl, N31q, hq31⟩ := hQ31
      have N31 := Fr.app N23 N31q
      have sg38 : own_G p e below T31 (mkF m 38 #[.val (.ref a1), .val (.ref b00), .val (.int i), .val (.int c)] [(.int (34 : Int32)), (.int c)]) T31 (mkF m 34 #[.val (.ref a1), .val (.ref b00), .val (.int i), x3] [(.int c)]) := by
        intro t k
        refine XS.istoreN X31.here hx rfl (hb hby d7_34) rfl (l' := #[.val (.ref a1), .val (.ref b00), .val (.int i), .val (.int c)]) (own_sto rfl o3 rfl rfl) ?_
        refine XS.iloadN X31.here hx rfl (hb hby d7_35) rfl ?_
        refine XS.bipush X31.here hx rfl (hb hby d7_36) ?_
        exact k
      by_cases hc38 : c = (34 : Int32)
      · have sg47 : own_G p e below T31 (mkF m 47 #[.val (.ref a1), .val (.ref b00), .val (.int i), .val (.int c)] []) T31 (mkF m 38 #[.val (.ref a1), .val (.ref b00), .val (.int i), .val (.int c)] [(.int (34 : Int32)), (.int c)]) := by
          intro t k
          refine XS.icmpYes X31.here hx rfl (pc0 := 38) (pc' := 47) rfl (hb hby d7_38) rfl (teq hc38).1 (by decide) (by decide) ?_
          exact k
        have he : own_esc c = [(92 : Int32), c] := by unfold own_esc; rw [if_pos hc38]
        have sg50 : own_G p e below T31 (mkF m 50 #[.val (.ref a1), .val (.ref b00), .val (.int i), .val (.int c)] [(.int (92 : Int32)), (.ref b00)]) T31 (mkF m 47 #[.val (.ref a1), .val (.ref b00), .val (.int i), .val (.int c)] []) := by
          intro t k
          refine XS.aloadN X31.here hx rfl (hb hby d7_47) rfl rfl ?_
          refine XS.bipush X31.here hx rfl (hb hby d7_48) ?_
          exact k
        obtain ⟨cq50, kq50, q50a, q50b, q50c⟩ := isOf hZL hq31 (BBL).1
        obtain ⟨_, _, ⟨T50, L50, k50, n50⟩, -, X50, ⟨Lc50, hQ50, l50, y50, z50⟩, st50⟩ := X31.virtualBack hx (y := own_n50) (z := own_n50) hoL (mvT hZL (own_w hw 63 rfl)) (mvT hZL (own_w hw 64 rfl)) (notFace_of_selects (args := #[]) (mvT hZL (own_w hw 66 rfl))) (mvT hZL (own_w hw 66 rfl)) (mvT hZL (own_w hw 65 rfl)) (by decide) (backOf (W := 0) (rm12 l Z a0 hw [] b00 (92 : Int32) vb kb N cd ([34] ++ done.flatMap own_esc)  gz gf H n0 ZH OH hst BBL hcdL g_b00 g_vb hcapL hlatL (by simp only [List.length_append, List.length_cons, List.length_nil]; omega) (by decide)) hZL (own_w hw 67 rfl) (own_w hw 37 rfl) (by decide) (by decide)) q50a q50c (g := (mkF m 50 #[.val (.ref a1), .val (.ref b00), .val (.int i), .val (.int c)] [(.int (92 : Int32)), (.ref b00)])) rfl (by rw [hml]; rfl) (Steps.refl _) (argsL := [(.int (92 : Int32))]) (rest := []) (lenOf pd_7_2 rfl) rfl (Nat.le_of_eq rfl) (hb hby d7_50) (fun _ _ => ⟨rfl, hq31, (by show cc + 1 + 0 + 2 ≤ 34; omega), (by show ss + 1 + 0 + 170 ≤ 2150; omega)⟩)
        dsimp only [Pt.U, Pt.locs, Pt.cells, Pt.slots] at X50 l50 y50 z50 st50 hQ50
        subst l50 y50 z50
        obtain ⟨v_50, k_50, N_50, d_50, rfl, hv_50, hd_50, N50q, Kq50, BB50, cp_50, lt_50⟩ := hQ50
        have N50 := Fr.app N31 N50q
        have g_v_50 : n0 ≤ v_50 := hv_50.elim (fun q => q ▸ g_vb) (fun q => Nat.le_trans ZH q)
        have sz_v_50 : h0.size ≤ v_50 := hv_50.elim (fun q => q ▸ sz_vb) (fun q => Nat.le_trans KH.1 q)
        have Sv_50 := Safe.keep Kq50 (sfS (Safe.exa hZL.alike (BBL).1 (by decide) (by decide)) (sfS SvL sf0)) CHL (hv_50.elim (fun q => q ▸ SvL) Safe.new : Safe Z consts_1 _ _ v_50)
        have K50 : Keep h0 T50.heap [] := KH.trans Kq50 ((allS (P := fun x => x ∈ [] ∨ h0.size ≤ x) (Or.inr sz_b00) (allS (P := fun x => x ∈ [] ∨ h0.size ≤ x) (Or.inr sz_vb) all0)))
        have Z50 : n0 ≤ T50.heap.size := Nat.le_trans ZH Kq50.1
        have CC50 := CHr.keep Kq50 (sfS (Safe.exa hZL.alike (BBL).1 (by decide) (by decide)) (sfS SvL sf0)) CHL
        have CR50 := CRL.trans CC50
        have sg54 : own_G p e below T50 (mkF m 54 #[.val (.ref a1), .val (.ref b00), .val (.int i), .val (.int c)] [(.int c), (.ref b00)]) T50 (mkF m 53 #[.val (.ref a1), .val (.ref b00), .val (.int i), .val (.int c)] [(.ref b00)]) := by
          intro t k
          refine XS.iloadN X50.here hx rfl (hb hby d7_53) rfl ?_
          exact k
        obtain ⟨cq54, kq54, q54a, q54b, q54c⟩ := isOf hZL rfl (BB50).1
        obtain ⟨_, _, ⟨T54, L54, k54, n54⟩, -, X54, ⟨Lc54, hQ54, l54, y54, z54⟩, st54⟩ := X50.virtualBack hx (y := own_n50) (z := own_n50) hoL (mvT hZL (own_w hw 63 rfl)) (mvT hZL (own_w hw 64 rfl)) (notFace_of_selects (args := #[]) (mvT hZL (own_w hw 66 rfl))) (mvT hZL (own_w hw 66 rfl)) (mvT hZL (own_w hw 65 rfl)) (by decide) (backOf (W := 0) (rm12 l Z a0 hw [] b00 c v_50 k_50 N_50 d_50 ([34] ++ done.flatMap own_esc ++ [(92 : Int32)])  gz gf T50.heap n0 Z50 (OH.keep Kq50 (allS g_b00 (allS g_vb all0))) hst BB50 hd_50 g_b00 g_v_50 cp_50 lt_50 (by simp only [List.length_append, List.length_cons, List.length_nil]; omega) hcc16) hZL (own_w hw 67 rfl) (own_w hw 37 rfl) (by decide) (by decide)) q54a q54c (g := (mkF m 54 #[.val (.ref a1), .val (.ref b00), .val (.int i), .val (.int c)] [(.int c), (.ref b00)])) rfl (by rw [hml]; rfl) (Steps.refl _) (argsL := [(.int c)]) (rest := []) (lenOf pd_7_2 rfl) rfl (Nat.le_of_eq rfl) (hb hby d7_54) (fun _ _ => ⟨rfl, rfl, (by show cc + 1 + 2 + 2 ≤ 34; omega), (by show ss + 1 + 170 + 170 ≤ 2150; omega)⟩)
        dsimp only [Pt.U, Pt.locs, Pt.cells, Pt.slots] at X54 l54 y54 z54 st54 hQ54
        subst l54 y54 z54
        obtain ⟨v_54, k_54, N_54, d_54, rfl, hv_54, hd_54, N54q, Kq54, BB54, cp_54, lt_54⟩ := hQ54
        have N54 := Fr.app N50 N54q
        have g_v_54 : n0 ≤ v_54 := hv_54.elim (fun q => q ▸ g_v_50) (fun q => Nat.le_trans Z50 q)
        have sz_v_54 : h0.size ≤ v_54 := hv_54.elim (fun q => q ▸ sz_v_50) (fun q => Nat.le_trans K50.1 q)
        have Sv_54 := Safe.keep Kq54 (sfS (Safe.exa hZL.alike (BB50).1 (by decide) (by decide)) (sfS Sv_50 sf0)) CC50.1 (hv_54.elim (fun q => q ▸ Sv_50) Safe.new : Safe Z consts_1 _ _ v_54)
        have K54 : Keep h0 T54.heap [] := K50.trans Kq54 ((allS (P := fun x => x ∈ [] ∨ h0.size ≤ x) (Or.inr sz_b00) (allS (P := fun x => x ∈ [] ∨ h0.size ≤ x) (Or.inr sz_v_50) all0)))
        have Z54 : n0 ≤ T54.heap.size := Nat.le_trans Z50 Kq54.1
        have CC54 := CHr.keep Kq54 (sfS (Safe.exa hZL.alike (BB50).1 (by decide) (by decide)) (sfS Sv_50 sf0)) CC50.1
        have CR54 := CR50.trans CC54
        have sg21_2 : own_G p e below T54 (mkF m 21 #[.val (.ref a1), .val (.ref b00), .val (.int (i + (1 : Int32))), .val (.int c)] []) T54 (mkF m 57 #[.val (.ref a1), .val (.ref b00), .val (.int i), .val (.int c)] [(.ref b00)]) := by
          intro t k
          refine XS.pop X54.here hx rfl (hb hby d7_57) rfl rfl ?_
          refine XS.goto X54.here hx rfl (pc0 := 58) (pc' := 104) rfl (hb hby d7_58) (by decide) (by decide) ?_
          refine XS.iinc X54.here hx rfl (hb hby d7_104) rfl (l' := #[.val (.ref a1), .val (.ref b00), .val (.int (i + (1 : Int32))), .val (.int c)]) rfl ?_
          refine XS.goto X54.here hx rfl (pc0 := 107) (pc' := 21) rfl (hb hby d7_107) (by decide) (by decide) ?_
          exact k
        have hcsn : ([34] ++ done.flatMap own_esc ++ [(92 : Int32)] ++ [c] : List Int32) = [34] ++ (done ++ [c]).flatMap own_esc := by simp [List.flatMap_append, he]
        obtain ⟨vm0', ks', T', L', H', vb', kb', N', cd', i', y3, r0, r1, r2, r3, r4, r5, r6, r7, r8, r9, r10, r11, r12, r13, r14, r15, r16, r17, r18, r19, st'⟩ := ih (done ++ [c]) (i + (1 : Int32)) (.val (.int c)) vm0 _ T54 _ T54.heap v_54 k_54 N_54 d_54 (cc + 8) (ss + 530) (by rw [hd]; simp) (by rw [List.length_append]; exact (own_nadd (n := 1) hi (rfl : (1 : Int32) = Int32.ofNat 1))) (by omega) (by omega) (own_one1 rfl) (X54.more (by omega) (by omega)) hZL hoL hSL (Nat.le_trans (Nat.le_trans hkL Kq50.1) Kq54.1) rfl N54 K54 Z54 ((OH.keep Kq50 (allS g_b00 (allS g_vb all0))).keep Kq54 (allS g_b00 (allS g_v_50 all0))) CC54.1 CR54 (by have q := BB54; rw [hcsn] at q; exact q) hd_54 (by have q := cp_54; rw [hcsn] at q; exact q) (by have q := lt_54; rw [hcsn] at q; exact q) Sv_54 g_v_54 sz_v_54
        exact ⟨vm0', ks', T', L', H', vb', kb', N', cd', i', y3, r0, r1, r2, r3, r4, r5, r6, r7, r8, r9, r10, r11, r12, r13, r14, r15, r16, r17, r18, r19, fun t k => (sg23 t ((fun t k => st23.trans k) t (sg31 t ((fun t k => st31.trans k) t (sg38 t (sg47 t (sg50 t ((fun t k => st50.trans k) t (sg54 t ((fun t k => st54.trans k) t (sg21_2 t (st' t k))))))))))))⟩
      · have sg44 : own_G p e below T31 (mkF m 44 #[.val (.ref a1), .val (.ref b00), .val (.int i), .val (.int c)] [(.int (92 : Int32)), (.int c)]) T31 (mkF m 38 #[.val (.ref a1), .val (.ref b00), .val (.int i), .val (.int c)] [(.int (34 : Int32)), (.int c)]) := by
          intro t k
          refine XS.icmpNo X31.here hx rfl (hb hby d7_38) rfl (feq hc38).1 ?_
          refine XS.iloadN X31.here hx rfl (hb hby d7_41) rfl ?_
          refine XS.bipush X31.here hx rfl (hb hby d7_42) ?_
          exact k
        by_cases hc44 : c = (92 : Int32)
        · have sg47 : own_G p e below T31 (mkF m 47 #[.val (.ref a1), .val (.ref b00), .val (.int i), .val (.int c)] []) T31 (mkF m 44 #[.val (.ref a1), .val (.ref b00), .val (.int i), .val (.int c)] [(.int (92 : Int32)), (.int c)]) := by
            intro t k
            refine XS.icmpNo X31.here hx rfl (hb hby d7_44) rfl (teq hc44).2 ?_
            exact k
          have he : own_esc c = [(92 : Int32), c] := by unfold own_esc; rw [if_neg hc38, if_pos hc44]
          have sg50 : own_G p e below T31 (mkF m 50 #[.val (.ref a1), .val (.ref b00), .val (.int i), .val (.int c)] [(.int (92 : Int32)), (.ref b00)]) T31 (mkF m 47 #[.val (.ref a1), .val (.ref b00), .val (.int i), .val (.int c)] []) := by
            intro t k
            refine XS.aloadN X31.here hx rfl (hb hby d7_47) rfl rfl ?_
            refine XS.bipush X31.here hx rfl (hb hby d7_48) ?_
            exact k
          obtain ⟨cq50, kq50, q50a, q50b, q50c⟩ := isOf hZL hq31 (BBL).1
          obtain ⟨_, _, ⟨T50, L50, k50, n50⟩, -, X50, ⟨Lc50, hQ50, l50, y50, z50⟩, st50⟩ := X31.virtualBack hx (y := own_n50) (z := own_n50) hoL (mvT hZL (own_w hw 63 rfl)) (mvT hZL (own_w hw 64 rfl)) (notFace_of_selects (args := #[]) (mvT hZL (own_w hw 66 rfl))) (mvT hZL (own_w hw 66 rfl)) (mvT hZL (own_w hw 65 rfl)) (by decide) (backOf (W := 0) (rm12 l Z a0 hw [] b00 (92 : Int32) vb kb N cd ([34] ++ done.flatMap own_esc)  gz gf H n0 ZH OH hst BBL hcdL g_b00 g_vb hcapL hlatL (by simp only [List.length_append, List.length_cons, List.length_nil]; omega) (by decide)) hZL (own_w hw 67 rfl) (own_w hw 37 rfl) (by decide) (by decide)) q50a q50c (g := (mkF m 50 #[.val (.ref a1), .val (.ref b00), .val (.int i), .val (.int c)] [(.int (92 : Int32)), (.ref b00)])) rfl (by rw [hml]; rfl) (Steps.refl _) (argsL := [(.int (92 : Int32))]) (rest := []) (lenOf pd_7_2 rfl) rfl (Nat.le_of_eq rfl) (hb hby d7_50) (fun _ _ => ⟨rfl, hq31, (by show cc + 1 + 0 + 2 ≤ 34; omega), (by show ss + 1 + 0 + 170 ≤ 2150; omega)⟩)
          dsimp only [Pt.U, Pt.locs, Pt.cells, Pt.slots] at X50 l50 y50 z50 st50 hQ50
          subst l50 y50 z50
          obtain ⟨v_50, k_50, N_50, d_50, rfl, hv_50, hd_50, N50q, Kq50, BB50, cp_50, lt_50⟩ := hQ50
          have N50 := Fr.app N31 N50q
          have g_v_50 : n0 ≤ v_50 := hv_50.elim (fun q => q ▸ g_vb) (fun q => Nat.le_trans ZH q)
          have sz_v_50 : h0.size ≤ v_50 := hv_50.elim (fun q => q ▸ sz_vb) (fun q => Nat.le_trans KH.1 q)
          have Sv_50 := Safe.keep Kq50 (sfS (Safe.exa hZL.alike (BBL).1 (by decide) (by decide)) (sfS SvL sf0)) CHL (hv_50.elim (fun q => q ▸ SvL) Safe.new : Safe Z consts_1 _ _ v_50)
          have K50 : Keep h0 T50.heap [] := KH.trans Kq50 ((allS (P := fun x => x ∈ [] ∨ h0.size ≤ x) (Or.inr sz_b00) (allS (P := fun x => x ∈ [] ∨ h0.size ≤ x) (Or.inr sz_vb) all0)))
          have Z50 : n0 ≤ T50.heap.size := Nat.le_trans ZH Kq50.1
          have CC50 := CHr.keep Kq50 (sfS (Safe.exa hZL.alike (BBL).1 (by decide) (by decide)) (sfS SvL sf0)) CHL
          have CR50 := CRL.trans CC50
          have sg54 : own_G p e below T50 (mkF m 54 #[.val (.ref a1), .val (.ref b00), .val (.int i), .val (.int c)] [(.int c), (.ref b00)]) T50 (mkF m 53 #[.val (.ref a1), .val (.ref b00), .val (.int i), .val (.int c)] [(.ref b00)]) := by
            intro t k
            refine XS.iloadN X50.here hx rfl (hb hby d7_53) rfl ?_
            exact k
          obtain ⟨cq54, kq54, q54a, q54b, q54c⟩ := isOf hZL rfl (BB50).1
          obtain ⟨_, _, ⟨T54, L54, k54, n54⟩, -, X54, ⟨Lc54, hQ54, l54, y54, z54⟩, st54⟩ := X50.virtualBack hx (y := own_n50) (z := own_n50) hoL (mvT hZL (own_w hw 63 rfl)) (mvT hZL (own_w hw 64 rfl)) (notFace_of_selects (args := #[]) (mvT hZL (own_w hw 66 rfl))) (mvT hZL (own_w hw 66 rfl)) (mvT hZL (own_w hw 65 rfl)) (by decide) (backOf (W := 0) (rm12 l Z a0 hw [] b00 c v_50 k_50 N_50 d_50 ([34] ++ done.flatMap own_esc ++ [(92 : Int32)])  gz gf T50.heap n0 Z50 (OH.keep Kq50 (allS g_b00 (allS g_vb all0))) hst BB50 hd_50 g_b00 g_v_50 cp_50 lt_50 (by simp only [List.length_append, List.length_cons, List.length_nil]; omega) hcc16) hZL (own_w hw 67 rfl) (own_w hw 37 rfl) (by decide) (by decide)) q54a q54c (g := (mkF m 54 #[.val (.ref a1), .val (.ref b00), .val (.int i), .val (.int c)] [(.int c), (.ref b00)])) rfl (by rw [hml]; rfl) (Steps.refl _) (argsL := [(.int c)]) (rest := []) (lenOf pd_7_2 rfl) rfl (Nat.le_of_eq rfl) (hb hby d7_54) (fun _ _ => ⟨rfl, rfl, (by show cc + 1 + 2 + 2 ≤ 34; omega), (by show ss + 1 + 170 + 170 ≤ 2150; omega)⟩)
          dsimp only [Pt.U, Pt.locs, Pt.cells, Pt.slots] at X54 l54 y54 z54 st54 hQ54
          subst l54 y54 z54
          obtain ⟨v_54, k_54, N_54, d_54, rfl, hv_54, hd_54, N54q, Kq54, BB54, cp_54, lt_54⟩ := hQ54
          have N54 := Fr.app N50 N54q
          have g_v_54 : n0 ≤ v_54 := hv_54.elim (fun q => q ▸ g_v_50) (fun q => Nat.le_trans Z50 q)
          have sz_v_54 : h0.size ≤ v_54 := hv_54.elim (fun q => q ▸ sz_v_50) (fun q => Nat.le_trans K50.1 q)
          have Sv_54 := Safe.keep Kq54 (sfS (Safe.exa hZL.alike (BB50).1 (by decide) (by decide)) (sfS Sv_50 sf0)) CC50.1 (hv_54.elim (fun q => q ▸ Sv_50) Safe.new : Safe Z consts_1 _ _ v_54)
          have K54 : Keep h0 T54.heap [] := K50.trans Kq54 ((allS (P := fun x => x ∈ [] ∨ h0.size ≤ x) (Or.inr sz_b00) (allS (P := fun x => x ∈ [] ∨ h0.size ≤ x) (Or.inr sz_v_50) all0)))
          have Z54 : n0 ≤ T54.heap.size := Nat.le_trans Z50 Kq54.1
          have CC54 := CHr.keep Kq54 (sfS (Safe.exa hZL.alike (BB50).1 (by decide) (by decide)) (sfS Sv_50 sf0)) CC50.1
          have CR54 := CR50.trans CC54
          have sg21_2 : own_G p e below T54 (mkF m 21 #[.val (.ref a1), .val (.ref b00), .val (.int (i + (1 : Int32))), .val (.int c)] []) T54 (mkF m 57 #[.val (.ref a1), .val (.ref b00), .val (.int i), .val (.int c)] [(.ref b00)]) := by
            intro t k
            refine XS.pop X54.here hx rfl (hb hby d7_57) rfl rfl ?_
            refine XS.goto X54.here hx rfl (pc0 := 58) (pc' := 104) rfl (hb hby d7_58) (by decide) (by decide) ?_
            refine XS.iinc X54.here hx rfl (hb hby d7_104) rfl (l' := #[.val (.ref a1), .val (.ref b00), .val (.int (i + (1 : Int32))), .val (.int c)]) rfl ?_
            refine XS.goto X54.here hx rfl (pc0 := 107) (pc' := 21) rfl (hb hby d7_107) (by decide) (by decide) ?_
            exact k
          have hcsn : ([34] ++ done.flatMap own_esc ++ [(92 : Int32)] ++ [c] : List Int32) = [34] ++ (done ++ [c]).flatMap own_esc := by simp [List.flatMap_append, he]
          obtain ⟨vm0', ks', T', L', H', vb', kb', N', cd', i', y3, r0, r1, r2, r3, r4, r5, r6, r7, r8, r9, r10, r11, r12, r13, r14, r15, r16, r17, r18, r19, st'⟩ := ih (done ++ [c]) (i + (1 : Int32)) (.val (.int c)) vm0 _ T54 _ T54.heap v_54 k_54 N_54 d_54 (cc + 8) (ss + 530) (by rw [hd]; simp) (by rw [List.length_append]; exact (own_nadd (n := 1) hi (rfl : (1 : Int32) = Int32.ofNat 1))) (by omega) (by omega) (own_one1 rfl) (X54.more (by omega) (by omega)) hZL hoL hSL (Nat.le_trans (Nat.le_trans hkL Kq50.1) Kq54.1) rfl N54 K54 Z54 ((OH.keep Kq50 (allS g_b00 (allS g_vb all0))).keep Kq54 (allS g_b00 (allS g_v_50 all0))) CC54.1 CR54 (by have q := BB54; rw [hcsn] at q; exact q) hd_54 (by have q := cp_54; rw [hcsn] at q; exact q) (by have q := lt_54; rw [hcsn] at q; exact q) Sv_54 g_v_54 sz_v_54
          exact ⟨vm0', ks', T', L', H', vb', kb', N', cd', i', y3, r0, r1, r2, r3, r4, r5, r6, r7, r8, r9, r10, r11, r12, r13, r14, r15, r16, r17, r18, r19, fun t k => (sg23 t ((fun t k => st23.trans k) t (sg31 t ((fun t k => st31.trans k) t (sg38 t (sg44 t (sg47 t (sg50 t ((fun t k => st50.trans k) t (sg54 t ((fun t k => st54.trans k) t (sg21_2 t (st' t k)))))))))))))⟩
        · have sg64 : own_G p e below T31 (mkF m 64 #[.val (.ref a1), .val (.ref b00), .val (.int i), .val (.int c)] [(.int (32 : Int32)), (.int c)]) T31 (mkF m 44 #[.val (.ref a1), .val (.ref b00), .val (.int i), .val (.int c)] [(.int (92 : Int32)), (.int c)]) := by
            intro t k
            refine XS.icmpYes X31.here hx rfl (pc0 := 44) (pc' := 61) rfl (hb hby d7_44) rfl (feq hc44).2 (by decide) (by decide) ?_
            refine XS.iloadN X31.here hx rfl (hb hby d7_61) rfl ?_
            refine XS.bipush X31.here hx rfl (hb hby d7_62) ?_
            exact k
          by_cases hc64 : c < (32 : Int32)
          · have sg67 : own_G p e below T31 (mkF m 67 #[.val (.ref a1), .val (.ref b00), .val (.int i), .val (.int c)] []) T31 (mkF m 64 #[.val (.ref a1), .val (.ref b00), .val (.int i), .val (.int c)] [(.int (32 : Int32)), (.int c)]) := by
              intro t k
              refine XS.icmpNo X31.here hx rfl (hb hby d7_64) rfl (tlt hc64).2.1 ?_
              exact k
            have he : own_esc c = [(92 : Int32), (117 : Int32), (48 : Int32), (48 : Int32), (own_hx (c >>> ((4 : Int32) &&& 31))), (own_hx (c &&& (15 : Int32)))] := by unfold own_esc; rw [if_neg hc38, if_neg hc44, if_pos hc64]
            obtain ⟨⟨q1, hq1, eq1⟩, q2, hq2, eq2⟩ := own_ix4 hcc16.1 hc64
            obtain ⟨clH, ArH, hH16, hHg⟩ := hHX
            have sg68 : own_G p e below T31 (mkF m 68 #[.val (.ref a1), .val (.ref b00), .val (.int i), .val (.int c)] [(.ref b00)]) T31 (mkF m 67 #[.val (.ref a1), .val (.ref b00), .val (.int i), .val (.int c)] []) := by
              intro t k
              refine XS.aloadN X31.here hx rfl (hb hby d7_67) rfl rfl ?_
              exact k
            obtain ⟨l68a, T68, h68, ks68, lb68, lk68, X68, e68, E68, hS68, hk68, hZ68, hown68, lE68, lC68, lV68, lA68, la168, la268, hC68, -, hsf68, st68⟩ := ldcCH X31 hx hZL hoL (own_w hw 110 rfl) wS hq31 hSL hkL hEL (by decide) CHL (vs := [(.int (92 : Int32)), (.int (117 : Int32)), (.int (48 : Int32)), (.int (48 : Int32))]) (z := (4 : Int32)) ⟨by decide, by decide⟩ (by decide) (by decide) (g := (mkF m 68 #[.val (.ref a1), .val (.ref b00), .val (.int i), .val (.int c)] [(.ref b00)])) rfl (hb hby d7_68) (n := 16) (by decide) (by decide) (by show cc + 1 + 0 + 2 ≤ 34; omega) (by show ss + 1 + 0 + 20 ≤ 2150; omega)
            have K68 := KH.ext E68
            have Z68 : n0 ≤ h68.size := Nat.le_trans ZH E68.1
            have CR68 := CRL.trans hC68
            have SvC := hC68.safe (BBL).2.2.2.2.2.2.lt SvL
            have BBC := (BBL).keep ((Keep.refl _ []).ext E68) List.not_mem_nil List.not_mem_nil
            obtain ⟨cq70, kq70, q70a, q70b, q70c⟩ := isOf hZ68 e68 BBC.1
            obtain ⟨_, _, ⟨T70, L70, k70, n70⟩, -, X70, ⟨Lc70, hQ70, l70, y70, z70⟩, st70⟩ := X68.virtualBack hx (y := own_n51) (z := own_n51) hown68 (mvT hZ68 (own_w hw 113 rfl)) (mvT hZ68 (own_w hw 114 rfl)) (notFace_of_selects (args := #[]) (mvT hZ68 (own_w hw 116 rfl))) (mvT hZ68 (own_w hw 116 rfl)) (mvT hZ68 (own_w hw 115 rfl)) (by decide) (backOf (W := 0) (rm22 l Z a0 hw [] b00 l68a vb kb N cd ([34] ++ done.flatMap own_esc) lb68 lk68 gz gf h68 n0 Z68 (OH.ext E68) hst BBC hcdL g_b00 g_vb hcapL hlatL (by simp only [List.length_append, List.length_cons, List.length_nil]; omega) lE68 lV68 lC68 (by exact lA68) (hsf68 _ SvC).2.symm) hZ68 (own_w hw 117 rfl) (own_w hw 37 rfl) (by decide) (by decide)) q70a q70c (g := (mkF m 70 #[.val (.ref a1), .val (.ref b00), .val (.int i), .val (.int c)] [(.ref l68a), (.ref b00)])) rfl (by rw [hml]; rfl) (Steps.refl _) (argsL := [(.ref l68a)]) (rest := []) (lenOf pd_7_4 rfl) rfl (Nat.le_of_eq rfl) (hb hby d7_70) (fun _ _ => ⟨rfl, e68, (by show cc + 1 + 2 + 1 ≤ 34; omega), (by show ss + 1 + 20 + 86 ≤ 2150; omega)⟩)
            dsimp only [Pt.U, Pt.locs, Pt.cells, Pt.slots] at X70 l70 y70 z70 st70 hQ70
            subst l70 y70 z70
            obtain ⟨v_70, k_70, N_70, d_70, rfl, hv_70, hd_70, N70q, Kq70, BB70, cp_70, lt_70⟩ := hQ70
            have N70 := Fr.app N31 N70q
            have g_v_70 : n0 ≤ v_70 := hv_70.elim (fun q => q ▸ g_vb) (fun q => Nat.le_trans Z68 q)
            have sz_v_70 : h0.size ≤ v_70 := hv_70.elim (fun q => q ▸ sz_vb) (fun q => Nat.le_trans K68.1 q)
            have Sv_70 := Safe.keep Kq70 (sfS (Safe.exa hZ68.alike (BBC).1 (by decide) (by decide)) (sfS SvC sf0)) hC68.1 (hv_70.elim (fun q => q ▸ SvC) Safe.new : Safe Z consts_1 _ _ v_70)
            have K70 : Keep h0 T70.heap [] := K68.trans Kq70 ((allS (P := fun x => x ∈ [] ∨ h0.size ≤ x) (Or.inr sz_b00) (allS (P := fun x => x ∈ [] ∨ h0.size ≤ x) (Or.inr sz_vb) all0)))
            have Z70 : n0 ≤ T70.heap.size := Nat.le_trans Z68 Kq70.1
            have CC70 := CHr.keep Kq70 (sfS (Safe.exa hZ68.alike (BBC).1 (by decide) (by decide)) (sfS SvC sf0)) hC68.1
            have CR70 := CR68.trans CC70
            obtain ⟨T73, X73, e73, st73⟩ := getS2 X70 hx hZ68 hown68 (host := "") (Or.inl (own_w hw 166 rfl)) Via.refl rfl (S_H.ext ((OH.ext E68).keep Kq70 (allS g_b00 (allS g_vb all0))).2) (g := (mkF m 73 #[.val (.ref a1), .val (.ref b00), .val (.int i), .val (.int c)] [(.ref b00)])) rfl (hb hby d7_73)
            have sg79 : own_G p e below T73 (mkF m 79 #[.val (.ref a1), .val (.ref b00), .val (.int i), .val (.int c)] [(.int (c >>> ((4 : Int32) &&& 31))), (.ref wH), (.ref b00)]) T73 (mkF m 76 #[.val (.ref a1), .val (.ref b00), .val (.int i), .val (.int c)] [(.ref wH), (.ref b00)]) := by
              intro t k
              refine XS.iloadN X73.here hx rfl (hb hby d7_76) rfl ?_
              refine XS.iconst X73.here hx rfl (hb hby d7_77) ?_
              refine XS.ishr X73.here hx rfl (hb hby d7_78) rfl ?_
              exact k
            obtain ⟨jx, hjx⟩ : ∃ z : Int32, z = (c >>> ((4 : Int32) &&& 31)) := ⟨_, rfl⟩
            have sg79_2 : own_G p e below T73 (mkF m 79 #[.val (.ref a1), .val (.ref b00), .val (.int i), .val (.int c)] [(.int jx), (.ref wH), (.ref b00)]) T73 (mkF m 79 #[.val (.ref a1), .val (.ref b00), .val (.int i), .val (.int c)] [(.int (c >>> ((4 : Int32) &&& 31))), (.ref wH), (.ref b00)]) := by
              intro t k
              rw [hjx] at k
              exact k
            have jn1 : jx = Int32.ofNat q1 := by rw [hjx]; exact eq1
            have ib79 : ¬ (jx < 0 ∨ clH.slots.size ≤ jx.toNatClampNeg) := by rw [hH16, own_ntc jn1 (by omega)]; exact fun q => q.elim (own_nge jn1 (by omega)) (by omega)
            obtain ⟨hxv1, hhxv1⟩ : ∃ z : Int32, z = own_hx (Int32.ofNat q1) := ⟨_, rfl⟩
            have hc_hxv1 : ¬ hxv1 < 0 ∧ ¬ (65535 : Int32) < hxv1 := by rw [hhxv1]; exact own_up1 (own_hx16 q1 hq1)
            have sg80 : own_G p e below T73 (mkF m 80 #[.val (.ref a1), .val (.ref b00), .val (.int i), .val (.int c)] [(.int hxv1), (.ref b00)]) T73 (mkF m 79 #[.val (.ref a1), .val (.ref b00), .val (.int i), .val (.int c)] [(.int jx), (.ref wH), (.ref b00)]) := by
              intro t k
              refine X73.caload hx (j := jx) (v := (.int hxv1)) (by rw [e73]; exact (ArH.ext ((OH.ext E68).keep Kq70 (allS g_b00 (allS g_vb all0))).2).1) (State.isArrayOf_alike hZ68.alike (ArH.ext ((OH.ext E68).keep Kq70 (allS g_b00 (allS g_vb all0))).2).2.1) (ArH.ext ((OH.ext E68).keep Kq70 (allS g_b00 (allS g_vb all0))).2).2.2 ib79 (by rw [own_ntc jn1 (by omega), hhxv1]; exact hHg q1 hq1) (g := (mkF m 79 #[.val (.ref a1), .val (.ref b00), .val (.int i), .val (.int c)] [(.int jx), (.ref wH), (.ref b00)])) rfl rfl (hb hby d7_79) _ ?_
              exact k
            obtain ⟨cq80, kq80, q80a, q80b, q80c⟩ := isOf hZ68 e73 (BB70).1
            obtain ⟨_, _, ⟨T80, L80, k80, n80⟩, -, X80, ⟨Lc80, hQ80, l80, y80, z80⟩, st80⟩ := X73.virtualBack hx (y := own_n50) (z := own_n50) hown68 (mvT hZ68 (own_w hw 63 rfl)) (mvT hZ68 (own_w hw 64 rfl)) (notFace_of_selects (args := #[]) (mvT hZ68 (own_w hw 66 rfl))) (mvT hZ68 (own_w hw 66 rfl)) (mvT hZ68 (own_w hw 65 rfl)) (by decide) (backOf (W := 0) (rm12 l Z a0 hw [] b00 hxv1 v_70 k_70 N_70 d_70 ([34] ++ done.flatMap own_esc ++ ([92, 117, 48, 48] : List Int32))  gz gf T70.heap n0 Z70 ((OH.ext E68).keep Kq70 (allS g_b00 (allS g_vb all0))) hst BB70 hd_70 g_b00 g_v_70 cp_70 lt_70 (by simp only [List.length_append, List.length_cons, List.length_nil]; omega) hc_hxv1) hZ68 (own_w hw 67 rfl) (own_w hw 37 rfl) (by decide) (by decide)) q80a q80c (g := (mkF m 80 #[.val (.ref a1), .val (.ref b00), .val (.int i), .val (.int c)] [(.int hxv1), (.ref b00)])) rfl (by rw [hml]; rfl) (Steps.refl _) (argsL := [(.int hxv1)]) (rest := []) (lenOf pd_7_2 rfl) rfl (Nat.le_of_eq rfl) (hb hby d7_80) (fun _ _ => ⟨rfl, e73, (by show cc + 1 + 3 + 2 ≤ 34; omega), (by show ss + 1 + 106 + 170 ≤ 2150; omega)⟩)
            dsimp only [Pt.U, Pt.locs, Pt.cells, Pt.slots] at X80 l80 y80 z80 st80 hQ80
            subst l80 y80 z80
            obtain ⟨v_80, k_80, N_80, d_80, rfl, hv_80, hd_80, N80q, Kq80, BB80, cp_80, lt_80⟩ := hQ80
            have N80 := Fr.app N70 N80q
            have g_v_80 : n0 ≤ v_80 := hv_80.elim (fun q => q ▸ g_v_70) (fun q => Nat.le_trans Z70 q)
            have sz_v_80 : h0.size ≤ v_80 := hv_80.elim (fun q => q ▸ sz_v_70) (fun q => Nat.le_trans K70.1 q)
            have Sv_80 := Safe.keep Kq80 (sfS (Safe.exa hZ68.alike (BB70).1 (by decide) (by decide)) (sfS Sv_70 sf0)) CC70.1 (hv_80.elim (fun q => q ▸ Sv_70) Safe.new : Safe Z consts_1 _ _ v_80)
            have K80 : Keep h0 T80.heap [] := K70.trans Kq80 ((allS (P := fun x => x ∈ [] ∨ h0.size ≤ x) (Or.inr sz_b00) (allS (P := fun x => x ∈ [] ∨ h0.size ≤ x) (Or.inr sz_v_70) all0)))
            have Z80 : n0 ≤ T80.heap.size := Nat.le_trans Z70 Kq80.1
            have CC80 := CHr.keep Kq80 (sfS (Safe.exa hZ68.alike (BB70).1 (by decide) (by decide)) (sfS Sv_70 sf0)) CC70.1
            have CR80 := CR70.trans CC80
            obtain ⟨T83, X83, e83, st83⟩ := getS2 X80 hx hZ68 hown68 (host := "") (Or.inl (own_w hw 166 rfl)) Via.refl rfl (S_H.ext (((OH.ext E68).keep Kq70 (allS g_b00 (allS g_vb all0))).keep Kq80 (allS g_b00 (allS g_v_70 all0))).2) (g := (mkF m 83 #[.val (.ref a1), .val (.ref b00), .val (.int i), .val (.int c)] [(.ref b00)])) rfl (hb hby d7_83)
            have sg90 : own_G p e below T83 (mkF m 90 #[.val (.ref a1), .val (.ref b00), .val (.int i), .val (.int c)] [(.int (c &&& (15 : Int32))), (.ref wH), (.ref b00)]) T83 (mkF m 86 #[.val (.ref a1), .val (.ref b00), .val (.int i), .val (.int c)] [(.ref wH), (.ref b00)]) := by
              intro t k
              refine XS.iloadN X83.here hx rfl (hb hby d7_86) rfl ?_
              refine XS.bipush X83.here hx rfl (hb hby d7_87) ?_
              refine XS.iand X83.here hx rfl (hb hby d7_89) rfl ?_
              exact k
            obtain ⟨jx_2, hjx_2⟩ : ∃ z : Int32, z = (c &&& (15 : Int32)) := ⟨_, rfl⟩
            have sg90_2 : own_G p e below T83 (mkF m 90 #[.val (.ref a1), .val (.ref b00), .val (.int i), .val (.int c)] [(.int jx_2), (.ref wH), (.ref b00)]) T83 (mkF m 90 #[.val (.ref a1), .val (.ref b00), .val (.int i), .val (.int c)] [(.int (c &&& (15 : Int32))), (.ref wH), (.ref b00)]) := by
              intro t k
              rw [hjx_2] at k
              exact k
            have jn2 : jx_2 = Int32.ofNat q2 := by rw [hjx_2]; exact eq2
            have ib90 : ¬ (jx_2 < 0 ∨ clH.slots.size ≤ jx_2.toNatClampNeg) := by rw [hH16, own_ntc jn2 (by omega)]; exact fun q => q.elim (own_nge jn2 (by omega)) (by omega)
            obtain ⟨hxv2, hhxv2⟩ : ∃ z : Int32, z = own_hx (Int32.ofNat q2) := ⟨_, rfl⟩
            have hc_hxv2 : ¬ hxv2 < 0 ∧ ¬ (65535 : Int32) < hxv2 := by rw [hhxv2]; exact own_up1 (own_hx16 q2 hq2)
            have sg91 : own_G p e below T83 (mkF m 91 #[.val (.ref a1), .val (.ref b00), .val (.int i), .val (.int c)] [(.int hxv2), (.ref b00)]) T83 (mkF m 90 #[.val (.ref a1), .val (.ref b00), .val (.int i), .val (.int c)] [(.int jx_2), (.ref wH), (.ref b00)]) := by
              intro t k
              refine X83.caload hx (j := jx_2) (v := (.int hxv2)) (by rw [e83]; exact (ArH.ext (((OH.ext E68).keep Kq70 (allS g_b00 (allS g_vb all0))).keep Kq80 (allS g_b00 (allS g_v_70 all0))).2).1) (State.isArrayOf_alike hZ68.alike (ArH.ext (((OH.ext E68).keep Kq70 (allS g_b00 (allS g_vb all0))).keep Kq80 (allS g_b00 (allS g_v_70 all0))).2).2.1) (ArH.ext (((OH.ext E68).keep Kq70 (allS g_b00 (allS g_vb all0))).keep Kq80 (allS g_b00 (allS g_v_70 all0))).2).2.2 ib90 (by rw [own_ntc jn2 (by omega), hhxv2]; exact hHg q2 hq2) (g := (mkF m 90 #[.val (.ref a1), .val (.ref b00), .val (.int i), .val (.int c)] [(.int jx_2), (.ref wH), (.ref b00)])) rfl rfl (hb hby d7_90) _ ?_
              exact k
            obtain ⟨cq91, kq91, q91a, q91b, q91c⟩ := isOf hZ68 e83 (BB80).1
            obtain ⟨_, _, ⟨T91, L91, k91, n91⟩, -, X91, ⟨Lc91, hQ91, l91, y91, z91⟩, st91⟩ := X83.virtualBack hx (y := own_n50) (z := own_n50) hown68 (mvT hZ68 (own_w hw 63 rfl)) (mvT hZ68 (own_w hw 64 rfl)) (notFace_of_selects (args := #[]) (mvT hZ68 (own_w hw 66 rfl))) (mvT hZ68 (own_w hw 66 rfl)) (mvT hZ68 (own_w hw 65 rfl)) (by decide) (backOf (W := 0) (rm12 l Z a0 hw [] b00 hxv2 v_80 k_80 N_80 d_80 ([34] ++ done.flatMap own_esc ++ ([92, 117, 48, 48] : List Int32) ++ [hxv1])  gz gf T80.heap n0 Z80 (((OH.ext E68).keep Kq70 (allS g_b00 (allS g_vb all0))).keep Kq80 (allS g_b00 (allS g_v_70 all0))) hst BB80 hd_80 g_b00 g_v_80 cp_80 lt_80 (by simp only [List.length_append, List.length_cons, List.length_nil]; omega) hc_hxv2) hZ68 (own_w hw 67 rfl) (own_w hw 37 rfl) (by decide) (by decide)) q91a q91c (g := (mkF m 91 #[.val (.ref a1), .val (.ref b00), .val (.int i), .val (.int c)] [(.int hxv2), (.ref b00)])) rfl (by rw [hml]; rfl) (Steps.refl _) (argsL := [(.int hxv2)]) (rest := []) (lenOf pd_7_2 rfl) rfl (Nat.le_of_eq rfl) (hb hby d7_91) (fun _ _ => ⟨rfl, e83, (by show cc + 1 + 5 + 2 ≤ 34; omega), (by show ss + 1 + 276 + 170 ≤ 2150; omega)⟩)
            dsimp only [Pt.U, Pt.locs, Pt.cells, Pt.slots] at X91 l91 y91 z91 st91 hQ91
            subst l91 y91 z91
            obtain ⟨v_91, k_91, N_91, d_91, rfl, hv_91, hd_91, N91q, Kq91, BB91, cp_91, lt_91⟩ := hQ91
            have N91 := Fr.app N80 N91q
            have g_v_91 : n0 ≤ v_91 := hv_91.elim (fun q => q ▸ g_v_80) (fun q => Nat.le_trans Z80 q)
            have sz_v_91 : h0.size ≤ v_91 := hv_91.elim (fun q => q ▸ sz_v_80) (fun q => Nat.le_trans K80.1 q)
            have Sv_91 := Safe.keep Kq91 (sfS (Safe.exa hZ68.alike (BB80).1 (by decide) (by decide)) (sfS Sv_80 sf0)) CC80.1 (hv_91.elim (fun q => q ▸ Sv_80) Safe.new : Safe Z consts_1 _ _ v_91)
            have K91 : Keep h0 T91.heap [] := K80.trans Kq91 ((allS (P := fun x => x ∈ [] ∨ h0.size ≤ x) (Or.inr sz_b00) (allS (P := fun x => x ∈ [] ∨ h0.size ≤ x) (Or.inr sz_v_80) all0)))
            have Z91 : n0 ≤ T91.heap.size := Nat.le_trans Z80 Kq91.1
            have CC91 := CHr.keep Kq91 (sfS (Safe.exa hZ68.alike (BB80).1 (by decide) (by decide)) (sfS Sv_80 sf0)) CC80.1
            have CR91 := CR80.trans CC91
            have sg21_2 : own_G p e below T91 (mkF m 21 #[.val (.ref a1), .val (.ref b00), .val (.int (i + (1 : Int32))), .val (.int c)] []) T91 (mkF m 94 #[.val (.ref a1), .val (.ref b00), .val (.int i), .val (.int c)] [(.ref b00)]) := by
              intro t k
              refine XS.pop X91.here hx rfl (hb hby d7_94) rfl rfl ?_
              refine XS.goto X91.here hx rfl (pc0 := 95) (pc' := 104) rfl (hb hby d7_95) (by decide) (by decide) ?_
              refine XS.iinc X91.here hx rfl (hb hby d7_104) rfl (l' := #[.val (.ref a1), .val (.ref b00), .val (.int (i + (1 : Int32))), .val (.int c)]) rfl ?_
              refine XS.goto X91.here hx rfl (pc0 := 107) (pc' := 21) rfl (hb hby d7_107) (by decide) (by decide) ?_
              exact k
            have hcsn : ([34] ++ done.flatMap own_esc ++ ([92, 117, 48, 48] : List Int32) ++ [hxv1] ++ [hxv2] : List Int32) = [34] ++ (done ++ [c]).flatMap own_esc := by rw [hhxv1, hhxv2, ← eq1, ← eq2]; simp [List.flatMap_append, he]
            obtain ⟨vm0', ks', T', L', H', vb', kb', N', cd', i', y3, r0, r1, r2, r3, r4, r5, r6, r7, r8, r9, r10, r11, r12, r13, r14, r15, r16, r17, r18, r19, st'⟩ := ih (done ++ [c]) (i + (1 : Int32)) (.val (.int c)) T68.vm _ T91 _ T91.heap v_91 k_91 N_91 d_91 (cc + 8) (ss + 530) (by rw [hd]; simp) (by rw [List.length_append]; exact (own_nadd (n := 1) hi (rfl : (1 : Int32) = Int32.ofNat 1))) (by omega) (by omega) (own_one1 rfl) (X91.more (by omega) (by omega)) hZ68 hown68 hS68 (Nat.le_trans (Nat.le_trans (Nat.le_trans hk68 Kq70.1) Kq80.1) Kq91.1) rfl N91 K91 Z91 ((((OH.ext E68).keep Kq70 (allS g_b00 (allS g_vb all0))).keep Kq80 (allS g_b00 (allS g_v_70 all0))).keep Kq91 (allS g_b00 (allS g_v_80 all0))) CC91.1 CR91 (by have q := BB91; rw [hcsn] at q; exact q) hd_91 (by have q := cp_91; rw [hcsn] at q; exact q) (by have q := lt_91; rw [hcsn] at q; exact q) Sv_91 g_v_91 sz_v_91
            exact ⟨vm0', ks', T', L', H', vb', kb', N', cd', i', y3, r0, r1, r2, r3, r4, r5, r6, r7, r8, r9, r10, r11, r12, r13, r14, r15, r16, r17, r18, r19, fun t k => (sg23 t ((fun t k => st23.trans k) t (sg31 t ((fun t k => st31.trans k) t (sg38 t (sg44 t (sg64 t (sg67 t (sg68 t (st68 t ((fun t k => st70.trans k) t (st73 t (sg79 t (sg79_2 t (sg80 t ((fun t k => st80.trans k) t (st83 t (sg90 t (sg90_2 t (sg91 t ((fun t k => st91.trans k) t (sg21_2 t (st' t k)))))))))))))))))))))))⟩
          · have sg98 : own_G p e below T31 (mkF m 98 #[.val (.ref a1), .val (.ref b00), .val (.int i), .val (.int c)] []) T31 (mkF m 64 #[.val (.ref a1), .val (.ref b00), .val (.int i), .val (.int c)] [(.int (32 : Int32)), (.int c)]) := by
              intro t k
              refine XS.icmpYes X31.here hx rfl (pc0 := 64) (pc' := 98) rfl (hb hby d7_64) rfl (flt hc64).2.1 (by decide) (by decide) ?_
              exact k
            have he : own_esc c = [c] := by unfold own_esc; rw [if_neg hc38, if_neg hc44, if_neg hc64]
            have sg100 : own_G p e below T31 (mkF m 100 #[.val (.ref a1), .val (.ref b00), .val (.int i), .val (.int c)] [(.int c), (.ref b00)]) T31 (mkF m 98 #[.val (.ref a1), .val (.ref b00), .val (.int i), .val (.int c)] []) := by
              intro t k
              refine XS.aloadN X31.here hx rfl (hb hby d7_98) rfl rfl ?_
              refine XS.iloadN X31.here hx rfl (hb hby d7_99) rfl ?_
              exact k
            obtain ⟨cq100, kq100, q100a, q100b, q100c⟩ := isOf hZL hq31 (BBL).1
            obtain ⟨_, _, ⟨T100, L100, k100, n100⟩, -, X100, ⟨Lc100, hQ100, l100, y100, z100⟩, st100⟩ := X31.virtualBack hx (y := own_n50) (z := own_n50) hoL (mvT hZL (own_w hw 63 rfl)) (mvT hZL (own_w hw 64 rfl)) (notFace_of_selects (args := #[]) (mvT hZL (own_w hw 66 rfl))) (mvT hZL (own_w hw 66 rfl)) (mvT hZL (own_w hw 65 rfl)) (by decide) (backOf (W := 0) (rm12 l Z a0 hw [] b00 c vb kb N cd ([34] ++ done.flatMap own_esc)  gz gf H n0 ZH OH hst BBL hcdL g_b00 g_vb hcapL hlatL (by simp only [List.length_append, List.length_cons, List.length_nil]; omega) hcc16) hZL (own_w hw 67 rfl) (own_w hw 37 rfl) (by decide) (by decide)) q100a q100c (g := (mkF m 100 #[.val (.ref a1), .val (.ref b00), .val (.int i), .val (.int c)] [(.int c), (.ref b00)])) rfl (by rw [hml]; rfl) (Steps.refl _) (argsL := [(.int c)]) (rest := []) (lenOf pd_7_2 rfl) rfl (Nat.le_of_eq rfl) (hb hby d7_100) (fun _ _ => ⟨rfl, hq31, (by show cc + 1 + 0 + 2 ≤ 34; omega), (by show ss + 1 + 0 + 170 ≤ 2150; omega)⟩)
            dsimp only [Pt.U, Pt.locs, Pt.cells, Pt.slots] at X100 l100 y100 z100 st100 hQ100
            subst l100 y100 z100
            obtain ⟨v_100, k_100, N_100, d_100, rfl, hv_100, hd_100, N100q, Kq100, BB100, cp_100, lt_100⟩ := hQ100
            have N100 := Fr.app N31 N100q
            have g_v_100 : n0 ≤ v_100 := hv_100.elim (fun q => q ▸ g_vb) (fun q => Nat.le_trans ZH q)
            have sz_v_100 : h0.size ≤ v_100 := hv_100.elim (fun q => q ▸ sz_vb) (fun q => Nat.le_trans KH.1 q)
            have Sv_100 := Safe.keep Kq100 (sfS (Safe.exa hZL.alike (BBL).1 (by decide) (by decide)) (sfS SvL sf0)) CHL (hv_100.elim (fun q => q ▸ SvL) Safe.new : Safe Z consts_1 _ _ v_100)
            have K100 : Keep h0 T100.heap [] := KH.trans Kq100 ((allS (P := fun x => x ∈ [] ∨ h0.size ≤ x) (Or.inr sz_b00) (allS (P := fun x => x ∈ [] ∨ h0.size ≤ x) (Or.inr sz_vb) all0)))
            have Z100 : n0 ≤ T100.heap.size := Nat.le_trans ZH Kq100.1
            have CC100 := CHr.keep Kq100 (sfS (Safe.exa hZL.alike (BBL).1 (by decide) (by decide)) (sfS SvL sf0)) CHL
            have CR100 := CRL.trans CC100
            have sg21_2 : own_G p e below T100 (mkF m 21 #[.val (.ref a1), .val (.ref b00), .val (.int (i + (1 : Int32))), .val (.int c)] []) T100 (mkF m 103 #[.val (.ref a1), .val (.ref b00), .val (.int i), .val (.int c)] [(.ref b00)]) := by
              intro t k
              refine XS.pop X100.here hx rfl (hb hby d7_103) rfl rfl ?_
              refine XS.iinc X100.here hx rfl (hb hby d7_104) rfl (l' := #[.val (.ref a1), .val (.ref b00), .val (.int (i + (1 : Int32))), .val (.int c)]) rfl ?_
              refine XS.goto X100.here hx rfl (pc0 := 107) (pc' := 21) rfl (hb hby d7_107) (by decide) (by decide) ?_
              exact k
            have hcsn : ([34] ++ done.flatMap own_esc ++ [c] : List Int32) = [34] ++ (done ++ [c]).flatMap own_esc := by simp [List.flatMap_append, he]
            obtain ⟨vm0', ks', T', L', H', vb', kb', N', cd', i', y3, r0, r1, r2, r3, r4, r5, r6, r7, r8, r9, r10, r11, r12, r13, r14, r15, r16, r17, r18, r19, st'⟩ := ih (done ++ [c]) (i + (1 : Int32)) (.val (.int c)) vm0 _ T100 _ T100.heap v_100 k_100 N_100 d_100 (cc + 8) (ss + 530) (by rw [hd]; simp) (by rw [List.length_append]; exact (own_nadd (n := 1) hi (rfl : (1 : Int32) = Int32.ofNat 1))) (by omega) (by omega) (own_one1 rfl) (X100.more (by omega) (by omega)) hZL hoL hSL (Nat.le_trans hkL Kq100.1) rfl N100 K100 Z100 (OH.keep Kq100 (allS g_b00 (allS g_vb all0))) CC100.1 CR100 (by have q := BB100; rw [hcsn] at q; exact q) hd_100 (by have q := cp_100; rw [hcsn] at q; exact q) (by have q := lt_100; rw [hcsn] at q; exact q) Sv_100 g_v_100 sz_v_100
            exact ⟨vm0', ks', T', L', H', vb', kb', N', cd', i', y3, r0, r1, r2, r3, r4, r5, r6, r7, r8, r9, r10, r11, r12, r13, r14, r15, r16, r17, r18, r19, fun t k => (sg23 t ((fun t k => st23.trans k) t (sg31 t ((fun t k => st31.trans k) t (sg38 t (sg44 t (sg64 t (sg98 t (sg100 t ((fun t k => st100.trans k) t (sg21_2 t (st' t k))))))))))))⟩
  obtain ⟨vm1, ks1, T1, L1, H1, vb1, kb1, N1, cd1, i1, y3, hi1, X1, hZL1, hoL1, hSL1, hkL1, eT1, NL1, KH1, ZH1, OH1, CHL1, CRL1, BBL1, hcdL1, hcapL1, hlatL1, SvL1, g_vb1, sz_vb1, stL⟩ := loop cs [] (0 : Int32) .unset s.vm _ T15 _ T15.heap v_15 k_15 N_15 d_15 3 215 rfl rfl (by omega) (by omega) own_one0 X15 hZ hown hS0 (Nat.le_trans (Nat.le_trans (Nat.le_trans (Nat.zero_le _) E00.1) Kq10.1) Kq15.1) rfl N15 K15 Z15 (((O.ext E00).keep Kq10 (allS g_b00 all0)).keep Kq15 (allS g_b00 (allS g_vb all0))) CC15.1 CR15 (by exact BB15) hd_15 cp_15 lt_15 Sv_15 g_v_15 sz_v_15
  have g_vb1 := g_vb1
  have sz_vb1 := sz_vb1
  have hfl := own_fl cs
  refine own_by stL ?_
  have sg23 : own_G p e below T1 (mkF m 23 #[.val (.ref a1), .val (.ref b00), .val (.int i1), y3] [(.ref a1), (.int i1)]) T1 (mkF m 21 #[.val (.ref a1), .val (.ref b00), .val (.int i1), y3] []) := by
    intro t k
    refine XS.iloadN X1.here hx rfl (hb hby d7_21) rfl ?_
    refine XS.aloadN X1.here hx rfl (hb hby d7_22) rfl rfl ?_
    exact k
  refine own_by sg23 ?_
  obtain ⟨cq23, kq23, q23a, q23b, q23c⟩ := isOf hZL1 eT1 (E_s.keep KH1)
  obtain ⟨_, _, ⟨T23, L23, k23, n23⟩, -, X23, ⟨Lc23, hQ23, l23, y23, z23⟩, st23⟩ := X1.virtualBack hx (y := own_n30) (z := own_n30) hoL1 (mvT hZL1 (own_w hw 38 rfl)) (mvT hZL1 (own_w hw 39 rfl)) (notFace_of_selects (args := #[]) (mvT hZL1 (own_w hw 41 rfl))) (mvT hZL1 (own_w hw 41 rfl)) (mvT hZL1 (own_w hw 40 rfl)) (by decide) (backOf (W := 1) (rm8 l Z a0 hw [] a1 ta kt M cd0 cs gz gf H1 n0 ZH1 OH1 hst (TT.keep KH1 List.not_mem_nil List.not_mem_nil)) hZL1 (own_w hw 42 rfl) (own_w hw 4 rfl) (by decide) (by decide)) q23a q23c (g := (mkF m 23 #[.val (.ref a1), .val (.ref b00), .val (.int i1), y3] [(.ref a1), (.int i1)])) rfl (by rw [hml]; rfl) (Steps.refl _) (argsL := []) (rest := [(.int i1)]) (lenOf pd_7_0 rfl) rfl (Nat.le_of_eq rfl) (hb hby d7_23) (fun _ _ => ⟨rfl, eT1, (by decide : 28 + 0 ≤ _), (by decide : 1820 + 0 ≤ _)⟩)
  dsimp only [Pt.U, Pt.locs, Pt.cells, Pt.slots] at X23 l23 y23 z23 st23 hQ23
  subst l23 y23 z23
  obtain ⟨rfl, N23q, hq23⟩ := hQ23
  have N23 := Fr.app NL1 N23q
  obtain ⟨c23, hc23⟩ : ∃ z : Int32, z = (Int32.ofNat (cs).length) := ⟨_, rfl⟩
  rw [← hc23] at st23
  have nt_c23 : c23 = Int32.ofNat ((cs).length) := hc23
  refine own_by (fun t k => st23.trans k) ?_
  have sg113 : own_G p e below T23 (mkF m 113 #[.val (.ref a1), .val (.ref b00), .val (.int i1), y3] [(.int (34 : Int32)), (.ref b00)]) T23 (mkF m 26 #[.val (.ref a1), .val (.ref b00), .val (.int i1), y3] [(.int c23), (.int i1)]) := by
    intro t k
    refine XS.icmpYes X23.here hx rfl (pc0 := 26) (pc' := 110) rfl (hb hby d7_26) rfl (flt ((not_congr (own_nlt hi1 nt_c23 (by omega) (by omega))).mpr (by omega) : ¬ (i1 < c23))).2.1 (by decide) (by decide) ?_
    refine XS.aloadN X23.here hx rfl (hb hby d7_110) rfl rfl ?_
    refine XS.bipush X23.here hx rfl (hb hby d7_111) ?_
    exact k
  refine own_by sg113 ?_
  obtain ⟨cq113, kq113, q113a, q113b, q113c⟩ := isOf hZL1 hq23 (BBL1).1
  obtain ⟨_, _, ⟨T113, L113, k113, n113⟩, -, X113, ⟨Lc113, hQ113, l113, y113, z113⟩, st113⟩ := X23.virtualBack hx (y := own_n50) (z := own_n50) hoL1 (mvT hZL1 (own_w hw 63 rfl)) (mvT hZL1 (own_w hw 64 rfl)) (notFace_of_selects (args := #[]) (mvT hZL1 (own_w hw 66 rfl))) (mvT hZL1 (own_w hw 66 rfl)) (mvT hZL1 (own_w hw 65 rfl)) (by decide) (backOf (W := 0) (rm12 l Z a0 hw [] b00 (34 : Int32) vb1 kb1 N1 cd1 ([34] ++ cs.flatMap own_esc)  gz gf H1 n0 ZH1 OH1 hst BBL1 hcdL1 g_b00 g_vb1 hcapL1 hlatL1 (by simp only [List.length_append, List.length_cons, List.length_nil]; omega) (by decide)) hZL1 (own_w hw 67 rfl) (own_w hw 37 rfl) (by decide) (by decide)) q113a q113c (g := (mkF m 113 #[.val (.ref a1), .val (.ref b00), .val (.int i1), y3] [(.int (34 : Int32)), (.ref b00)])) rfl (by rw [hml]; rfl) (Steps.refl _) (argsL := [(.int (34 : Int32))]) (rest := []) (lenOf pd_7_2 rfl) rfl (Nat.le_of_eq rfl) (hb hby d7_113) (fun _ _ => ⟨rfl, hq23, (by decide : 28 + 2 ≤ _), (by decide : 1820 + 170 ≤ _)⟩)
  dsimp only [Pt.U, Pt.locs, Pt.cells, Pt.slots] at X113 l113 y113 z113 st113 hQ113
  subst l113 y113 z113
  obtain ⟨v_113, k_113, N_113, d_113, rfl, hv_113, hd_113, N113q, Kq113, BB113, cp_113, lt_113⟩ := hQ113
  have N113 := Fr.app N23 N113q
  have g_v_113 : n0 ≤ v_113 := hv_113.elim (fun q => q ▸ g_vb1) (fun q => Nat.le_trans ZH1 q)
  have sz_v_113 : h0.size ≤ v_113 := hv_113.elim (fun q => q ▸ sz_vb1) (fun q => Nat.le_trans KH1.1 q)
  have Sv_113 := Safe.keep Kq113 (sfS (Safe.exa hZL1.alike (BBL1).1 (by decide) (by decide)) (sfS SvL1 sf0)) CHL1 (hv_113.elim (fun q => q ▸ SvL1) Safe.new : Safe Z consts_1 _ _ v_113)
  have K113 : Keep h0 T113.heap [] := KH1.trans Kq113 ((allS (P := fun x => x ∈ [] ∨ h0.size ≤ x) (Or.inr sz_b00) (allS (P := fun x => x ∈ [] ∨ h0.size ≤ x) (Or.inr sz_vb1) all0)))
  have Z113 : n0 ≤ T113.heap.size := Nat.le_trans ZH1 Kq113.1
  have CC113 := CHr.keep Kq113 (sfS (Safe.exa hZL1.alike (BBL1).1 (by decide) (by decide)) (sfS SvL1 sf0)) CHL1
  have CR113 := CRL1.trans CC113
  refine own_by (fun t k => st113.trans k) ?_
  obtain ⟨cq116, kq116, q116a, q116b, q116c⟩ := isOf hZL1 rfl (BB113).1
  obtain ⟨_, _, ⟨T116, L116, k116, n116⟩, -, X116, ⟨Lc116, hQ116, l116, y116, z116⟩, st116⟩ := X113.virtualBack hx (y := own_n52) (z := own_n52) hoL1 (mvT hZL1 (own_w hw 168 rfl)) (mvT hZL1 (own_w hw 169 rfl)) (notFace_of_selects (args := #[]) (mvT hZL1 (own_w hw 171 rfl))) (mvT hZL1 (own_w hw 171 rfl)) (mvT hZL1 (own_w hw 170 rfl)) (by decide) (backOf (W := 0) (rm32 l Z a0 hw [] b00 v_113 k_113 N_113 d_113 (own_json cs) gz gf T113.heap n0 Z113 (OH1.keep Kq113 (allS g_b00 (allS g_vb1 all0))) hst BB113 hd_113 cp_113 lt_113 (own_json16 h16) (by unfold own_json; simp only [List.length_append, List.length_cons, List.length_nil]; omega)) hZL1 (own_w hw 172 rfl) (own_w hw 37 rfl) (by decide) (by decide)) q116a q116c (g := (mkF m 116 #[.val (.ref a1), .val (.ref b00), .val (.int i1), y3] [(.ref b00)])) rfl (by rw [hml]; rfl) (Steps.refl _) (argsL := []) (rest := []) (lenOf pd_7_5 rfl) rfl (Nat.le_of_eq rfl) (hb hby d7_116) (fun _ _ => ⟨rfl, rfl, (by decide : 30 + 2 ≤ _), (by decide : 1990 + 90 ≤ _)⟩)
  dsimp only [Pt.U, Pt.locs, Pt.cells, Pt.slots] at X116 l116 y116 z116 st116 hQ116
  subst l116 y116 z116
  obtain ⟨rr, tt, kt2, M2, rfl, ger, get, N116q, Kq116, TR⟩ := hQ116
  have N116 := Fr.app N113 N116q
  have sz_rr := Nat.le_trans K113.1 ger
  have sz_tt := Nat.le_trans K113.1 get
  have K116 : Keep h0 T116.heap [] := K113.trans Kq116 (fun x hx => nomatch hx)
  have Z116 : n0 ≤ T116.heap.size := Nat.le_trans Z113 Kq116.1
  have CC116 := CHr.keep Kq116 sf0 CC113.1
  have CR116 := CR113.trans CC116
  refine own_by (fun t k => st116.trans k) ?_
  obtain ⟨fs, hr, hrun, hended, hW⟩ := X116.leaveW hSL1 (Nat.le_trans (Nat.le_trans hkL1 Kq113.1) Kq116.1) (v := some (.ref rr)) (fun h => by rw [Bd.returns] at h; cases h)
  refine ⟨_, _, ?_, hrun, hended, _, _, rfl, ?_, (by rw [hh]; show CHr Z consts_1 s.vm h0 T116.vm T116.heap; exact CR116.trans (CHv.at X116 hZL1 hEL CC116.1)), hW.1, hW.2.1, hW.2.2.1, hW.2.2.2.mono (by decide) (by decide)⟩
  · show Steps p.tables e below (T116.setTop (mkF m 119 #[.val (.ref a1), .val (.ref b00), .val (.int i1), y3] [(.ref rr)])) _
    jvm_step X116.here [X116.here.top, hx, (hb hby d7_119), X116.method', Bd.returns, Value.isRef, FieldType.isReference]
    first | (intro acts; rw [hr _ acts rfl rfl rfl]) | rw [hr _ _ rfl rfl rfl]
    exact Steps.refl _
  · show Q7 Z a1 ta kt M cd0 cs wH gz gf h0 n0 _ T116.heap _
    exact ⟨rr, tt, kt2, M2, _, rfl, sz_rr, sz_tt, N116, K116, TR⟩
theorem d2_8 : decode own_b2 8 = .ok (.aload_n 0, 1) := by decide +kernel
theorem d2_9 : decode own_b2 9 = .ok (.ldc 7, 2) := by decide +kernel
theorem d2_11 : decode own_b2 11 = .ok (.getfield 9, 3) := by decide +kernel
theorem d2_14 : decode own_b2 14 = .ok (.putfield 9, 3) := by decide +kernel
theorem d2_17 : decode own_b2 17 = .ok (.aload_n 0, 1) := by decide +kernel
theorem d2_18 : decode own_b2 18 = .ok (.ldc 7, 2) := by decide +kernel
theorem d2_20 : decode own_b2 20 = .ok (.getfield 15, 3) := by decide +kernel
theorem d2_23 : decode own_b2 23 = .ok (.putfield 15, 3) := by decide +kernel
theorem d2_26 : decode own_b2 26 = .ok (.return_, 1) := by decide +kernel
theorem pn_2e : plainFor (⟨"java/lang/String", "<init>", "([CIILjava/lang/Void;)V"⟩ : MethodName) = true := by first | exact plainFor_of_name (by first | (simp [plainName, overriddenIn]; done) | decide +kernel) | decide +kernel | exact Jvm.Free.JP.mathPlain rfl (by decide +kernel)
theorem ef_2e (m : MethodId) (a1 : Addr) (a2 : Addr) : entryFrame m #[(.ref a1), (.ref a2), (.int (0 : Int32)), (.int (0 : Int32)), .null] 6 = mkF m 0 #[.val (.ref a1), .val (.ref a2), .val (.int (0 : Int32)), .val (.int (0 : Int32)), .val .null, .unset] [] := by first | (simp [entryFrame, mkF, argsToLocals, Value.category]; done) | rfl
abbrev own_r2e : Room := { frames := 1, cells := 4, slots := 8, locals := 12 }
def Q2e (Z : State) (a1 : Addr) (a2 : Addr) (h0 : Heap) (n0 : Nat) (v : Option Value) (h : Heap) (L : List Loc) : Prop := v = none ∧ Fr n0 L ∧ Keep h0 h [a1] ∧ ∃ (t : Addr) (kt : ClassId), own_T Z h a1 t kt 0 (0 : Int32) []
theorem rm2e (l : Launch) (Z : State) (a0 : Array Value) (hw : ∀ d ∈ tables_1, d.before a0 Z = true) (ws : List Jvm.Cond) (a1 : Addr) (a2 : Addr) (h0 : Heap) (n0 : Nat) (Z0 : n0 ≤ h0.size) (E_a1 : Exa Z h0 a1 "java/lang/String") (F_v : Fld Z h0 a1 "java/lang/String" "value" "[B" .null) (F_c : Fld Z h0 a1 "java/lang/String" "coder" "B" (.int (0 : Int32))) (g_a1 : n0 ≤ a1) :
    MetFree l own_n46 (head1 (Jvm.Cond.code own_n46 jdk_42_method_149_code 6 none :: ws) own_r2e) (fun a U => a = #[(.ref a1), (.ref a2), (.int (0 : Int32)), (.int (0 : Int32)), .null] ∧ Z.Warmed39 U.vm ∧ U.heap = h0 ∧ CHv Z consts_1 U.vm h0) (fun _ _ _ _ _ => True) (fun _ U o U' => ∃ v L, o = .returned v ∧ Q2e Z a1 a2 h0 n0 v U'.heap L ∧ CHr Z consts_1 U.vm U.heap U'.vm U'.heap ∧ ReturnedEndW U o U' L own_r2e.cells own_r2e.slots) := by
  refine MetFree.of_bodySF pn_2e hisR ?_
  intro p e s m args below meth c s₁ Bd hml0 hP hK
  obtain ⟨rfl, hZ, hh, hH0⟩ := hP
  have hx := Bd.exec
  have hby := Bd.bytes
  have hml : c.maxLocals = 6 := hml0
  have hown : s.vm.findClass "java/lang/String" = some m.cls := findClass_of_methodNamed Bd.named
  have hnm := (name_of_methodNamed Bd.named Bd.method).1
  have X0 : Stand p l e own_r2e (s.setVm s.vm) m #[(.ref a1), (.ref a2), (.int (0 : Int32)), (.int (0 : Int32)), .null] below meth c s₁ [] 0 0 := Stand.of_body Bd
  have e0 : s₁.heap = h0 := by rw [← hh, Bd.state]; rfl
  have N0 := Fr.nil n0
  have hS0 : s.Since s.vm 0 := (State.WarmedH.refl s).since 0
  refine own_at (castTop (ef_2e m a1 a2)) ?_
  have K0 := Keep.refl h0 [a1]
  have wS : ∀ a ∈ Bundle.stringAtoms, a.before a0 Z = true := fun d hd => hw d ((by decide +kernel : ∀ d ∈ Bundle.stringAtoms, d ∈ tables_1) d hd)
  have hEL : EW _ _ consts_1 := (EW.cons (own_w hw 110 rfl) (by decide) (EW.cons (own_w hw 224 rfl) (by decide) EW.nil))
  have hZ0 : Z.Warmed39 s.vm := hZ
  have sg1 : own_G p e below s₁ (mkF m 1 (own_ARRIINU a1 a2 (0 : Int32) (0 : Int32)) [(.ref a1)]) s₁ (mkF m 0 (own_ARRIINU a1 a2 (0 : Int32) (0 : Int32)) []) := by
    intro t k
    refine XS.aloadN X0.here hx rfl (hb hby d2_0) rfl rfl ?_
    exact k
  refine own_by sg1 ?_
  obtain ⟨T1, X1, e1, st1⟩ := initO X0 hx hZ hown (own_w hw 12 rfl) (own_w hw 13 rfl) (own_w hw 14 rfl) e0 (g := (mkF m 1 (own_ARRIINU a1 a2 (0 : Int32) (0 : Int32)) [(.ref a1)])) rfl (by rw [hml]; rfl) rfl (hb hby d2_1) (by decide) (W := 0) (by show 2 * 0 + _ ≤ _; exact Nat.le_of_eq rfl) (by decide)
  refine own_by st1 ?_
  have sg9 : own_G p e below T1 (mkF m 9 (own_ARRIINU a1 a2 (0 : Int32) (0 : Int32)) [(.ref a1)]) T1 (mkF m 4 (own_ARRIINU a1 a2 (0 : Int32) (0 : Int32)) []) := by
    intro t k
    refine XS.iloadN X1.here hx rfl (hb hby d2_4) rfl ?_
    refine XS.ifNo X1.here hx rfl (hb hby d2_5) rfl ((if0 _ _).trans (teq (by decide : (0 : Int32) = (0 : Int32))).2) ?_
    refine XS.aloadN X1.here hx rfl (hb hby d2_8) rfl rfl ?_
    exact k
  refine own_by sg9 ?_
  obtain ⟨l9a, T9, h9, ks9, lb9, lk9, X9, e9, E9, hS9, hk9, hZ9, hown9, lE9, lC9, lV9, lA9, la19, la29, hC9, -, hsf9, st9⟩ := ldcCH X1 hx hZ hown (own_w hw 224 rfl) wS e1 hS0 (Nat.zero_le _) hEL (by decide) hH0 (vs := []) (z := (0 : Int32)) ⟨by decide, by decide⟩ (by decide) (by decide) (g := (mkF m 9 (own_ARRIINU a1 a2 (0 : Int32) (0 : Int32)) [(.ref a1)])) rfl (hb hby d2_9) (n := 0) (by decide) (by decide) (by decide : 0 + 2 ≤ _) (by decide : 0 + 4 ≤ _)
  have K9 := K0.ext E9
  have Z9 : n0 ≤ h9.size := Nat.le_trans Z0 E9.1
  have CR9 := (CHr.refl hH0).trans hC9
  have sf9 := hC9.safe E_a1.lt (own_safe0 (vm := s.vm) hZ0.alike E_a1 F_v (own_w hw 3 rfl))
  obtain ⟨ne_a1_l9a, ne_a1_lb9⟩ := hsf9 _ sf9
  refine own_by st9 ?_
  obtain ⟨T11, X11, e11, st11⟩ := getF X9 hx hZ9 hown9 (host := "") (Or.inl (own_w hw 29 rfl)) Via.refl e9 lV9 (g := (mkF m 11 (own_ARRIINU a1 a2 (0 : Int32) (0 : Int32)) [(.ref l9a), (.ref a1)])) rfl rfl (hb hby d2_11)
  refine own_by st11 ?_
  obtain ⟨T14, h14, X14, e14, W14, st14⟩ := putF X11 hx hZ9 hown9 (host := "") (Or.inl (own_w hw 29 rfl)) Via.refl e11 (F_v.ext E9) (E_a1.ext E9) (Or.inr ⟨(own_w hw 30 rfl), rfl, hnm⟩) (own_w hw 3 rfl) (ty := (.array .byte)) (by decide) rfl rfl (g := (mkF m 14 (own_ARRIINU a1 a2 (0 : Int32) (0 : Int32)) [(.ref lb9), (.ref a1)])) rfl rfl (hb hby d2_14)
  have Fw14 := (F_v.ext E9).same W14
  have fc := ((F_c.ext E9).other W14 (Or.inr (slot_ne (Or.inr (own_w hw 28 rfl)) (Or.inr (own_w hw 30 rfl)) (by decide) (t := .byte) (t' := (.array .byte)) (by decide) (by decide))))
  have K14 : Keep h0 h14 [a1] := K9.wr W14 (Or.inl (List.mem_of_getElem? (i := 0) rfl))
  have Z14 : n0 ≤ h14.size := Nat.le_trans Z9 (Keep.of_wr W14).1
  have CC14 := CHr.wr W14 sf9 hC9.1
  have CR14 := CR9.trans CC14
  have N14 := Fr.snoc X14 N0 g_a1
  refine own_by st14 ?_
  have sf14 := Safe.wr W14 sf9 hC9.1 sf9
  have lt14 := ((E_a1.ext E9).wr W14).lt
  have sg18 : own_G p e below T14 (mkF m 18 (own_ARRIINU a1 a2 (0 : Int32) (0 : Int32)) [(.ref a1)]) T14 (mkF m 17 (own_ARRIINU a1 a2 (0 : Int32) (0 : Int32)) []) := by
    intro t k
    refine XS.aloadN X14.here hx rfl (hb hby d2_17) rfl rfl ?_
    exact k
  refine own_by sg18 ?_
  obtain ⟨l18a, T18, h18, ks18, lb18, lk18, X18, e18, E18, hS18, hk18, hZ18, hown18, lE18, lC18, lV18, lA18, la118, la218, hC18, -, hsf18, st18⟩ := ldcCH X14 hx hZ9 hown9 (own_w hw 224 rfl) wS e14 hS9 (Nat.le_trans hk9 (Keep.of_wr W14).1) hEL (by decide) CC14.1 (vs := []) (z := (0 : Int32)) ⟨by decide, by decide⟩ (by decide) (by decide) (g := (mkF m 18 (own_ARRIINU a1 a2 (0 : Int32) (0 : Int32)) [(.ref a1)])) rfl (hb hby d2_18) (n := 0) (by decide) (by decide) (by decide : 2 + 2 ≤ _) (by decide : 4 + 4 ≤ _)
  have K18 := K14.ext E18
  have Z18 : n0 ≤ h18.size := Nat.le_trans Z14 E18.1
  have CR18 := CR14.trans hC18
  have sf18 := hC18.safe lt14 sf14
  obtain ⟨ne_a1_l18a, ne_a1_lb18⟩ := hsf18 _ sf18
  refine own_by st18 ?_
  obtain ⟨T20, X20, e20, st20⟩ := getF X18 hx hZ18 hown18 (host := "") (Or.inl (own_w hw 27 rfl)) Via.refl e18 lC18 (g := (mkF m 20 (own_ARRIINU a1 a2 (0 : Int32) (0 : Int32)) [(.ref l18a), (.ref a1)])) rfl rfl (hb hby d2_20)
  refine own_by st20 ?_
  obtain ⟨T23, h23, X23, e23, W23, st23⟩ := putF X20 hx hZ18 hown18 (host := "") (Or.inl (own_w hw 27 rfl)) Via.refl e20 (fc.ext E18) (((E_a1.ext E9).wr W14).ext E18) (Or.inr ⟨(own_w hw 28 rfl), rfl, hnm⟩) (own_w hw 3 rfl) (ty := .byte) (by decide) rfl rfl (g := (mkF m 23 (own_ARRIINU a1 a2 (0 : Int32) (0 : Int32)) [(.int (0 : Int32)), (.ref a1)])) rfl rfl (hb hby d2_23)
  have Fw23 := (fc.ext E18).same W23
  have fc_2 := ((Fw14.ext E18).other W23 (Or.inr (slot_ne (Or.inr (own_w hw 30 rfl)) (Or.inr (own_w hw 28 rfl)) (by decide) (t := (.array .byte)) (t' := .byte) (by decide) (by decide))))
  have fc_3 := (((lC9.other W14 (Or.inl (Ne.symm ne_a1_l9a))).ext E18).other W23 (Or.inl (Ne.symm ne_a1_l9a)))
  have fc_4 := (((lV9.other W14 (Or.inl (Ne.symm ne_a1_l9a))).ext E18).other W23 (Or.inl (Ne.symm ne_a1_l9a)))
  have fc_5 := (((lA9.other W14 (Ne.symm ne_a1_lb9)).ext E18).other W23 (Ne.symm ne_a1_lb9))
  have K23 : Keep h0 h23 [a1] := K18.wr W23 (Or.inl (List.mem_of_getElem? (i := 0) rfl))
  have Z23 : n0 ≤ h23.size := Nat.le_trans Z18 (Keep.of_wr W23).1
  have CC23 := CHr.wr W23 sf18 hC18.1
  have CR23 := CR18.trans CC23
  have N23 := Fr.snoc X23 N14 g_a1
  refine own_by st23 ?_
  obtain ⟨fs, hr, hrun, hended, hW⟩ := X23.leaveW hS18 (by rw [e23]; exact (Nat.le_trans hk18 (Keep.of_wr W23).1)) (v := none) (fun _ => rfl)
  refine ⟨_, _, ?_, hrun, hended, _, _, rfl, ?_, (by rw [hh]; show CHr Z consts_1 s.vm h0 T23.vm T23.heap; rw [e23]; exact CR23.trans (CHv.at X23 hZ18 hEL CC23.1)), hW.1, hW.2.1, hW.2.2.1, hW.2.2.2.mono (by decide) (by decide)⟩
  · exact X23.returnOut hx Bd.returns (hb hby d2_26) hr
  · show Q2e Z a1 a2 h0 n0 _ T23.heap _
    rw [e23]
    exact ⟨rfl, N23, K23, lb9, _, ⟨((((E_a1.ext E9).wr W14).ext E18).wr W23), fc_2, Fw23, fc_5, Or.inl rfl, ⟨fun _ => ⟨rfl, fun _ q => nomatch q⟩, fun q => absurd q (by decide)⟩, (fun _ q => nomatch q), Nat.zero_le _⟩⟩
theorem pn_1e : plainFor (⟨"java/lang/String", "<init>", "([C)V"⟩ : MethodName) = true := by first | exact plainFor_of_name (by first | (simp [plainName, overriddenIn]; done) | decide +kernel) | decide +kernel | exact Jvm.Free.JP.mathPlain rfl (by decide +kernel)
theorem pd_1_0e : parseMethodDescriptor "([CIILjava/lang/Void;)V" = some ⟨[(.array .char), .int, .int, (.object "java/lang/Void")], none⟩ := by decide +kernel
theorem ef_1e (m : MethodId) (a1 : Addr) (a2 : Addr) : entryFrame m #[(.ref a1), (.ref a2)] 2 = mkF m 0 #[.val (.ref a1), .val (.ref a2)] [] := by first | (simp [entryFrame, mkF, argsToLocals, Value.category]; done) | rfl
abbrev own_r1e : Room := { frames := 2, cells := 4, slots := 8, locals := 29 }
def Q1e (Z : State) (a1 : Addr) (a2 : Addr) (kc : ClassId) (h0 : Heap) (n0 : Nat) (v : Option Value) (h : Heap) (L : List Loc) : Prop := v = none ∧ Fr n0 L ∧ Keep h0 h [a1] ∧ ∃ (t : Addr) (kt : ClassId), own_T Z h a1 t kt 0 (0 : Int32) []
theorem rm1e (l : Launch) (Z : State) (a0 : Array Value) (hw : ∀ d ∈ tables_1, d.before a0 Z = true) (ws : List Jvm.Cond) (a1 : Addr) (a2 : Addr) (kc : ClassId) (h0 : Heap) (n0 : Nat) (Z0 : n0 ≤ h0.size) (E_a1 : Exa Z h0 a1 "java/lang/String") (F_v : Fld Z h0 a1 "java/lang/String" "value" "[B" .null) (F_c : Fld Z h0 a1 "java/lang/String" "coder" "B" (.int (0 : Int32))) (g_a1 : n0 ≤ a1) (A_s : Arv Z h0 a2 kc .char (0 : Int32) [] (.int (0 : Int32))) :
    MetFree l own_n53 (head1 (Jvm.Cond.code own_n53 jdk_42_method_3_code 2 none :: ws) own_r1e) (fun a U => a = #[(.ref a1), (.ref a2)] ∧ Z.Warmed39 U.vm ∧ U.heap = h0 ∧ CHv Z consts_1 U.vm h0) (fun _ _ _ _ _ => True) (fun _ U o U' => ∃ v L, o = .returned v ∧ Q1e Z a1 a2 kc h0 n0 v U'.heap L ∧ CHr Z consts_1 U.vm U.heap U'.vm U'.heap ∧ ReturnedEndW U o U' L own_r1e.cells own_r1e.slots) := by
  refine MetFree.of_bodySF pn_1e hisR ?_
  intro p e s m args below meth c s₁ Bd hml0 hP hK
  obtain ⟨rfl, hZ, hh, hH0⟩ := hP
  have hx := Bd.exec
  have hby := Bd.bytes
  have hml : c.maxLocals = 2 := hml0
  have hown : s.vm.findClass "java/lang/String" = some m.cls := findClass_of_methodNamed Bd.named
  have hnm := (name_of_methodNamed Bd.named Bd.method).1
  have X0 : Stand p l e own_r1e (s.setVm s.vm) m #[(.ref a1), (.ref a2)] below meth c s₁ [] 0 0 := Stand.of_body Bd
  have e0 : s₁.heap = h0 := by rw [← hh, Bd.state]; rfl
  have N0 := Fr.nil n0
  have hS0 : s.Since s.vm 0 := (State.WarmedH.refl s).since 0
  refine own_at (castTop (ef_1e m a1 a2)) ?_
  have K0 := Keep.refl h0 [a1]
  have wS : ∀ a ∈ Bundle.stringAtoms, a.before a0 Z = true := fun d hd => hw d ((by decide +kernel : ∀ d ∈ Bundle.stringAtoms, d ∈ tables_1) d hd)
  have hEL : EW _ _ consts_1 := (EW.cons (own_w hw 110 rfl) (by decide) (EW.cons (own_w hw 224 rfl) (by decide) EW.nil))
  have sg4 : own_G p e below s₁ (mkF m 4 #[.val (.ref a1), .val (.ref a2)] [(.ref a2), (.int (0 : Int32)), (.ref a2), (.ref a1)]) s₁ (mkF m 0 #[.val (.ref a1), .val (.ref a2)] []) := by
    intro t k
    refine XS.aloadN X0.here hx rfl (hb hby d1_0) rfl rfl ?_
    refine XS.aloadN X0.here hx rfl (hb hby d1_1) rfl rfl ?_
    refine XS.iconst X0.here hx rfl (hb hby d1_2) ?_
    refine XS.aloadN X0.here hx rfl (hb hby d1_3) rfl rfl ?_
    exact k
  refine own_by sg4 ?_
  obtain ⟨cl4, Ar4, qa4, Sa4, Na4, Ha4, Ga4⟩ := id A_s
  have sg6 : own_G p e below s₁ (mkF m 6 #[.val (.ref a1), .val (.ref a2)] [.null, (.int (0 : Int32)), (.int (0 : Int32)), (.ref a2), (.ref a1)]) s₁ (mkF m 4 #[.val (.ref a1), .val (.ref a2)] [(.ref a2), (.int (0 : Int32)), (.ref a2), (.ref a1)]) := by
    intro t k
    refine X0.arraylength hx (by rw [e0]; exact Ar4.1) (State.isArrayOf_alike hZ.alike Ar4.2.1) (g := (mkF m 4 #[.val (.ref a1), .val (.ref a2)] [(.ref a2), (.int (0 : Int32)), (.ref a2), (.ref a1)])) rfl rfl (hb hby d1_4) _ ?_
    rw [len_of Sa4 Na4]
    refine XS.aconstNull X0.here hx rfl (hb hby d1_5) ?_
    exact k
  refine own_by sg6 ?_
  obtain ⟨_, _, ⟨T6, L6, k6, n6⟩, -, Xc6, hSc6, hgc6, ⟨Lc6, hQ6, l6, y6, z6, hC6⟩, st6⟩ := X0.specialBackS hx (y := own_n46) rfl hown (mvT hZ (own_w hw 8 rfl)) (mvT hZ (own_w hw 9 rfl)) (mvT hZ (own_w hw 11 rfl)) (by decide) (backOfSH (W := 0) (rm2e l Z a0 hw [] a1 a2 h0 n0 Z0 E_a1 F_v F_c g_a1) hZ (own_w hw 11 rfl) (own_w hw 4 rfl) (by decide) (by decide) hEL hH0) (g := (mkF m 6 #[.val (.ref a1), .val (.ref a2)] [.null, (.int (0 : Int32)), (.int (0 : Int32)), (.ref a2), (.ref a1)])) rfl (by rw [hml]; rfl) (Steps.refl _) (a := a1) (argsL := [(.ref a2), (.int (0 : Int32)), (.int (0 : Int32)), .null]) (rest := []) (lenOf pd_1_0e rfl) rfl (Nat.le_of_eq rfl) (hb hby d1_6) (fun _ _ => ⟨rfl, e0, (by decide : 0 + 4 ≤ _), (by decide : 0 + 8 ≤ _)⟩)
  dsimp only [Pt.U, Pt.locs, Pt.cells, Pt.slots] at Xc6 hSc6 hgc6
  obtain ⟨X6, hS6, hZ6, hown6⟩ := rebS hS0 (by rw [e0]; exact (Nat.zero_le _)) Xc6 hSc6 hgc6 hZ hown
  dsimp only [Pt.U, Pt.locs, Pt.cells, Pt.slots] at X6 l6 y6 z6 st6 hQ6
  subst l6 y6 z6
  obtain ⟨rfl, N6q, Kq6, tt, kt, TT⟩ := hQ6
  have N6 := Fr.app N0 N6q
  have K6 : Keep h0 T6.heap [a1] := K0.trans Kq6 (fun x hx => by cases List.mem_singleton.mp hx; exact (Or.inl (List.mem_of_getElem? (i := 0) rfl)))
  have Z6 : n0 ≤ T6.heap.size := Nat.le_trans Z0 Kq6.1
  have CR6 := (CHr.refl hH0).trans hC6
  refine own_by (fun t k => st6.trans k) ?_
  obtain ⟨fs, hr, hrun, hended, hW⟩ := X6.leaveW hS6 (Nat.le_refl _) (v := none) (fun _ => rfl)
  refine ⟨_, _, ?_, hrun, hended, _, _, rfl, ?_, (by rw [hh]; show CHr Z consts_1 s.vm h0 T6.vm T6.heap; exact CR6.trans (CHv.at X6 hZ6 hEL hC6.1)), hW.1, hW.2.1, hW.2.2.1, hW.2.2.2.mono (by decide) (by decide)⟩
  · exact X6.returnOut hx Bd.returns (hb hby d1_9) hr
  · show Q1e Z a1 a2 kc h0 n0 _ T6.heap _
    exact ⟨rfl, N6, K6, tt, kt, TT⟩
theorem own_elen (c : Int32) : own_encj c = Int32.ofNat (own_esc c).length := by
  unfold own_encj own_esc
  by_cases q1 : c = 34
  · rw [if_pos q1, if_pos q1]; rfl
  rw [if_neg q1, if_neg q1]
  by_cases q2 : c = 92
  · rw [if_pos q2, if_pos q2]; rfl
  rw [if_neg q2, if_neg q2]
  by_cases q3 : c < 32
  · rw [if_pos q3, if_pos q3]; rfl
  · rw [if_neg q3, if_neg q3]; rfl
theorem own_jl1 (a : Int32) : (own_json [a]).length = 2 + (own_esc a).length := by simp [own_json]; omega
theorem own_jl2 (a b : Int32) : (own_json [a, b]).length = 2 + (own_esc a).length + (own_esc b).length := by simp [own_json]; omega
theorem own_jl3 (a b c : Int32) : (own_json [a, b, c]).length = 2 + (own_esc a).length + (own_esc b).length + (own_esc c).length := by simp [own_json]; omega
theorem own_jfirst (cs : List Int32) : (own_json cs)[0]? = some 34 := by simp [own_json]
theorem own_jlast (cs : List Int32) : (own_json cs)[(own_json cs).length - 1]? = some 34 := by
  unfold own_json
  rw [List.getElem?_append_right (by simp)]
  simp
theorem own_jat (pre : List Int32) (c : Int32) (post : List Int32) (k : Nat) (e : Int32) (h : (own_esc c)[k]? = some e) : (own_json (pre ++ c :: post))[1 + (pre.flatMap own_esc).length + k]? = some e := by
  have hk : k < (own_esc c).length := (List.getElem?_eq_some_iff.mp h).1
  unfold own_json
  rw [List.flatMap_append, List.flatMap_cons, List.append_assoc, List.append_assoc, List.append_assoc]
  rw [List.getElem?_append_right (by simp; omega), List.getElem?_append_right (by simp; omega), List.getElem?_append_left (by simp; omega)]
  rw [← h]; congr 1; simp; omega
theorem own_at0 (c : Int32) (post : List Int32) (k : Nat) (e : Int32) (h : (own_esc c)[k]? = some e) : (own_json (c :: post))[1 + k]? = some e := by
  have := own_jat [] c post k e h; simpa using this
theorem own_at1 (a c : Int32) (post : List Int32) (k : Nat) (e : Int32) (h : (own_esc c)[k]? = some e) : (own_json (a :: c :: post))[1 + (own_esc a).length + k]? = some e := by
  have := own_jat [a] c post k e h; simpa using this
theorem own_at2 (a b c : Int32) (post : List Int32) (k : Nat) (e : Int32) (h : (own_esc c)[k]? = some e) : (own_json (a :: b :: c :: post))[1 + (own_esc a).length + (own_esc b).length + k]? = some e := by
  have := own_jat [a, b] c post k e h; simp [List.flatMap_cons] at this; rw [← this]; congr 1; omega
theorem own_i2c16 (x : Int32) : ¬ x.toUInt32.toUInt16.toUInt32.toInt32 < 0 ∧ ¬ (65535 : Int32) < x.toUInt32.toUInt16.toUInt32.toInt32 := by
  have h := own_i2cn x
  generalize x.toUInt32.toUInt16.toUInt32.toInt32 = y at h ⊢
  have e0 : (0 : Int32).toInt = 0 := rfl
  have e1 : (65535 : Int32).toInt = 65535 := rfl
  have e : y.toInt = y.toBitVec.toInt := rfl
  rw [Int32.lt_iff_toInt_lt, Int32.lt_iff_toInt_lt, e, e0, e1, BitVec.toInt_eq_toNat_cond]
  split <;> omega
theorem own_and3 (x : Int32) : x &&& 3 = 0 ∨ x &&& 3 = 1 ∨ x &&& 3 = 2 ∨ x &&& 3 = 3 := by
  have h : (x &&& 3).toBitVec.toNat < 4 := by
    rw [Int32.toBitVec_and, BitVec.toNat_and]
    exact Nat.lt_of_le_of_lt Nat.and_le_right (by decide)
  have k : ∀ n : Nat, n < 4 → n = 0 ∨ n = 1 ∨ n = 2 ∨ n = 3 := by omega
  rcases k _ h with q | q | q | q
  · exact Or.inl (Int32.toBitVec_inj.mp (BitVec.eq_of_toNat_eq q))
  · exact Or.inr (Or.inl (Int32.toBitVec_inj.mp (BitVec.eq_of_toNat_eq q)))
  · exact Or.inr (Or.inr (Or.inl (Int32.toBitVec_inj.mp (BitVec.eq_of_toNat_eq q))))
  · exact Or.inr (Or.inr (Or.inr (Int32.toBitVec_inj.mp (BitVec.eq_of_toNat_eq q))))
theorem own_narc16 {z : Int32} (h : ¬ z < 0 ∧ ¬ (65535 : Int32) < z) : nar .char z = z := own_nar16 h
theorem pn_0 : plainFor x = true := by first | exact plainFor_of_name (by first | (simp [plainName, overriddenIn]; done) | decide +kernel) | decide +kernel | exact Jvm.Free.JP.mathPlain rfl (by decide +kernel)
theorem pd_0_0 : parseMethodDescriptor "([C)V" = some ⟨[(.array .char)], none⟩ := by decide +kernel
theorem pd_0_1 : parseMethodDescriptor "(Ljava/lang/String;)Ljava/lang/String;" = some ⟨[(.object "java/lang/String")], some (.object "java/lang/String")⟩ := by decide +kernel
theorem pd_0_2 : parseMethodDescriptor "()I" = some ⟨[], some .int⟩ := by decide +kernel
theorem pd_0_3 : parseMethodDescriptor "(I)C" = some ⟨[.int], some .char⟩ := by decide +kernel
theorem pd_0_4 : parseMethodDescriptor "(C)I" = some ⟨[.char], some .int⟩ := by decide +kernel
theorem pd_0_5 : parseMethodDescriptor "(Ljava/lang/String;IC)Z" = some ⟨[(.object "java/lang/String"), .int, .char], some .boolean⟩ := by decide +kernel
theorem ef_0 (m : MethodId) (i0 : Int32) (i1 : Int32) (i2 : Int32) (i3 : Int32) : entryFrame m #[(.int i0), (.int i1), (.int i2), (.int i3)] maxLocals = mkF m 0 #[.val (.int i0), .val (.int i1), .val (.int i2), .val (.int i3), .unset, .unset, .unset, .unset, .unset, .unset, .unset, .unset, .unset] [] := by first | (simp [entryFrame, mkF, argsToLocals, Value.category, maxLocals]; done) | rfl
def Q0 (Z : State) (i0 : Int32) (i1 : Int32) (i2 : Int32) (i3 : Int32) (wH : Addr) (gz : Int32) (gf : Value) (h0 : Heap) (n0 : Nat) (v : Option Value) (h : Heap) (L : List Loc) : Prop := v = some (.int (1 : Int32)) ∧ Fr n0 L
theorem rm0 (l : Launch) (Z : State) (a0 : Array Value) (hw : ∀ d ∈ tables_1, d.before a0 Z = true) (ws : List Jvm.Cond) (i0 : Int32) (i1 : Int32) (i2 : Int32) (i3 : Int32) (wH : Addr) (gz : Int32) (gf : Value) (h0 : Heap) (n0 : Nat) (Z0 : n0 ≤ h0.size) (O : Old Z n0 h0) (hst : own_ST Z gz gf) (S_H : Sta Z Z.heap "com/example/catchment/catchment/Json" "HEX" "[C" (.ref wH)) (hHX : own_HX Z wH) :
    MetFree l x (head1 (Jvm.Cond.code x code maxLocals ret :: ws) room_1) (fun a U => a = #[(.int i0), (.int i1), (.int i2), (.int i3)] ∧ Z.Warmed39 U.vm ∧ U.heap = h0 ∧ CHv Z consts_1 U.vm h0) (fun _ _ _ _ _ => True) (fun _ U o U' => ∃ v L, o = .returned v ∧ Q0 Z i0 i1 i2 i3 wH gz gf h0 n0 v U'.heap L ∧ CHr Z consts_1 U.vm U.heap U'.vm U'.heap ∧ ReturnedEndW U o U' L room_1.cells room_1.slots) := by
  refine MetFree.of_bodySF pn_0 hisR ?_
  intro p e s m args below meth c s₁ Bd hml0 hP hK
  obtain ⟨rfl, hZ, hh, hH0⟩ := hP
  have hx := Bd.exec
  have hby := Bd.bytes
  have hml : c.maxLocals = 13 := hml0
  have hown : s.vm.findClass "com/example/catchment/catchment/JsonStringPinLaw" = some m.cls := findClass_of_methodNamed Bd.named
  have hnm := (name_of_methodNamed Bd.named Bd.method).1
  have X0 : Stand p l e room_1 (s.setVm s.vm) m #[(.int i0), (.int i1), (.int i2), (.int i3)] below meth c s₁ [] 0 0 := Stand.of_body Bd
  have e0 : s₁.heap = h0 := by rw [← hh, Bd.state]; rfl
  have N0 := Fr.nil n0
  have hS0 : s.Since s.vm 0 := (State.WarmedH.refl s).since 0
  refine own_at (castTop (ef_0 m i0 i1 i2 i3)) ?_
  have K0 := Keep.refl h0 []
  obtain ⟨S1, P5, S2, rf, S3, S4, S5⟩ := id hst
  have wS : ∀ a ∈ Bundle.stringAtoms, a.before a0 Z = true := fun d hd => hw d ((by decide +kernel : ∀ d ∈ Bundle.stringAtoms, d ∈ tables_1) d hd)
  have hEL : EW _ _ consts_1 := (EW.cons (own_w hw 110 rfl) (by decide) (EW.cons (own_w hw 224 rfl) (by decide) EW.nil))
  obtain ⟨v5, hv5⟩ : ∃ z : Int32, z = ((i0 &&& (65535 : Int32)).toUInt32.toUInt16.toUInt32.toInt32) := ⟨_, rfl⟩
  have sg5 : own_G p e below s₁ (mkF m 5 (own_AIIIIUUUUUUUUU i0 i1 i2 i3) [(.int v5)]) s₁ (mkF m 0 (own_AIIIIUUUUUUUUU i0 i1 i2 i3) []) := by
    intro t k
    rw [hv5] at k
    refine XS.iloadN X0.here hx rfl (hb hby at_0) rfl ?_
    refine X0.ldcInt hx hown (mvT hZ (own_w hw 0 rfl)) (g := (mkF m 1 (own_AIIIIUUUUUUUUU i0 i1 i2 i3) [(.int i0)])) rfl (hb hby at_1) _ ?_
    refine XS.iand X0.here hx rfl (hb hby at_3) rfl ?_
    refine XS.i2c X0.here hx rfl (hb hby at_4) rfl ?_
    exact k
  refine own_by sg5 ?_
  have hk_v5 : ¬ v5 < 0 ∧ ¬ (65535 : Int32) < v5 := by rw [hv5]; exact own_i2c16 _
  obtain ⟨v12, hv12⟩ : ∃ z : Int32, z = ((i1 &&& (65535 : Int32)).toUInt32.toUInt16.toUInt32.toInt32) := ⟨_, rfl⟩
  have sg12 : own_G p e below s₁ (mkF m 12 (own_AIIIIIUUUUUUUU i0 i1 i2 i3 v5) [(.int v12)]) s₁ (mkF m 5 (own_AIIIIUUUUUUUUU i0 i1 i2 i3) [(.int v5)]) := by
    intro t k
    rw [hv12] at k
    refine XS.istore X0.here hx rfl (hb hby at_5) rfl (l' := (own_AIIIIIUUUUUUUU i0 i1 i2 i3 v5)) rfl ?_
    refine XS.iloadN X0.here hx rfl (hb hby at_7) rfl ?_
    refine X0.ldcInt hx hown (mvT hZ (own_w hw 0 rfl)) (g := (mkF m 8 (own_AIIIIIUUUUUUUU i0 i1 i2 i3 v5) [(.int i1)])) rfl (hb hby at_8) _ ?_
    refine XS.iand X0.here hx rfl (hb hby at_10) rfl ?_
    refine XS.i2c X0.here hx rfl (hb hby at_11) rfl ?_
    exact k
  refine own_by sg12 ?_
  have hk_v12 : ¬ v12 < 0 ∧ ¬ (65535 : Int32) < v12 := by rw [hv12]; exact own_i2c16 _
  obtain ⟨v19, hv19⟩ : ∃ z : Int32, z = ((i2 &&& (65535 : Int32)).toUInt32.toUInt16.toUInt32.toInt32) := ⟨_, rfl⟩
  have sg19 : own_G p e below s₁ (mkF m 19 (own_AIIIIIIUUUUUUU i0 i1 i2 i3 v5 v12) [(.int v19)]) s₁ (mkF m 12 (own_AIIIIIUUUUUUUU i0 i1 i2 i3 v5) [(.int v12)]) := by
    intro t k
    rw [hv19] at k
    refine XS.istore X0.here hx rfl (hb hby at_12) rfl (l' := (own_AIIIIIIUUUUUUU i0 i1 i2 i3 v5 v12)) rfl ?_
    refine XS.iloadN X0.here hx rfl (hb hby at_14) rfl ?_
    refine X0.ldcInt hx hown (mvT hZ (own_w hw 0 rfl)) (g := (mkF m 15 (own_AIIIIIIUUUUUUU i0 i1 i2 i3 v5 v12) [(.int i2)])) rfl (hb hby at_15) _ ?_
    refine XS.iand X0.here hx rfl (hb hby at_17) rfl ?_
    refine XS.i2c X0.here hx rfl (hb hby at_18) rfl ?_
    exact k
  refine own_by sg19 ?_
  have hk_v19 : ¬ v19 < 0 ∧ ¬ (65535 : Int32) < v19 := by rw [hv19]; exact own_i2c16 _
  obtain ⟨v24, hv24⟩ : ∃ z : Int32, z = (i3 &&& (3 : Int32)) := ⟨_, rfl⟩
  have sg24 : own_G p e below s₁ (mkF m 24 (own_AIIIIIIIUUUUUU i0 i1 i2 i3 v5 v12 v19) [(.int v24)]) s₁ (mkF m 19 (own_AIIIIIIUUUUUUU i0 i1 i2 i3 v5 v12) [(.int v19)]) := by
    intro t k
    rw [hv24] at k
    refine XS.istore X0.here hx rfl (hb hby at_19) rfl (l' := (own_AIIIIIIIUUUUUU i0 i1 i2 i3 v5 v12 v19)) rfl ?_
    refine XS.iloadN X0.here hx rfl (hb hby at_21) rfl ?_
    refine XS.iconst X0.here hx rfl (hb hby at_22) ?_
    refine XS.iand X0.here hx rfl (hb hby at_23) rfl ?_
    exact k
  refine own_by sg24 ?_
  have sg26 : own_G p e below s₁ (mkF m 26 (own_AIIIIIIIIUUUUU i0 i1 i2 i3 v5 v12 v19 v24) []) s₁ (mkF m 24 (own_AIIIIIIIUUUUUU i0 i1 i2 i3 v5 v12 v19) [(.int v24)]) := by
    intro t k
    refine XS.istore X0.here hx rfl (hb hby at_24) rfl (l' := (own_AIIIIIIIIUUUUU i0 i1 i2 i3 v5 v12 v19 v24)) rfl ?_
    exact k
  refine own_by sg26 ?_
  obtain hn | hn | hn | hn : v24 = 0 ∨ v24 = 1 ∨ v24 = 2 ∨ v24 = 3 := by rw [hv24]; exact own_and3 _
  · subst hn
    have sg32 : own_G p e below s₁ (mkF m 32 (own_AIIIIIIIIUUUUU i0 i1 i2 i3 v5 v12 v19 (0 : Int32)) [(.int (0 : Int32))]) s₁ (mkF m 26 (own_AIIIIIIIIUUUUU i0 i1 i2 i3 v5 v12 v19 (0 : Int32)) []) := by
      intro t k
      refine XS.iload X0.here hx rfl (hb hby at_26) rfl ?_
      refine XS.ifNo X0.here hx rfl (hb hby at_28) rfl ((if0 _ _).trans (teq (by decide : (0 : Int32) = (0 : Int32))).2) ?_
      refine XS.iconst X0.here hx rfl (hb hby at_31) ?_
      exact k
    refine own_by sg32 ?_
    obtain ⟨T32, h32, kc32, X32, e32, E32, A32, st32⟩ := newP X0 hx hZ (own_w hw 1 rfl) e0 (g := (mkF m 32 (own_AIIIIIIIIUUUUU i0 i1 i2 i3 v5 v12 v19 (0 : Int32)) [(.int (0 : Int32))])) rfl (hb hby at_32) rfl (by decide) (cap := 0) (by decide) (by decide) (by decide) (by decide)
    obtain ⟨b32, g32⟩ : ∃ z, z = h0.size := ⟨_, rfl⟩
    rw [← g32] at A32 st32
    have g_b32 : n0 ≤ b32 := Nat.le_trans Z0 (Nat.le_of_eq g32.symm)
    have sz_b32 : h0.size ≤ b32 := Nat.le_trans K0.1 (Nat.le_of_eq g32.symm)
    have K32 := K0.ext E32
    have Z32 : n0 ≤ h32.size := Nat.le_trans Z0 E32.1
    have CC32 := CHr.ext E32 hH0
    have CR32 := (CHr.refl hH0).trans CC32
    have V32 : Arv Z h32 b32 kc32 .char (0 : Int32) [] (.int (0 : Int32)) := Arv.new A32 (by decide)
    refine own_by st32 ?_
    have sg102 : own_G p e below T32 (mkF m 102 (own_AIIIIIIIIRUUUU i0 i1 i2 i3 v5 v12 v19 (0 : Int32) b32) []) T32 (mkF m 34 (own_AIIIIIIIIUUUUU i0 i1 i2 i3 v5 v12 v19 (0 : Int32)) [(.ref b32)]) := by
      intro t k
      refine XS.astore X32.here hx rfl (hb hby at_34) rfl rfl (l' := (own_AIIIIIIIIRUUUU i0 i1 i2 i3 v5 v12 v19 (0 : Int32) b32)) rfl ?_
      refine XS.goto X32.here hx rfl (pc0 := 36) (pc' := 102) rfl (hb hby at_36) (by decide) (by decide) ?_
      exact k
    refine own_by sg102 ?_
    obtain ⟨T102, h102, X102, e102, E102, A102, D102, -, st102⟩ := newO X32 hx hZ hown (own_w hw 2 rfl) (own_w hw 3 rfl) (own_w hw 4 rfl) e32 (g := (mkF m 102 (own_AIIIIIIIIRUUUU i0 i1 i2 i3 v5 v12 v19 (0 : Int32) b32) [])) rfl (hb hby at_102) (by decide) (by decide)
    obtain ⟨b102, g102⟩ : ∃ z, z = h32.size := ⟨_, rfl⟩
    rw [← g102] at A102 D102 st102
    have ne_b32_b102 : b32 ≠ b102 := Nat.ne_of_lt (Nat.lt_of_lt_of_le V32.lt (Nat.le_of_eq g102.symm))
    have g_b102 : n0 ≤ b102 := Nat.le_trans Z32 (Nat.le_of_eq g102.symm)
    have sz_b102 : h0.size ≤ b102 := Nat.le_trans K32.1 (Nat.le_of_eq g102.symm)
    have K102 := K32.ext E102
    have Z102 : n0 ≤ h102.size := Nat.le_trans Z32 E102.1
    have CC102 := CHr.ext E102 CC32.1
    have CR102 := CR32.trans CC102
    have F_coder_b102 : Fld Z h102 b102 "java/lang/String" "coder" "B" (.int (0 : Int32)) := D102 (Or.inr (own_w hw 28 rfl)) (ty := .byte) (by decide)
    have F_value_b102 : Fld Z h102 b102 "java/lang/String" "value" "[B" .null := D102 (Or.inr (own_w hw 30 rfl)) (ty := (.array .byte)) (by decide)
    refine own_by st102 ?_
    have sg108 : own_G p e below T102 (mkF m 108 (own_AIIIIIIIIRUUUU i0 i1 i2 i3 v5 v12 v19 (0 : Int32) b32) [(.ref b32), (.ref b102), (.ref b102)]) T102 (mkF m 105 (own_AIIIIIIIIRUUUU i0 i1 i2 i3 v5 v12 v19 (0 : Int32) b32) [(.ref b102)]) := by
      intro t k
      refine XS.dup X102.here hx rfl (hb hby at_105) rfl rfl ?_
      refine XS.aload X102.here hx rfl (hb hby at_106) rfl rfl ?_
      exact k
    refine own_by sg108 ?_
    obtain ⟨_, _, ⟨T108, L108, k108, n108⟩, -, Xc108, hSc108, hgc108, ⟨Lc108, hQ108, l108, y108, z108, hC108⟩, st108⟩ := X102.specialBackS hx (y := own_n53) rfl hown (mvT hZ (own_w hw 5 rfl)) (mvT hZ (own_w hw 6 rfl)) (mvT hZ (own_w hw 7 rfl)) (by decide) (backOfSH (W := 1) (rm1e l Z a0 hw [] b102 b32 kc32 h102 n0 Z102 A102 F_value_b102 F_coder_b102 g_b102 (V32.ext E102)) hZ (own_w hw 7 rfl) (own_w hw 4 rfl) (by decide) (by decide) hEL CC102.1) (g := (mkF m 108 (own_AIIIIIIIIRUUUU i0 i1 i2 i3 v5 v12 v19 (0 : Int32) b32) [(.ref b32), (.ref b102), (.ref b102)])) rfl (by rw [hml]; rfl) (Steps.refl _) (a := b102) (argsL := [(.ref b32)]) (rest := [(.ref b102)]) (lenOf pd_0_0 rfl) rfl (Nat.le_of_eq rfl) (hb hby at_108) (fun _ _ => ⟨rfl, e102, (by decide : 2 + 4 ≤ _), (by decide : 4 + 8 ≤ _)⟩)
    dsimp only [Pt.U, Pt.locs, Pt.cells, Pt.slots] at Xc108 hSc108 hgc108
    obtain ⟨X108, hS108, hZ108, hown108⟩ := rebS hS0 (by rw [e102]; exact (Nat.le_trans (Nat.le_trans (Nat.zero_le _) E32.1) E102.1)) Xc108 hSc108 hgc108 hZ hown
    dsimp only [Pt.U, Pt.locs, Pt.cells, Pt.slots] at X108 l108 y108 z108 st108 hQ108
    subst l108 y108 z108
    obtain ⟨rfl, N108q, Kq108, tt, kt, TT⟩ := hQ108
    have N108 := Fr.app N0 N108q
    have K108 : Keep h0 T108.heap [] := K102.trans Kq108 (fun x hx => by cases List.mem_singleton.mp hx; exact (Or.inr sz_b102))
    have Z108 : n0 ≤ T108.heap.size := Nat.le_trans Z102 Kq108.1
    have CR108 := CR102.trans hC108
    refine own_by (fun t k => st108.trans k) ?_
    obtain ⟨_, _, ⟨T111, L111, k111, n111⟩, -, Xc111, hSc111, hgc111, ⟨Lc111, hQ111, l111, y111, z111, hC111⟩, st111⟩ := callSS X108 hx (y := own_n54) hown108 (mvT hZ108 (own_w hw 31 rfl)) (mvT hZ108 (own_w hw 32 rfl)) (mvT hZ108 (own_w hw 33 rfl)) (mvT hZ108 (own_w hw 34 rfl)) (by decide) (backOfSH (W := 0) (rm7 l Z a0 hw [] b102 tt kt 0 (0 : Int32) ([] : List Int32) wH gz gf T108.heap n0 Z108 (((O.ext E32).ext E102).keep Kq108 (allS g_b102 all0)) hst TT (by simp) S_H hHX) hZ108 (own_w hw 34 rfl) (own_w hw 33 rfl) (by decide) (by decide) hEL hC108.1) (g := (mkF m 111 (own_AIIIIIIIIRUUUU i0 i1 i2 i3 v5 v12 v19 (0 : Int32) b32) [(.ref b102)])) rfl (by rw [hml]; rfl) (argsL := [(.ref b102)]) (rest := []) (lenOf pd_0_1 rfl) rfl (Nat.le_of_eq rfl) (hb hby at_111) (fun _ _ => ⟨rfl, rfl, (by decide : 6 + 34 ≤ _), (by decide : 12 + 2150 ≤ _)⟩)
    dsimp only [Pt.U, Pt.locs, Pt.cells, Pt.slots] at Xc111 hSc111 hgc111
    obtain ⟨X111, hS111, hZ111, hown111⟩ := rebS hS108 (Nat.le_refl _) Xc111 hSc111 hgc111 hZ108 hown108
    dsimp only [Pt.U, Pt.locs, Pt.cells, Pt.slots] at X111 l111 y111 z111 st111 hQ111
    subst l111 y111 z111
    obtain ⟨rr, t2, kt2, M2, cd2, rfl, ger, get, N111q, Kq111, TR⟩ := hQ111
    have N111 := Fr.app N108 N111q
    have K111 : Keep h0 T111.heap [] := K108.trans Kq111 (fun x hx => nomatch hx)
    have Z111 : n0 ≤ T111.heap.size := Nat.le_trans Z108 Kq111.1
    have CR111 := CR108.trans hC111
    refine own_by (fun t k => st111.trans k) ?_
    have hjl : (own_json []).length = 2 := rfl
    have sg169 : own_G p e below T111 (mkF m 169 (own_AIIIIIIIIRRIII i0 i1 i2 i3 v5 v12 v19 (0 : Int32) b32 rr (0 : Int32) (0 : Int32) (0 : Int32)) [(.ref rr)]) T111 (mkF m 114 (own_AIIIIIIIIRUUUU i0 i1 i2 i3 v5 v12 v19 (0 : Int32) b32) [(.ref rr)]) := by
      intro t k
      refine XS.astore X111.here hx rfl (hb hby at_114) rfl rfl (l' := (own_AIIIIIIIIRRUUU i0 i1 i2 i3 v5 v12 v19 (0 : Int32) b32 rr)) rfl ?_
      refine XS.iload X111.here hx rfl (hb hby at_116) rfl ?_
      refine XS.iconst X111.here hx rfl (hb hby at_118) ?_
      refine XS.icmpYes X111.here hx rfl (pc0 := 119) (pc' := 130) rfl (hb hby at_119) rfl (tlt (by decide : (0 : Int32) < (1 : Int32))).1 (by decide) (by decide) ?_
      refine XS.iconst X111.here hx rfl (hb hby at_130) ?_
      refine XS.istore X111.here hx rfl (hb hby at_131) rfl (l' := (own_AIIIIIIIIRRIUU i0 i1 i2 i3 v5 v12 v19 (0 : Int32) b32 rr (0 : Int32))) rfl ?_
      refine XS.iload X111.here hx rfl (hb hby at_133) rfl ?_
      refine XS.iconst X111.here hx rfl (hb hby at_135) ?_
      refine XS.icmpYes X111.here hx rfl (pc0 := 136) (pc' := 147) rfl (hb hby at_136) rfl (tlt (by decide : (0 : Int32) < (2 : Int32))).1 (by decide) (by decide) ?_
      refine XS.iconst X111.here hx rfl (hb hby at_147) ?_
      refine XS.istore X111.here hx rfl (hb hby at_148) rfl (l' := (own_AIIIIIIIIRRIIU i0 i1 i2 i3 v5 v12 v19 (0 : Int32) b32 rr (0 : Int32) (0 : Int32))) rfl ?_
      refine XS.iload X111.here hx rfl (hb hby at_150) rfl ?_
      refine XS.iconst X111.here hx rfl (hb hby at_152) ?_
      refine XS.icmpYes X111.here hx rfl (pc0 := 153) (pc' := 164) rfl (hb hby at_153) rfl (tlt (by decide : (0 : Int32) < (3 : Int32))).1 (by decide) (by decide) ?_
      refine XS.iconst X111.here hx rfl (hb hby at_164) ?_
      refine XS.istore X111.here hx rfl (hb hby at_165) rfl (l' := (own_AIIIIIIIIRRIII i0 i1 i2 i3 v5 v12 v19 (0 : Int32) b32 rr (0 : Int32) (0 : Int32) (0 : Int32))) rfl ?_
      refine XS.aload X111.here hx rfl (hb hby at_167) rfl rfl ?_
      exact k
    refine own_by sg169 ?_
    obtain ⟨cq169, kq169, q169a, q169b, q169c⟩ := isOf hZ111 rfl TR.1
    obtain ⟨_, _, ⟨T169, L169, k169, n169⟩, -, X169, ⟨Lc169, hQ169, l169, y169, z169⟩, st169⟩ := X111.virtualBack hx (y := own_n30) (z := own_n30) hown111 (mvT hZ111 (own_w hw 210 rfl)) (mvT hZ111 (own_w hw 39 rfl)) (notFace_of_selects (args := #[]) (mvT hZ111 (own_w hw 41 rfl))) (mvT hZ111 (own_w hw 41 rfl)) (mvT hZ111 (own_w hw 40 rfl)) (by decide) (backOf (W := 0) (rm8 l Z a0 hw [] rr t2 kt2 M2 cd2 (own_json ([] : List Int32)) gz gf T111.heap n0 Z111 ((((O.ext E32).ext E102).keep Kq108 (allS g_b102 all0)).keep Kq111 all0) hst TR) hZ111 (own_w hw 42 rfl) (own_w hw 4 rfl) (by decide) (by decide)) q169a q169c (g := (mkF m 169 (own_AIIIIIIIIRRIII i0 i1 i2 i3 v5 v12 v19 (0 : Int32) b32 rr (0 : Int32) (0 : Int32) (0 : Int32)) [(.ref rr)])) rfl (by rw [hml]; rfl) (Steps.refl _) (argsL := []) (rest := []) (lenOf pd_0_2 rfl) rfl (Nat.le_of_eq rfl) (hb hby at_169) (fun _ _ => ⟨rfl, rfl, (by decide : 40 + 0 ≤ _), (by decide : 2162 + 0 ≤ _)⟩)
    dsimp only [Pt.U, Pt.locs, Pt.cells, Pt.slots] at X169 l169 y169 z169 st169 hQ169
    subst l169 y169 z169
    obtain ⟨rfl, N169q, hq169⟩ := hQ169
    have N169 := Fr.app N111 N169q
    obtain ⟨c169, hc169⟩ : ∃ z : Int32, z = (Int32.ofNat ((own_json ([] : List Int32))).length) := ⟨_, rfl⟩
    rw [← hc169] at st169
    have nt_c169 : c169 = Int32.ofNat (((own_json ([] : List Int32))).length) := hc169
    refine own_by (fun t k => st169.trans k) ?_
    have sg190 : own_G p e below T169 (mkF m 190 (own_AIIIIIIIIRRIII i0 i1 i2 i3 v5 v12 v19 (0 : Int32) b32 rr (0 : Int32) (0 : Int32) (0 : Int32)) [(.int (0 : Int32)), (.ref rr)]) T169 (mkF m 172 (own_AIIIIIIIIRRIII i0 i1 i2 i3 v5 v12 v19 (0 : Int32) b32 rr (0 : Int32) (0 : Int32) (0 : Int32)) [(.int c169)]) := by
      intro t k
      refine XS.iconst X169.here hx rfl (hb hby at_172) ?_
      refine XS.iload X169.here hx rfl (hb hby at_173) rfl ?_
      refine XS.iadd X169.here hx rfl (hb hby at_175) rfl ?_
      refine XS.iload X169.here hx rfl (hb hby at_176) rfl ?_
      refine XS.iadd X169.here hx rfl (hb hby at_178) rfl ?_
      refine XS.iload X169.here hx rfl (hb hby at_179) rfl ?_
      refine XS.iadd X169.here hx rfl (hb hby at_181) rfl ?_
      refine XS.icmpYes X169.here hx rfl (pc0 := 182) (pc' := 187) rfl (hb hby at_182) rfl (teq ((own_neq (n := 2) nt_c169 (rfl : (2 : Int32) = Int32.ofNat 2) (by omega) (by decide)).mpr (by omega) : c169 = (2 : Int32))).1 (by decide) (by decide) ?_
      refine XS.aload X169.here hx rfl (hb hby at_187) rfl rfl ?_
      refine XS.iconst X169.here hx rfl (hb hby at_189) ?_
      exact k
    refine own_by sg190 ?_
    obtain ⟨cq190, kq190, q190a, q190b, q190c⟩ := isOf hZ111 hq169 TR.1
    obtain ⟨_, _, ⟨T190, L190, k190, n190⟩, -, X190, ⟨Lc190, hQ190, l190, y190, z190⟩, st190⟩ := X169.virtualBack hx (y := own_n47) (z := own_n47) hown111 (mvT hZ111 (own_w hw 211 rfl)) (mvT hZ111 (own_w hw 90 rfl)) (notFace_of_selects (args := #[]) (mvT hZ111 (own_w hw 92 rfl))) (mvT hZ111 (own_w hw 92 rfl)) (mvT hZ111 (own_w hw 91 rfl)) (by decide) (backOf (W := 0) (rm17 l Z a0 hw [] rr (0 : Int32) t2 kt2 M2 cd2 (own_json ([] : List Int32)) (0) (34 : Int32) gz gf T111.heap n0 Z111 ((((O.ext E32).ext E102).keep Kq108 (allS g_b102 all0)).keep Kq111 all0) hst TR rfl (own_jfirst _)) hZ111 (own_w hw 93 rfl) (own_w hw 4 rfl) (by decide) (by decide)) q190a q190c (g := (mkF m 190 (own_AIIIIIIIIRRIII i0 i1 i2 i3 v5 v12 v19 (0 : Int32) b32 rr (0 : Int32) (0 : Int32) (0 : Int32)) [(.int (0 : Int32)), (.ref rr)])) rfl (by rw [hml]; rfl) (Steps.refl _) (argsL := [(.int (0 : Int32))]) (rest := []) (lenOf pd_0_3 rfl) rfl (Nat.le_of_eq rfl) (hb hby at_190) (fun _ _ => ⟨rfl, hq169, (by decide : 40 + 0 ≤ _), (by decide : 2162 + 0 ≤ _)⟩)
    dsimp only [Pt.U, Pt.locs, Pt.cells, Pt.slots] at X190 l190 y190 z190 st190 hQ190
    subst l190 y190 z190
    obtain ⟨rfl, N190q, hq190⟩ := hQ190
    have N190 := Fr.app N169 N190q
    refine own_by (fun t k => st190.trans k) ?_
    have sg202 : own_G p e below T190 (mkF m 202 (own_AIIIIIIIIRRIII i0 i1 i2 i3 v5 v12 v19 (0 : Int32) b32 rr (0 : Int32) (0 : Int32) (0 : Int32)) [(.ref rr), (.ref rr)]) T190 (mkF m 193 (own_AIIIIIIIIRRIII i0 i1 i2 i3 v5 v12 v19 (0 : Int32) b32 rr (0 : Int32) (0 : Int32) (0 : Int32)) [(.int (34 : Int32))]) := by
      intro t k
      refine XS.bipush X190.here hx rfl (hb hby at_193) ?_
      refine XS.icmpNo X190.here hx rfl (hb hby at_195) rfl (teq (by decide : (34 : Int32) = (34 : Int32))).2 ?_
      refine XS.aload X190.here hx rfl (hb hby at_198) rfl rfl ?_
      refine XS.aload X190.here hx rfl (hb hby at_200) rfl rfl ?_
      exact k
    refine own_by sg202 ?_
    obtain ⟨cq202, kq202, q202a, q202b, q202c⟩ := isOf hZ111 hq190 TR.1
    obtain ⟨_, _, ⟨T202, L202, k202, n202⟩, -, X202, ⟨Lc202, hQ202, l202, y202, z202⟩, st202⟩ := X190.virtualBack hx (y := own_n30) (z := own_n30) hown111 (mvT hZ111 (own_w hw 210 rfl)) (mvT hZ111 (own_w hw 39 rfl)) (notFace_of_selects (args := #[]) (mvT hZ111 (own_w hw 41 rfl))) (mvT hZ111 (own_w hw 41 rfl)) (mvT hZ111 (own_w hw 40 rfl)) (by decide) (backOf (W := 1) (rm8 l Z a0 hw [] rr t2 kt2 M2 cd2 (own_json ([] : List Int32)) gz gf T111.heap n0 Z111 ((((O.ext E32).ext E102).keep Kq108 (allS g_b102 all0)).keep Kq111 all0) hst TR) hZ111 (own_w hw 42 rfl) (own_w hw 4 rfl) (by decide) (by decide)) q202a q202c (g := (mkF m 202 (own_AIIIIIIIIRRIII i0 i1 i2 i3 v5 v12 v19 (0 : Int32) b32 rr (0 : Int32) (0 : Int32) (0 : Int32)) [(.ref rr), (.ref rr)])) rfl (by rw [hml]; rfl) (Steps.refl _) (argsL := []) (rest := [(.ref rr)]) (lenOf pd_0_2 rfl) rfl (Nat.le_of_eq rfl) (hb hby at_202) (fun _ _ => ⟨rfl, hq190, (by decide : 40 + 0 ≤ _), (by decide : 2162 + 0 ≤ _)⟩)
    dsimp only [Pt.U, Pt.locs, Pt.cells, Pt.slots] at X202 l202 y202 z202 st202 hQ202
    subst l202 y202 z202
    obtain ⟨rfl, N202q, hq202⟩ := hQ202
    have N202 := Fr.app N190 N202q
    obtain ⟨c202, hc202⟩ : ∃ z : Int32, z = (Int32.ofNat ((own_json ([] : List Int32))).length) := ⟨_, rfl⟩
    rw [← hc202] at st202
    have nt_c202 : c202 = Int32.ofNat (((own_json ([] : List Int32))).length) := hc202
    refine own_by (fun t k => st202.trans k) ?_
    obtain ⟨t206, ht206⟩ : ∃ z : Int32, z = (c202 - (1 : Int32)) := ⟨_, rfl⟩
    have sg207 : own_G p e below T202 (mkF m 207 (own_AIIIIIIIIRRIII i0 i1 i2 i3 v5 v12 v19 (0 : Int32) b32 rr (0 : Int32) (0 : Int32) (0 : Int32)) [(.int t206), (.ref rr)]) T202 (mkF m 205 (own_AIIIIIIIIRRIII i0 i1 i2 i3 v5 v12 v19 (0 : Int32) b32 rr (0 : Int32) (0 : Int32) (0 : Int32)) [(.int c202), (.ref rr)]) := by
      intro t k
      rw [ht206] at k
      refine XS.iconst X202.here hx rfl (hb hby at_205) ?_
      refine XS.isub X202.here hx rfl (hb hby at_206) rfl ?_
      exact k
    refine own_by sg207 ?_
    have nt_t206 : t206 = Int32.ofNat (((own_json ([] : List Int32))).length - (1)) := ht206.trans (own_nsub nt_c202 rfl (by omega))
    obtain ⟨cq207, kq207, q207a, q207b, q207c⟩ := isOf hZ111 hq202 TR.1
    obtain ⟨_, _, ⟨T207, L207, k207, n207⟩, -, X207, ⟨Lc207, hQ207, l207, y207, z207⟩, st207⟩ := X202.virtualBack hx (y := own_n47) (z := own_n47) hown111 (mvT hZ111 (own_w hw 211 rfl)) (mvT hZ111 (own_w hw 90 rfl)) (notFace_of_selects (args := #[]) (mvT hZ111 (own_w hw 92 rfl))) (mvT hZ111 (own_w hw 92 rfl)) (mvT hZ111 (own_w hw 91 rfl)) (by decide) (backOf (W := 0) (rm17 l Z a0 hw [] rr t206 t2 kt2 M2 cd2 (own_json ([] : List Int32)) (((own_json ([] : List Int32))).length - (1)) (34 : Int32) gz gf T111.heap n0 Z111 ((((O.ext E32).ext E102).keep Kq108 (allS g_b102 all0)).keep Kq111 all0) hst TR nt_t206 (own_jlast _)) hZ111 (own_w hw 93 rfl) (own_w hw 4 rfl) (by decide) (by decide)) q207a q207c (g := (mkF m 207 (own_AIIIIIIIIRRIII i0 i1 i2 i3 v5 v12 v19 (0 : Int32) b32 rr (0 : Int32) (0 : Int32) (0 : Int32)) [(.int t206), (.ref rr)])) rfl (by rw [hml]; rfl) (Steps.refl _) (argsL := [(.int t206)]) (rest := []) (lenOf pd_0_3 rfl) rfl (Nat.le_of_eq rfl) (hb hby at_207) (fun _ _ => ⟨rfl, hq202, (by decide : 40 + 0 ≤ _), (by decide : 2162 + 0 ≤ _)⟩)
    dsimp only [Pt.U, Pt.locs, Pt.cells, Pt.slots] at X207 l207 y207 z207 st207 hQ207
    subst l207 y207 z207
    obtain ⟨rfl, N207q, hq207⟩ := hQ207
    have N207 := Fr.app N202 N207q
    refine own_by (fun t k => st207.trans k) ?_
    have sg284 : own_G p e below T207 (mkF m 284 (own_AIIIIIIIIRRIII i0 i1 i2 i3 v5 v12 v19 (0 : Int32) b32 rr (0 : Int32) (0 : Int32) (0 : Int32)) [(.int (1 : Int32))]) T207 (mkF m 210 (own_AIIIIIIIIRRIII i0 i1 i2 i3 v5 v12 v19 (0 : Int32) b32 rr (0 : Int32) (0 : Int32) (0 : Int32)) [(.int (34 : Int32))]) := by
      intro t k
      refine XS.bipush X207.here hx rfl (hb hby at_210) ?_
      refine XS.icmpYes X207.here hx rfl (pc0 := 212) (pc' := 217) rfl (hb hby at_212) rfl (teq (by decide : (34 : Int32) = (34 : Int32))).1 (by decide) (by decide) ?_
      refine XS.iload X207.here hx rfl (hb hby at_217) rfl ?_
      refine XS.iconst X207.here hx rfl (hb hby at_219) ?_
      refine XS.icmpYes X207.here hx rfl (pc0 := 220) (pc' := 236) rfl (hb hby at_220) rfl (tlt (by decide : (0 : Int32) < (1 : Int32))).1 (by decide) (by decide) ?_
      refine XS.iload X207.here hx rfl (hb hby at_236) rfl ?_
      refine XS.iconst X207.here hx rfl (hb hby at_238) ?_
      refine XS.icmpYes X207.here hx rfl (pc0 := 239) (pc' := 258) rfl (hb hby at_239) rfl (tlt (by decide : (0 : Int32) < (2 : Int32))).1 (by decide) (by decide) ?_
      refine XS.iload X207.here hx rfl (hb hby at_258) rfl ?_
      refine XS.iconst X207.here hx rfl (hb hby at_260) ?_
      refine XS.icmpYes X207.here hx rfl (pc0 := 261) (pc' := 283) rfl (hb hby at_261) rfl (tlt (by decide : (0 : Int32) < (3 : Int32))).1 (by decide) (by decide) ?_
      refine XS.iconst X207.here hx rfl (hb hby at_283) ?_
      exact k
    refine own_by sg284 ?_
    obtain ⟨fs, hr, hrun, hended, hW⟩ := X207.leaveW hS111 (by rw [hq207]; exact (Nat.le_refl _)) (v := some (.int (1 : Int32))) (fun h => by rw [Bd.returns] at h; cases h)
    refine ⟨_, _, ?_, hrun, hended, _, _, rfl, ?_, (by rw [hh]; show CHr Z consts_1 s.vm h0 T207.vm T207.heap; rw [hq207]; exact CR111.trans (CHv.at X207 hZ111 hEL hC111.1)), hW.1, hW.2.1, hW.2.2.1, hW.2.2.2.mono (by decide) (by decide)⟩
    · exact retN X207 hx (t := .boolean) Bd.returns (by simp) (hb hby at_284) hr
    · show Q0 Z i0 i1 i2 i3 wH gz gf h0 n0 _ T207.heap _
      rw [hq207]
      exact ⟨rfl, N207⟩
  · subst hn
    have sg46 : own_G p e below s₁ (mkF m 46 (own_AIIIIIIIIUUUUU i0 i1 i2 i3 v5 v12 v19 (1 : Int32)) [(.int (1 : Int32))]) s₁ (mkF m 26 (own_AIIIIIIIIUUUUU i0 i1 i2 i3 v5 v12 v19 (1 : Int32)) []) := by
      intro t k
      refine XS.iload X0.here hx rfl (hb hby at_26) rfl ?_
      refine XS.ifYes X0.here hx rfl (pc0 := 28) (pc' := 39) rfl (hb hby at_28) rfl ((if0 _ _).trans (feq (by decide : ¬ ((1 : Int32) = (0 : Int32)))).2) (by decide) (by decide) ?_
      refine XS.iload X0.here hx rfl (hb hby at_39) rfl ?_
      refine XS.iconst X0.here hx rfl (hb hby at_41) ?_
      refine XS.icmpNo X0.here hx rfl (hb hby at_42) rfl (teq (by decide : (1 : Int32) = (1 : Int32))).2 ?_
      refine XS.iconst X0.here hx rfl (hb hby at_45) ?_
      exact k
    refine own_by sg46 ?_
    obtain ⟨T46, h46, kc46, X46, e46, E46, A46, st46⟩ := newP X0 hx hZ (own_w hw 1 rfl) e0 (g := (mkF m 46 (own_AIIIIIIIIUUUUU i0 i1 i2 i3 v5 v12 v19 (1 : Int32)) [(.int (1 : Int32))])) rfl (hb hby at_46) rfl (by decide) (cap := 1) (by decide) (by decide) (by decide) (by decide)
    obtain ⟨b46, g46⟩ : ∃ z, z = h0.size := ⟨_, rfl⟩
    rw [← g46] at A46 st46
    have g_b46 : n0 ≤ b46 := Nat.le_trans Z0 (Nat.le_of_eq g46.symm)
    have sz_b46 : h0.size ≤ b46 := Nat.le_trans K0.1 (Nat.le_of_eq g46.symm)
    have K46 := K0.ext E46
    have Z46 : n0 ≤ h46.size := Nat.le_trans Z0 E46.1
    have CC46 := CHr.ext E46 hH0
    have CR46 := (CHr.refl hH0).trans CC46
    have V46 : Arv Z h46 b46 kc46 .char (1 : Int32) [(.int (0 : Int32))] (.int (0 : Int32)) := (Arv.new A46 (by decide)).pad (pad_rep [] (.int (0 : Int32)) 1)
    refine own_by st46 ?_
    have sg52 : own_G p e below T46 (mkF m 52 (own_AIIIIIIIIUUUUU i0 i1 i2 i3 v5 v12 v19 (1 : Int32)) [(.int v5), (.int (0 : Int32)), (.ref b46), (.ref b46)]) T46 (mkF m 48 (own_AIIIIIIIIUUUUU i0 i1 i2 i3 v5 v12 v19 (1 : Int32)) [(.ref b46)]) := by
      intro t k
      refine XS.dup X46.here hx rfl (hb hby at_48) rfl rfl ?_
      refine XS.iconst X46.here hx rfl (hb hby at_49) ?_
      refine XS.iload X46.here hx rfl (hb hby at_50) rfl ?_
      exact k
    refine own_by sg52 ?_
    obtain ⟨cl52, Ar52, qa52, Sa52, Na52, Ha52, Ga52⟩ := id V46
    obtain ⟨T52, h52, X52, e52, W52, st52⟩ := stC X46 hx hZ e46 Ar52 (j := (0 : Int32)) (inb_of Sa52 ⟨by decide, by decide⟩) (g := (mkF m 52 (own_AIIIIIIIIUUUUU i0 i1 i2 i3 v5 v12 v19 (1 : Int32)) [(.int v5), (.int (0 : Int32)), (.ref b46), (.ref b46)])) rfl rfl (hb hby at_52)
    have V52 : Arv Z h52 b46 kc46 .char (1 : Int32) [(.int v5)] (.int (0 : Int32)) := by
      have q := Arv.set Ar52 qa52 Sa52 Na52 Ha52 Ga52 (fits_nar_char _) W52 0 rfl (Nat.le_of_ble_eq_true rfl)
      rw [own_narc16 hk_v5] at q
      exact q
    have K52 : Keep h0 h52 [] := K46.wr W52 (Or.inr sz_b46)
    have Z52 : n0 ≤ h52.size := Nat.le_trans Z46 (Keep.of_wr W52).1
    have CC52 := CHr.wr W52 (Safe.arv hZ.alike V46 (by decide)) CC46.1
    have CR52 := CR46.trans CC52
    have N52 := Fr.snoc X52 N0 g_b46
    refine own_by st52 ?_
    have sg102 : own_G p e below T52 (mkF m 102 (own_AIIIIIIIIRUUUU i0 i1 i2 i3 v5 v12 v19 (1 : Int32) b46) []) T52 (mkF m 53 (own_AIIIIIIIIUUUUU i0 i1 i2 i3 v5 v12 v19 (1 : Int32)) [(.ref b46)]) := by
      intro t k
      refine XS.astore X52.here hx rfl (hb hby at_53) rfl rfl (l' := (own_AIIIIIIIIRUUUU i0 i1 i2 i3 v5 v12 v19 (1 : Int32) b46)) rfl ?_
      refine XS.goto X52.here hx rfl (pc0 := 55) (pc' := 102) rfl (hb hby at_55) (by decide) (by decide) ?_
      exact k
    refine own_by sg102 ?_
    obtain ⟨T102, h102, X102, e102, E102, A102, D102, -, st102⟩ := newO X52 hx hZ hown (own_w hw 2 rfl) (own_w hw 3 rfl) (own_w hw 4 rfl) e52 (g := (mkF m 102 (own_AIIIIIIIIRUUUU i0 i1 i2 i3 v5 v12 v19 (1 : Int32) b46) [])) rfl (hb hby at_102) (by decide) (by decide)
    obtain ⟨b102, g102⟩ : ∃ z, z = h52.size := ⟨_, rfl⟩
    rw [← g102] at A102 D102 st102
    have ne_b46_b102 : b46 ≠ b102 := Nat.ne_of_lt (Nat.lt_of_lt_of_le V52.lt (Nat.le_of_eq g102.symm))
    have g_b102 : n0 ≤ b102 := Nat.le_trans Z52 (Nat.le_of_eq g102.symm)
    have sz_b102 : h0.size ≤ b102 := Nat.le_trans K52.1 (Nat.le_of_eq g102.symm)
    have K102 := K52.ext E102
    have Z102 : n0 ≤ h102.size := Nat.le_trans Z52 E102.1
    have CC102 := CHr.ext E102 CC52.1
    have CR102 := CR52.trans CC102
    have F_coder_b102 : Fld Z h102 b102 "java/lang/String" "coder" "B" (.int (0 : Int32)) := D102 (Or.inr (own_w hw 28 rfl)) (ty := .byte) (by decide)
    have F_value_b102 : Fld Z h102 b102 "java/lang/String" "value" "[B" .null := D102 (Or.inr (own_w hw 30 rfl)) (ty := (.array .byte)) (by decide)
    refine own_by st102 ?_
    have sg108 : own_G p e below T102 (mkF m 108 (own_AIIIIIIIIRUUUU i0 i1 i2 i3 v5 v12 v19 (1 : Int32) b46) [(.ref b46), (.ref b102), (.ref b102)]) T102 (mkF m 105 (own_AIIIIIIIIRUUUU i0 i1 i2 i3 v5 v12 v19 (1 : Int32) b46) [(.ref b102)]) := by
      intro t k
      refine XS.dup X102.here hx rfl (hb hby at_105) rfl rfl ?_
      refine XS.aload X102.here hx rfl (hb hby at_106) rfl rfl ?_
      exact k
    refine own_by sg108 ?_
    obtain ⟨_, _, ⟨T108, L108, k108, n108⟩, -, X108, ⟨Lc108, hQ108, l108, y108, z108⟩, st108⟩ := X102.specialBack hx (y := own_n53) rfl hown (mvT hZ (own_w hw 5 rfl)) (mvT hZ (own_w hw 6 rfl)) (mvT hZ (own_w hw 7 rfl)) (by decide) (backOf (W := 1) (rm1 l Z a0 hw [] b102 b46 kc46 ([v5] : List Int32) gz gf h102 n0 Z102 (((O.ext E46).wr W52 g_b46).ext E102) hst A102 F_value_b102 F_coder_b102 g_b102 (V52.ext E102) (by simp) (by simp) (List.forall_mem_cons.mpr ⟨hk_v5, (fun _ q => nomatch q)⟩)) hZ (own_w hw 7 rfl) (own_w hw 4 rfl) (by decide) (by decide)) (g := (mkF m 108 (own_AIIIIIIIIRUUUU i0 i1 i2 i3 v5 v12 v19 (1 : Int32) b46) [(.ref b46), (.ref b102), (.ref b102)])) rfl (by rw [hml]; rfl) (Steps.refl _) (a := b102) (argsL := [(.ref b46)]) (rest := [(.ref b102)]) (lenOf pd_0_0 rfl) rfl (Nat.le_of_eq rfl) (hb hby at_108) (fun _ _ => ⟨rfl, e102, (by decide : 2 + 2 ≤ _), (by decide : 5 + 87 ≤ _)⟩)
    dsimp only [Pt.U, Pt.locs, Pt.cells, Pt.slots] at X108 l108 y108 z108 st108 hQ108
    subst l108 y108 z108
    obtain ⟨rfl, N108q, Kq108, tt, kt, M, cd, gt, TT⟩ := hQ108
    have N108 := Fr.app N52 N108q
    have K108 : Keep h0 T108.heap [] := K102.trans Kq108 (fun x hx => by cases List.mem_singleton.mp hx; exact (Or.inr sz_b102))
    have Z108 : n0 ≤ T108.heap.size := Nat.le_trans Z102 Kq108.1
    have CC108 := CHr.keep Kq108 (sfS (own_safe0 hZ.alike A102 F_value_b102 (own_w hw 3 rfl)) sf0) CC102.1
    have CR108 := CR102.trans CC108
    refine own_by (fun t k => st108.trans k) ?_
    obtain ⟨_, _, ⟨T111, L111, k111, n111⟩, -, Xc111, hSc111, hgc111, ⟨Lc111, hQ111, l111, y111, z111, hC111⟩, st111⟩ := callSS X108 hx (y := own_n54) hown (mvT hZ (own_w hw 31 rfl)) (mvT hZ (own_w hw 32 rfl)) (mvT hZ (own_w hw 33 rfl)) (mvT hZ (own_w hw 34 rfl)) (by decide) (backOfSH (W := 0) (rm7 l Z a0 hw [] b102 tt kt M cd ([v5] : List Int32) wH gz gf T108.heap n0 Z108 ((((O.ext E46).wr W52 g_b46).ext E102).keep Kq108 (allS g_b102 all0)) hst TT (by simp) S_H hHX) hZ (own_w hw 34 rfl) (own_w hw 33 rfl) (by decide) (by decide) hEL CC108.1) (g := (mkF m 111 (own_AIIIIIIIIRUUUU i0 i1 i2 i3 v5 v12 v19 (1 : Int32) b46) [(.ref b102)])) rfl (by rw [hml]; rfl) (argsL := [(.ref b102)]) (rest := []) (lenOf pd_0_1 rfl) rfl (Nat.le_of_eq rfl) (hb hby at_111) (fun _ _ => ⟨rfl, rfl, (by decide : 4 + 34 ≤ _), (by decide : 92 + 2150 ≤ _)⟩)
    dsimp only [Pt.U, Pt.locs, Pt.cells, Pt.slots] at Xc111 hSc111 hgc111
    obtain ⟨X111, hS111, hZ111, hown111⟩ := rebS hS0 (Nat.le_trans (Nat.le_trans (Nat.le_trans (Nat.le_trans (Nat.zero_le _) E46.1) (Keep.of_wr W52).1) E102.1) Kq108.1) Xc111 hSc111 hgc111 hZ hown
    dsimp only [Pt.U, Pt.locs, Pt.cells, Pt.slots] at X111 l111 y111 z111 st111 hQ111
    subst l111 y111 z111
    obtain ⟨rr, t2, kt2, M2, cd2, rfl, ger, get, N111q, Kq111, TR⟩ := hQ111
    have N111 := Fr.app N108 N111q
    have K111 : Keep h0 T111.heap [] := K108.trans Kq111 (fun x hx => nomatch hx)
    have Z111 : n0 ≤ T111.heap.size := Nat.le_trans Z108 Kq111.1
    have CR111 := CR108.trans hC111
    refine own_by (fun t k => st111.trans k) ?_
    have sg124 : own_G p e below T111 (mkF m 124 (own_AIIIIIIIIRRUUU i0 i1 i2 i3 v5 v12 v19 (1 : Int32) b46 rr) [(.int v5)]) T111 (mkF m 114 (own_AIIIIIIIIRUUUU i0 i1 i2 i3 v5 v12 v19 (1 : Int32) b46) [(.ref rr)]) := by
      intro t k
      refine XS.astore X111.here hx rfl (hb hby at_114) rfl rfl (l' := (own_AIIIIIIIIRRUUU i0 i1 i2 i3 v5 v12 v19 (1 : Int32) b46 rr)) rfl ?_
      refine XS.iload X111.here hx rfl (hb hby at_116) rfl ?_
      refine XS.iconst X111.here hx rfl (hb hby at_118) ?_
      refine XS.icmpNo X111.here hx rfl (hb hby at_119) rfl (flt (by decide : ¬ ((1 : Int32) < (1 : Int32)))).1 ?_
      refine XS.iload X111.here hx rfl (hb hby at_122) rfl ?_
      exact k
    refine own_by sg124 ?_
    obtain ⟨_, _, ⟨T124, L124, k124, n124⟩, -, X124, ⟨Lc124, hQ124, l124, y124, z124⟩, st124⟩ := Jvm.LawKit.callS X111 hx (y := own_n55) hown111 (mvT hZ111 (own_w hw 206 rfl)) (mvT hZ111 (own_w hw 207 rfl)) (mvT hZ111 (own_w hw 208 rfl)) (mvT hZ111 (own_w hw 209 rfl)) (by decide) (backOf (W := 0) (rm39 l Z a0 hw [] v5 T111.heap n0 Z111) hZ111 (own_w hw 209 rfl) (own_w hw 208 rfl) (by decide) (by decide)) (g := (mkF m 124 (own_AIIIIIIIIRRUUU i0 i1 i2 i3 v5 v12 v19 (1 : Int32) b46 rr) [(.int v5)])) rfl (by rw [hml]; rfl) (argsL := [(.int v5)]) (rest := []) (lenOf pd_0_4 rfl) rfl (Nat.le_of_eq rfl) (hb hby at_124) (fun _ _ => ⟨rfl, rfl, (by decide : 38 + 0 ≤ _), (by decide : 2242 + 0 ≤ _)⟩)
    dsimp only [Pt.U, Pt.locs, Pt.cells, Pt.slots] at X124 l124 y124 z124 st124 hQ124
    subst l124 y124 z124
    obtain ⟨rfl, N124q, hq124⟩ := hQ124
    have N124 := Fr.app N111 N124q
    obtain ⟨c124, hc124⟩ : ∃ z : Int32, z = (own_encj v5) := ⟨_, rfl⟩
    rw [← hc124] at st124
    have nt_c124 : c124 = Int32.ofNat ((own_esc v5).length) := hc124.trans (own_elen v5)
    refine own_by st124 ?_
    have hjl := own_jl1 v5
    have le_v5 := own_esc_len v5
    have sg169 : own_G p e below T124 (mkF m 169 (own_AIIIIIIIIRRIII i0 i1 i2 i3 v5 v12 v19 (1 : Int32) b46 rr c124 (0 : Int32) (0 : Int32)) [(.ref rr)]) T124 (mkF m 127 (own_AIIIIIIIIRRUUU i0 i1 i2 i3 v5 v12 v19 (1 : Int32) b46 rr) [(.int c124)]) := by
      intro t k
      refine XS.goto X124.here hx rfl (pc0 := 127) (pc' := 131) rfl (hb hby at_127) (by decide) (by decide) ?_
      refine XS.istore X124.here hx rfl (hb hby at_131) rfl (l' := (own_AIIIIIIIIRRIUU i0 i1 i2 i3 v5 v12 v19 (1 : Int32) b46 rr c124)) rfl ?_
      refine XS.iload X124.here hx rfl (hb hby at_133) rfl ?_
      refine XS.iconst X124.here hx rfl (hb hby at_135) ?_
      refine XS.icmpYes X124.here hx rfl (pc0 := 136) (pc' := 147) rfl (hb hby at_136) rfl (tlt (by decide : (1 : Int32) < (2 : Int32))).1 (by decide) (by decide) ?_
      refine XS.iconst X124.here hx rfl (hb hby at_147) ?_
      refine XS.istore X124.here hx rfl (hb hby at_148) rfl (l' := (own_AIIIIIIIIRRIIU i0 i1 i2 i3 v5 v12 v19 (1 : Int32) b46 rr c124 (0 : Int32))) rfl ?_
      refine XS.iload X124.here hx rfl (hb hby at_150) rfl ?_
      refine XS.iconst X124.here hx rfl (hb hby at_152) ?_
      refine XS.icmpYes X124.here hx rfl (pc0 := 153) (pc' := 164) rfl (hb hby at_153) rfl (tlt (by decide : (1 : Int32) < (3 : Int32))).1 (by decide) (by decide) ?_
      refine XS.iconst X124.here hx rfl (hb hby at_164) ?_
      refine XS.istore X124.here hx rfl (hb hby at_165) rfl (l' := (own_AIIIIIIIIRRIII i0 i1 i2 i3 v5 v12 v19 (1 : Int32) b46 rr c124 (0 : Int32) (0 : Int32))) rfl ?_
      refine XS.aload X124.here hx rfl (hb hby at_167) rfl rfl ?_
      exact k
    refine own_by sg169 ?_
    obtain ⟨cq169, kq169, q169a, q169b, q169c⟩ := isOf hZ111 hq124 TR.1
    obtain ⟨_, _, ⟨T169, L169, k169, n169⟩, -, X169, ⟨Lc169, hQ169, l169, y169, z169⟩, st169⟩ := X124.virtualBack hx (y := own_n30) (z := own_n30) hown111 (mvT hZ111 (own_w hw 210 rfl)) (mvT hZ111 (own_w hw 39 rfl)) (notFace_of_selects (args := #[]) (mvT hZ111 (own_w hw 41 rfl))) (mvT hZ111 (own_w hw 41 rfl)) (mvT hZ111 (own_w hw 40 rfl)) (by decide) (backOf (W := 0) (rm8 l Z a0 hw [] rr t2 kt2 M2 cd2 (own_json ([v5] : List Int32)) gz gf T111.heap n0 Z111 (((((O.ext E46).wr W52 g_b46).ext E102).keep Kq108 (allS g_b102 all0)).keep Kq111 all0) hst TR) hZ111 (own_w hw 42 rfl) (own_w hw 4 rfl) (by decide) (by decide)) q169a q169c (g := (mkF m 169 (own_AIIIIIIIIRRIII i0 i1 i2 i3 v5 v12 v19 (1 : Int32) b46 rr c124 (0 : Int32) (0 : Int32)) [(.ref rr)])) rfl (by rw [hml]; rfl) (Steps.refl _) (argsL := []) (rest := []) (lenOf pd_0_2 rfl) rfl (Nat.le_of_eq rfl) (hb hby at_169) (fun _ _ => ⟨rfl, hq124, (by decide : 38 + 0 ≤ _), (by decide : 2242 + 0 ≤ _)⟩)
    dsimp only [Pt.U, Pt.locs, Pt.cells, Pt.slots] at X169 l169 y169 z169 st169 hQ169
    subst l169 y169 z169
    obtain ⟨rfl, N169q, hq169⟩ := hQ169
    have N169 := Fr.app N124 N169q
    obtain ⟨c169, hc169⟩ : ∃ z : Int32, z = (Int32.ofNat ((own_json ([v5] : List Int32))).length) := ⟨_, rfl⟩
    rw [← hc169] at st169
    have nt_c169 : c169 = Int32.ofNat (((own_json ([v5] : List Int32))).length) := hc169
    refine own_by (fun t k => st169.trans k) ?_
    obtain ⟨t175, ht175⟩ : ∃ z : Int32, z = ((2 : Int32) + c124) := ⟨_, rfl⟩
    have sg176 : own_G p e below T169 (mkF m 176 (own_AIIIIIIIIRRIII i0 i1 i2 i3 v5 v12 v19 (1 : Int32) b46 rr c124 (0 : Int32) (0 : Int32)) [(.int t175), (.int c169)]) T169 (mkF m 172 (own_AIIIIIIIIRRIII i0 i1 i2 i3 v5 v12 v19 (1 : Int32) b46 rr c124 (0 : Int32) (0 : Int32)) [(.int c169)]) := by
      intro t k
      rw [ht175] at k
      refine XS.iconst X169.here hx rfl (hb hby at_172) ?_
      refine XS.iload X169.here hx rfl (hb hby at_173) rfl ?_
      refine XS.iadd X169.here hx rfl (hb hby at_175) rfl ?_
      exact k
    refine own_by sg176 ?_
    have nt_t175 : t175 = Int32.ofNat (2 + (own_esc v5).length) := ht175.trans (own_nadd rfl nt_c124)
    obtain ⟨t178, ht178⟩ : ∃ z : Int32, z = (t175 + (0 : Int32)) := ⟨_, rfl⟩
    have sg179 : own_G p e below T169 (mkF m 179 (own_AIIIIIIIIRRIII i0 i1 i2 i3 v5 v12 v19 (1 : Int32) b46 rr c124 (0 : Int32) (0 : Int32)) [(.int t178), (.int c169)]) T169 (mkF m 176 (own_AIIIIIIIIRRIII i0 i1 i2 i3 v5 v12 v19 (1 : Int32) b46 rr c124 (0 : Int32) (0 : Int32)) [(.int t175), (.int c169)]) := by
      intro t k
      rw [ht178] at k
      refine XS.iload X169.here hx rfl (hb hby at_176) rfl ?_
      refine XS.iadd X169.here hx rfl (hb hby at_178) rfl ?_
      exact k
    refine own_by sg179 ?_
    have nt_t178 : t178 = Int32.ofNat (2 + (own_esc v5).length + 0) := ht178.trans (own_nadd nt_t175 rfl)
    obtain ⟨t181, ht181⟩ : ∃ z : Int32, z = (t178 + (0 : Int32)) := ⟨_, rfl⟩
    have sg182 : own_G p e below T169 (mkF m 182 (own_AIIIIIIIIRRIII i0 i1 i2 i3 v5 v12 v19 (1 : Int32) b46 rr c124 (0 : Int32) (0 : Int32)) [(.int t181), (.int c169)]) T169 (mkF m 179 (own_AIIIIIIIIRRIII i0 i1 i2 i3 v5 v12 v19 (1 : Int32) b46 rr c124 (0 : Int32) (0 : Int32)) [(.int t178), (.int c169)]) := by
      intro t k
      rw [ht181] at k
      refine XS.iload X169.here hx rfl (hb hby at_179) rfl ?_
      refine XS.iadd X169.here hx rfl (hb hby at_181) rfl ?_
      exact k
    refine own_by sg182 ?_
    have nt_t181 : t181 = Int32.ofNat (2 + (own_esc v5).length + 0 + 0) := ht181.trans (own_nadd nt_t178 rfl)
    have sg190 : own_G p e below T169 (mkF m 190 (own_AIIIIIIIIRRIII i0 i1 i2 i3 v5 v12 v19 (1 : Int32) b46 rr c124 (0 : Int32) (0 : Int32)) [(.int (0 : Int32)), (.ref rr)]) T169 (mkF m 182 (own_AIIIIIIIIRRIII i0 i1 i2 i3 v5 v12 v19 (1 : Int32) b46 rr c124 (0 : Int32) (0 : Int32)) [(.int t181), (.int c169)]) := by
      intro t k
      refine XS.icmpYes X169.here hx rfl (pc0 := 182) (pc' := 187) rfl (hb hby at_182) rfl (teq ((own_neq nt_c169 nt_t181 (by omega) (by omega)).mpr (by omega) : c169 = t181)).1 (by decide) (by decide) ?_
      refine XS.aload X169.here hx rfl (hb hby at_187) rfl rfl ?_
      refine XS.iconst X169.here hx rfl (hb hby at_189) ?_
      exact k
    refine own_by sg190 ?_
    obtain ⟨cq190, kq190, q190a, q190b, q190c⟩ := isOf hZ111 hq169 TR.1
    obtain ⟨_, _, ⟨T190, L190, k190, n190⟩, -, X190, ⟨Lc190, hQ190, l190, y190, z190⟩, st190⟩ := X169.virtualBack hx (y := own_n47) (z := own_n47) hown111 (mvT hZ111 (own_w hw 211 rfl)) (mvT hZ111 (own_w hw 90 rfl)) (notFace_of_selects (args := #[]) (mvT hZ111 (own_w hw 92 rfl))) (mvT hZ111 (own_w hw 92 rfl)) (mvT hZ111 (own_w hw 91 rfl)) (by decide) (backOf (W := 0) (rm17 l Z a0 hw [] rr (0 : Int32) t2 kt2 M2 cd2 (own_json ([v5] : List Int32)) (0) (34 : Int32) gz gf T111.heap n0 Z111 (((((O.ext E46).wr W52 g_b46).ext E102).keep Kq108 (allS g_b102 all0)).keep Kq111 all0) hst TR rfl (own_jfirst _)) hZ111 (own_w hw 93 rfl) (own_w hw 4 rfl) (by decide) (by decide)) q190a q190c (g := (mkF m 190 (own_AIIIIIIIIRRIII i0 i1 i2 i3 v5 v12 v19 (1 : Int32) b46 rr c124 (0 : Int32) (0 : Int32)) [(.int (0 : Int32)), (.ref rr)])) rfl (by rw [hml]; rfl) (Steps.refl _) (argsL := [(.int (0 : Int32))]) (rest := []) (lenOf pd_0_3 rfl) rfl (Nat.le_of_eq rfl) (hb hby at_190) (fun _ _ => ⟨rfl, hq169, (by decide : 38 + 0 ≤ _), (by decide : 2242 + 0 ≤ _)⟩)
    dsimp only [Pt.U, Pt.locs, Pt.cells, Pt.slots] at X190 l190 y190 z190 st190 hQ190
    subst l190 y190 z190
    obtain ⟨rfl, N190q, hq190⟩ := hQ190
    have N190 := Fr.app N169 N190q
    refine own_by (fun t k => st190.trans k) ?_
    have sg202 : own_G p e below T190 (mkF m 202 (own_AIIIIIIIIRRIII i0 i1 i2 i3 v5 v12 v19 (1 : Int32) b46 rr c124 (0 : Int32) (0 : Int32)) [(.ref rr), (.ref rr)]) T190 (mkF m 193 (own_AIIIIIIIIRRIII i0 i1 i2 i3 v5 v12 v19 (1 : Int32) b46 rr c124 (0 : Int32) (0 : Int32)) [(.int (34 : Int32))]) := by
      intro t k
      refine XS.bipush X190.here hx rfl (hb hby at_193) ?_
      refine XS.icmpNo X190.here hx rfl (hb hby at_195) rfl (teq (by decide : (34 : Int32) = (34 : Int32))).2 ?_
      refine XS.aload X190.here hx rfl (hb hby at_198) rfl rfl ?_
      refine XS.aload X190.here hx rfl (hb hby at_200) rfl rfl ?_
      exact k
    refine own_by sg202 ?_
    obtain ⟨cq202, kq202, q202a, q202b, q202c⟩ := isOf hZ111 hq190 TR.1
    obtain ⟨_, _, ⟨T202, L202, k202, n202⟩, -, X202, ⟨Lc202, hQ202, l202, y202, z202⟩, st202⟩ := X190.virtualBack hx (y := own_n30) (z := own_n30) hown111 (mvT hZ111 (own_w hw 210 rfl)) (mvT hZ111 (own_w hw 39 rfl)) (notFace_of_selects (args := #[]) (mvT hZ111 (own_w hw 41 rfl))) (mvT hZ111 (own_w hw 41 rfl)) (mvT hZ111 (own_w hw 40 rfl)) (by decide) (backOf (W := 1) (rm8 l Z a0 hw [] rr t2 kt2 M2 cd2 (own_json ([v5] : List Int32)) gz gf T111.heap n0 Z111 (((((O.ext E46).wr W52 g_b46).ext E102).keep Kq108 (allS g_b102 all0)).keep Kq111 all0) hst TR) hZ111 (own_w hw 42 rfl) (own_w hw 4 rfl) (by decide) (by decide)) q202a q202c (g := (mkF m 202 (own_AIIIIIIIIRRIII i0 i1 i2 i3 v5 v12 v19 (1 : Int32) b46 rr c124 (0 : Int32) (0 : Int32)) [(.ref rr), (.ref rr)])) rfl (by rw [hml]; rfl) (Steps.refl _) (argsL := []) (rest := [(.ref rr)]) (lenOf pd_0_2 rfl) rfl (Nat.le_of_eq rfl) (hb hby at_202) (fun _ _ => ⟨rfl, hq190, (by decide : 38 + 0 ≤ _), (by decide : 2242 + 0 ≤ _)⟩)
    dsimp only [Pt.U, Pt.locs, Pt.cells, Pt.slots] at X202 l202 y202 z202 st202 hQ202
    subst l202 y202 z202
    obtain ⟨rfl, N202q, hq202⟩ := hQ202
    have N202 := Fr.app N190 N202q
    obtain ⟨c202, hc202⟩ : ∃ z : Int32, z = (Int32.ofNat ((own_json ([v5] : List Int32))).length) := ⟨_, rfl⟩
    rw [← hc202] at st202
    have nt_c202 : c202 = Int32.ofNat (((own_json ([v5] : List Int32))).length) := hc202
    refine own_by (fun t k => st202.trans k) ?_
    obtain ⟨t206, ht206⟩ : ∃ z : Int32, z = (c202 - (1 : Int32)) := ⟨_, rfl⟩
    have sg207 : own_G p e below T202 (mkF m 207 (own_AIIIIIIIIRRIII i0 i1 i2 i3 v5 v12 v19 (1 : Int32) b46 rr c124 (0 : Int32) (0 : Int32)) [(.int t206), (.ref rr)]) T202 (mkF m 205 (own_AIIIIIIIIRRIII i0 i1 i2 i3 v5 v12 v19 (1 : Int32) b46 rr c124 (0 : Int32) (0 : Int32)) [(.int c202), (.ref rr)]) := by
      intro t k
      rw [ht206] at k
      refine XS.iconst X202.here hx rfl (hb hby at_205) ?_
      refine XS.isub X202.here hx rfl (hb hby at_206) rfl ?_
      exact k
    refine own_by sg207 ?_
    have nt_t206 : t206 = Int32.ofNat (((own_json ([v5] : List Int32))).length - (1)) := ht206.trans (own_nsub nt_c202 rfl (by omega))
    obtain ⟨cq207, kq207, q207a, q207b, q207c⟩ := isOf hZ111 hq202 TR.1
    obtain ⟨_, _, ⟨T207, L207, k207, n207⟩, -, X207, ⟨Lc207, hQ207, l207, y207, z207⟩, st207⟩ := X202.virtualBack hx (y := own_n47) (z := own_n47) hown111 (mvT hZ111 (own_w hw 211 rfl)) (mvT hZ111 (own_w hw 90 rfl)) (notFace_of_selects (args := #[]) (mvT hZ111 (own_w hw 92 rfl))) (mvT hZ111 (own_w hw 92 rfl)) (mvT hZ111 (own_w hw 91 rfl)) (by decide) (backOf (W := 0) (rm17 l Z a0 hw [] rr t206 t2 kt2 M2 cd2 (own_json ([v5] : List Int32)) (((own_json ([v5] : List Int32))).length - (1)) (34 : Int32) gz gf T111.heap n0 Z111 (((((O.ext E46).wr W52 g_b46).ext E102).keep Kq108 (allS g_b102 all0)).keep Kq111 all0) hst TR nt_t206 (own_jlast _)) hZ111 (own_w hw 93 rfl) (own_w hw 4 rfl) (by decide) (by decide)) q207a q207c (g := (mkF m 207 (own_AIIIIIIIIRRIII i0 i1 i2 i3 v5 v12 v19 (1 : Int32) b46 rr c124 (0 : Int32) (0 : Int32)) [(.int t206), (.ref rr)])) rfl (by rw [hml]; rfl) (Steps.refl _) (argsL := [(.int t206)]) (rest := []) (lenOf pd_0_3 rfl) rfl (Nat.le_of_eq rfl) (hb hby at_207) (fun _ _ => ⟨rfl, hq202, (by decide : 38 + 0 ≤ _), (by decide : 2242 + 0 ≤ _)⟩)
    dsimp only [Pt.U, Pt.locs, Pt.cells, Pt.slots] at X207 l207 y207 z207 st207 hQ207
    subst l207 y207 z207
    obtain ⟨rfl, N207q, hq207⟩ := hQ207
    have N207 := Fr.app N202 N207q
    refine own_by (fun t k => st207.trans k) ?_
    have sg228 : own_G p e below T207 (mkF m 228 (own_AIIIIIIIIRRIII i0 i1 i2 i3 v5 v12 v19 (1 : Int32) b46 rr c124 (0 : Int32) (0 : Int32)) [(.int v5), (.int (1 : Int32)), (.ref rr)]) T207 (mkF m 210 (own_AIIIIIIIIRRIII i0 i1 i2 i3 v5 v12 v19 (1 : Int32) b46 rr c124 (0 : Int32) (0 : Int32)) [(.int (34 : Int32))]) := by
      intro t k
      refine XS.bipush X207.here hx rfl (hb hby at_210) ?_
      refine XS.icmpYes X207.here hx rfl (pc0 := 212) (pc' := 217) rfl (hb hby at_212) rfl (teq (by decide : (34 : Int32) = (34 : Int32))).1 (by decide) (by decide) ?_
      refine XS.iload X207.here hx rfl (hb hby at_217) rfl ?_
      refine XS.iconst X207.here hx rfl (hb hby at_219) ?_
      refine XS.icmpNo X207.here hx rfl (hb hby at_220) rfl (flt (by decide : ¬ ((1 : Int32) < (1 : Int32)))).1 ?_
      refine XS.aload X207.here hx rfl (hb hby at_223) rfl rfl ?_
      refine XS.iconst X207.here hx rfl (hb hby at_225) ?_
      refine XS.iload X207.here hx rfl (hb hby at_226) rfl ?_
      exact k
    refine own_by sg228 ?_
    obtain ⟨_, _, ⟨T228, L228, k228, n228⟩, -, X228, ⟨Lc228, hQ228, l228, y228, z228⟩, st228⟩ := Jvm.LawKit.callS X207 hx (y := own_n56) hown111 (mvT hZ111 (own_w hw 212 rfl)) (mvT hZ111 (own_w hw 213 rfl)) (mvT hZ111 (own_w hw 208 rfl)) (mvT hZ111 (own_w hw 214 rfl)) (by decide) (backOf (W := 0) (rm40 l Z a0 hw [] rr (1 : Int32) v5 t2 kt2 M2 cd2 (own_json ([v5] : List Int32)) (1) gz gf T111.heap n0 Z111 (((((O.ext E46).wr W52 g_b46).ext E102).keep Kq108 (allS g_b102 all0)).keep Kq111 all0) hst TR rfl hk_v5 (fun k e h => own_at0 v5 _ k e h)) hZ111 (own_w hw 214 rfl) (own_w hw 208 rfl) (by decide) (by decide)) (g := (mkF m 228 (own_AIIIIIIIIRRIII i0 i1 i2 i3 v5 v12 v19 (1 : Int32) b46 rr c124 (0 : Int32) (0 : Int32)) [(.int v5), (.int (1 : Int32)), (.ref rr)])) rfl (by rw [hml]; rfl) (argsL := [(.ref rr), (.int (1 : Int32)), (.int v5)]) (rest := []) (lenOf pd_0_5 rfl) rfl (Nat.le_of_eq rfl) (hb hby at_228) (fun _ _ => ⟨rfl, hq207, (by decide : 38 + 0 ≤ _), (by decide : 2242 + 0 ≤ _)⟩)
    dsimp only [Pt.U, Pt.locs, Pt.cells, Pt.slots] at X228 l228 y228 z228 st228 hQ228
    subst l228 y228 z228
    obtain ⟨rfl, N228q, hq228⟩ := hQ228
    have N228 := Fr.app N207 N228q
    refine own_by st228 ?_
    have sg284 : own_G p e below T228 (mkF m 284 (own_AIIIIIIIIRRIII i0 i1 i2 i3 v5 v12 v19 (1 : Int32) b46 rr c124 (0 : Int32) (0 : Int32)) [(.int (1 : Int32))]) T228 (mkF m 231 (own_AIIIIIIIIRRIII i0 i1 i2 i3 v5 v12 v19 (1 : Int32) b46 rr c124 (0 : Int32) (0 : Int32)) [(.int (1 : Int32))]) := by
      intro t k
      refine XS.ifYes X228.here hx rfl (pc0 := 231) (pc' := 236) rfl (hb hby at_231) rfl ((if0 _ _).trans (feq (by decide : ¬ ((1 : Int32) = (0 : Int32)))).2) (by decide) (by decide) ?_
      refine XS.iload X228.here hx rfl (hb hby at_236) rfl ?_
      refine XS.iconst X228.here hx rfl (hb hby at_238) ?_
      refine XS.icmpYes X228.here hx rfl (pc0 := 239) (pc' := 258) rfl (hb hby at_239) rfl (tlt (by decide : (1 : Int32) < (2 : Int32))).1 (by decide) (by decide) ?_
      refine XS.iload X228.here hx rfl (hb hby at_258) rfl ?_
      refine XS.iconst X228.here hx rfl (hb hby at_260) ?_
      refine XS.icmpYes X228.here hx rfl (pc0 := 261) (pc' := 283) rfl (hb hby at_261) rfl (tlt (by decide : (1 : Int32) < (3 : Int32))).1 (by decide) (by decide) ?_
      refine XS.iconst X228.here hx rfl (hb hby at_283) ?_
      exact k
    refine own_by sg284 ?_
    obtain ⟨fs, hr, hrun, hended, hW⟩ := X228.leaveW hS111 (by rw [hq228]; exact (Nat.le_refl _)) (v := some (.int (1 : Int32))) (fun h => by rw [Bd.returns] at h; cases h)
    refine ⟨_, _, ?_, hrun, hended, _, _, rfl, ?_, (by rw [hh]; show CHr Z consts_1 s.vm h0 T228.vm T228.heap; rw [hq228]; exact CR111.trans (CHv.at X228 hZ111 hEL hC111.1)), hW.1, hW.2.1, hW.2.2.1, hW.2.2.2.mono (by decide) (by decide)⟩
    · exact retN X228 hx (t := .boolean) Bd.returns (by simp) (hb hby at_284) hr
    · show Q0 Z i0 i1 i2 i3 wH gz gf h0 n0 _ T228.heap _
      rw [hq228]
      exact ⟨rfl, N228⟩
  · subst hn
    have sg65 : own_G p e below s₁ (mkF m 65 (own_AIIIIIIIIUUUUU i0 i1 i2 i3 v5 v12 v19 (2 : Int32)) [(.int (2 : Int32))]) s₁ (mkF m 26 (own_AIIIIIIIIUUUUU i0 i1 i2 i3 v5 v12 v19 (2 : Int32)) []) := by
      intro t k
      refine XS.iload X0.here hx rfl (hb hby at_26) rfl ?_
      refine XS.ifYes X0.here hx rfl (pc0 := 28) (pc' := 39) rfl (hb hby at_28) rfl ((if0 _ _).trans (feq (by decide : ¬ ((2 : Int32) = (0 : Int32)))).2) (by decide) (by decide) ?_
      refine XS.iload X0.here hx rfl (hb hby at_39) rfl ?_
      refine XS.iconst X0.here hx rfl (hb hby at_41) ?_
      refine XS.icmpYes X0.here hx rfl (pc0 := 42) (pc' := 58) rfl (hb hby at_42) rfl (feq (by decide : ¬ ((2 : Int32) = (1 : Int32)))).2 (by decide) (by decide) ?_
      refine XS.iload X0.here hx rfl (hb hby at_58) rfl ?_
      refine XS.iconst X0.here hx rfl (hb hby at_60) ?_
      refine XS.icmpNo X0.here hx rfl (hb hby at_61) rfl (teq (by decide : (2 : Int32) = (2 : Int32))).2 ?_
      refine XS.iconst X0.here hx rfl (hb hby at_64) ?_
      exact k
    refine own_by sg65 ?_
    obtain ⟨T65, h65, kc65, X65, e65, E65, A65, st65⟩ := newP X0 hx hZ (own_w hw 1 rfl) e0 (g := (mkF m 65 (own_AIIIIIIIIUUUUU i0 i1 i2 i3 v5 v12 v19 (2 : Int32)) [(.int (2 : Int32))])) rfl (hb hby at_65) rfl (by decide) (cap := 2) (by decide) (by decide) (by decide) (by decide)
    obtain ⟨b65, g65⟩ : ∃ z, z = h0.size := ⟨_, rfl⟩
    rw [← g65] at A65 st65
    have g_b65 : n0 ≤ b65 := Nat.le_trans Z0 (Nat.le_of_eq g65.symm)
    have sz_b65 : h0.size ≤ b65 := Nat.le_trans K0.1 (Nat.le_of_eq g65.symm)
    have K65 := K0.ext E65
    have Z65 : n0 ≤ h65.size := Nat.le_trans Z0 E65.1
    have CC65 := CHr.ext E65 hH0
    have CR65 := (CHr.refl hH0).trans CC65
    have V65 : Arv Z h65 b65 kc65 .char (2 : Int32) [(.int (0 : Int32)), (.int (0 : Int32))] (.int (0 : Int32)) := (Arv.new A65 (by decide)).pad (pad_rep [] (.int (0 : Int32)) 2)
    refine own_by st65 ?_
    have sg71 : own_G p e below T65 (mkF m 71 (own_AIIIIIIIIUUUUU i0 i1 i2 i3 v5 v12 v19 (2 : Int32)) [(.int v5), (.int (0 : Int32)), (.ref b65), (.ref b65)]) T65 (mkF m 67 (own_AIIIIIIIIUUUUU i0 i1 i2 i3 v5 v12 v19 (2 : Int32)) [(.ref b65)]) := by
      intro t k
      refine XS.dup X65.here hx rfl (hb hby at_67) rfl rfl ?_
      refine XS.iconst X65.here hx rfl (hb hby at_68) ?_
      refine XS.iload X65.here hx rfl (hb hby at_69) rfl ?_
      exact k
    refine own_by sg71 ?_
    obtain ⟨cl71, Ar71, qa71, Sa71, Na71, Ha71, Ga71⟩ := id V65
    obtain ⟨T71, h71, X71, e71, W71, st71⟩ := stC X65 hx hZ e65 Ar71 (j := (0 : Int32)) (inb_of Sa71 ⟨by decide, by decide⟩) (g := (mkF m 71 (own_AIIIIIIIIUUUUU i0 i1 i2 i3 v5 v12 v19 (2 : Int32)) [(.int v5), (.int (0 : Int32)), (.ref b65), (.ref b65)])) rfl rfl (hb hby at_71)
    have V71 : Arv Z h71 b65 kc65 .char (2 : Int32) [(.int v5), (.int (0 : Int32))] (.int (0 : Int32)) := by
      have q := Arv.set Ar71 qa71 Sa71 Na71 Ha71 Ga71 (fits_nar_char _) W71 0 rfl (Nat.le_of_ble_eq_true rfl)
      rw [own_narc16 hk_v5] at q
      exact q
    have K71 : Keep h0 h71 [] := K65.wr W71 (Or.inr sz_b65)
    have Z71 : n0 ≤ h71.size := Nat.le_trans Z65 (Keep.of_wr W71).1
    have CC71 := CHr.wr W71 (Safe.arv hZ.alike V65 (by decide)) CC65.1
    have CR71 := CR65.trans CC71
    have N71 := Fr.snoc X71 N0 g_b65
    refine own_by st71 ?_
    have sg76 : own_G p e below T71 (mkF m 76 (own_AIIIIIIIIUUUUU i0 i1 i2 i3 v5 v12 v19 (2 : Int32)) [(.int v12), (.int (1 : Int32)), (.ref b65), (.ref b65)]) T71 (mkF m 72 (own_AIIIIIIIIUUUUU i0 i1 i2 i3 v5 v12 v19 (2 : Int32)) [(.ref b65)]) := by
      intro t k
      refine XS.dup X71.here hx rfl (hb hby at_72) rfl rfl ?_
      refine XS.iconst X71.here hx rfl (hb hby at_73) ?_
      refine XS.iload X71.here hx rfl (hb hby at_74) rfl ?_
      exact k
    refine own_by sg76 ?_
    obtain ⟨cl76, Ar76, qa76, Sa76, Na76, Ha76, Ga76⟩ := id V71
    obtain ⟨T76, h76, X76, e76, W76, st76⟩ := stC X71 hx hZ e71 Ar76 (j := (1 : Int32)) (inb_of Sa76 ⟨by decide, by decide⟩) (g := (mkF m 76 (own_AIIIIIIIIUUUUU i0 i1 i2 i3 v5 v12 v19 (2 : Int32)) [(.int v12), (.int (1 : Int32)), (.ref b65), (.ref b65)])) rfl rfl (hb hby at_76)
    have V76 : Arv Z h76 b65 kc65 .char (2 : Int32) [(.int v5), (.int v12)] (.int (0 : Int32)) := by
      have q := Arv.set Ar76 qa76 Sa76 Na76 Ha76 Ga76 (fits_nar_char _) W76 1 rfl (Nat.le_of_ble_eq_true rfl)
      rw [own_narc16 hk_v12] at q
      exact q
    have K76 : Keep h0 h76 [] := K71.wr W76 (Or.inr sz_b65)
    have Z76 : n0 ≤ h76.size := Nat.le_trans Z71 (Keep.of_wr W76).1
    have CC76 := CHr.wr W76 (Safe.arv hZ.alike V71 (by decide)) CC71.1
    have CR76 := CR71.trans CC76
    have N76 := Fr.snoc X76 N71 g_b65
    refine own_by st76 ?_
    have sg102 : own_G p e below T76 (mkF m 102 (own_AIIIIIIIIRUUUU i0 i1 i2 i3 v5 v12 v19 (2 : Int32) b65) []) T76 (mkF m 77 (own_AIIIIIIIIUUUUU i0 i1 i2 i3 v5 v12 v19 (2 : Int32)) [(.ref b65)]) := by
      intro t k
      refine XS.astore X76.here hx rfl (hb hby at_77) rfl rfl (l' := (own_AIIIIIIIIRUUUU i0 i1 i2 i3 v5 v12 v19 (2 : Int32) b65)) rfl ?_
      refine XS.goto X76.here hx rfl (pc0 := 79) (pc' := 102) rfl (hb hby at_79) (by decide) (by decide) ?_
      exact k
    refine own_by sg102 ?_
    obtain ⟨T102, h102, X102, e102, E102, A102, D102, -, st102⟩ := newO X76 hx hZ hown (own_w hw 2 rfl) (own_w hw 3 rfl) (own_w hw 4 rfl) e76 (g := (mkF m 102 (own_AIIIIIIIIRUUUU i0 i1 i2 i3 v5 v12 v19 (2 : Int32) b65) [])) rfl (hb hby at_102) (by decide) (by decide)
    obtain ⟨b102, g102⟩ : ∃ z, z = h76.size := ⟨_, rfl⟩
    rw [← g102] at A102 D102 st102
    have ne_b65_b102 : b65 ≠ b102 := Nat.ne_of_lt (Nat.lt_of_lt_of_le V76.lt (Nat.le_of_eq g102.symm))
    have g_b102 : n0 ≤ b102 := Nat.le_trans Z76 (Nat.le_of_eq g102.symm)
    have sz_b102 : h0.size ≤ b102 := Nat.le_trans K76.1 (Nat.le_of_eq g102.symm)
    have K102 := K76.ext E102
    have Z102 : n0 ≤ h102.size := Nat.le_trans Z76 E102.1
    have CC102 := CHr.ext E102 CC76.1
    have CR102 := CR76.trans CC102
    have F_coder_b102 : Fld Z h102 b102 "java/lang/String" "coder" "B" (.int (0 : Int32)) := D102 (Or.inr (own_w hw 28 rfl)) (ty := .byte) (by decide)
    have F_value_b102 : Fld Z h102 b102 "java/lang/String" "value" "[B" .null := D102 (Or.inr (own_w hw 30 rfl)) (ty := (.array .byte)) (by decide)
    refine own_by st102 ?_
    have sg108 : own_G p e below T102 (mkF m 108 (own_AIIIIIIIIRUUUU i0 i1 i2 i3 v5 v12 v19 (2 : Int32) b65) [(.ref b65), (.ref b102), (.ref b102)]) T102 (mkF m 105 (own_AIIIIIIIIRUUUU i0 i1 i2 i3 v5 v12 v19 (2 : Int32) b65) [(.ref b102)]) := by
      intro t k
      refine XS.dup X102.here hx rfl (hb hby at_105) rfl rfl ?_
      refine XS.aload X102.here hx rfl (hb hby at_106) rfl rfl ?_
      exact k
    refine own_by sg108 ?_
    obtain ⟨_, _, ⟨T108, L108, k108, n108⟩, -, X108, ⟨Lc108, hQ108, l108, y108, z108⟩, st108⟩ := X102.specialBack hx (y := own_n53) rfl hown (mvT hZ (own_w hw 5 rfl)) (mvT hZ (own_w hw 6 rfl)) (mvT hZ (own_w hw 7 rfl)) (by decide) (backOf (W := 1) (rm1 l Z a0 hw [] b102 b65 kc65 ([v5, v12] : List Int32) gz gf h102 n0 Z102 ((((O.ext E65).wr W71 g_b65).wr W76 g_b65).ext E102) hst A102 F_value_b102 F_coder_b102 g_b102 (V76.ext E102) (by simp) (by simp) (List.forall_mem_cons.mpr ⟨hk_v5, (List.forall_mem_cons.mpr ⟨hk_v12, (fun _ q => nomatch q)⟩)⟩)) hZ (own_w hw 7 rfl) (own_w hw 4 rfl) (by decide) (by decide)) (g := (mkF m 108 (own_AIIIIIIIIRUUUU i0 i1 i2 i3 v5 v12 v19 (2 : Int32) b65) [(.ref b65), (.ref b102), (.ref b102)])) rfl (by rw [hml]; rfl) (Steps.refl _) (a := b102) (argsL := [(.ref b65)]) (rest := [(.ref b102)]) (lenOf pd_0_0 rfl) rfl (Nat.le_of_eq rfl) (hb hby at_108) (fun _ _ => ⟨rfl, e102, (by decide : 2 + 2 ≤ _), (by decide : 6 + 87 ≤ _)⟩)
    dsimp only [Pt.U, Pt.locs, Pt.cells, Pt.slots] at X108 l108 y108 z108 st108 hQ108
    subst l108 y108 z108
    obtain ⟨rfl, N108q, Kq108, tt, kt, M, cd, gt, TT⟩ := hQ108
    have N108 := Fr.app N76 N108q
    have K108 : Keep h0 T108.heap [] := K102.trans Kq108 (fun x hx => by cases List.mem_singleton.mp hx; exact (Or.inr sz_b102))
    have Z108 : n0 ≤ T108.heap.size := Nat.le_trans Z102 Kq108.1
    have CC108 := CHr.keep Kq108 (sfS (own_safe0 hZ.alike A102 F_value_b102 (own_w hw 3 rfl)) sf0) CC102.1
    have CR108 := CR102.trans CC108
    refine own_by (fun t k => st108.trans k) ?_
    obtain ⟨_, _, ⟨T111, L111, k111, n111⟩, -, Xc111, hSc111, hgc111, ⟨Lc111, hQ111, l111, y111, z111, hC111⟩, st111⟩ := callSS X108 hx (y := own_n54) hown (mvT hZ (own_w hw 31 rfl)) (mvT hZ (own_w hw 32 rfl)) (mvT hZ (own_w hw 33 rfl)) (mvT hZ (own_w hw 34 rfl)) (by decide) (backOfSH (W := 0) (rm7 l Z a0 hw [] b102 tt kt M cd ([v5, v12] : List Int32) wH gz gf T108.heap n0 Z108 (((((O.ext E65).wr W71 g_b65).wr W76 g_b65).ext E102).keep Kq108 (allS g_b102 all0)) hst TT (by simp) S_H hHX) hZ (own_w hw 34 rfl) (own_w hw 33 rfl) (by decide) (by decide) hEL CC108.1) (g := (mkF m 111 (own_AIIIIIIIIRUUUU i0 i1 i2 i3 v5 v12 v19 (2 : Int32) b65) [(.ref b102)])) rfl (by rw [hml]; rfl) (argsL := [(.ref b102)]) (rest := []) (lenOf pd_0_1 rfl) rfl (Nat.le_of_eq rfl) (hb hby at_111) (fun _ _ => ⟨rfl, rfl, (by decide : 4 + 34 ≤ _), (by decide : 93 + 2150 ≤ _)⟩)
    dsimp only [Pt.U, Pt.locs, Pt.cells, Pt.slots] at Xc111 hSc111 hgc111
    obtain ⟨X111, hS111, hZ111, hown111⟩ := rebS hS0 (Nat.le_trans (Nat.le_trans (Nat.le_trans (Nat.le_trans (Nat.le_trans (Nat.zero_le _) E65.1) (Keep.of_wr W71).1) (Keep.of_wr W76).1) E102.1) Kq108.1) Xc111 hSc111 hgc111 hZ hown
    dsimp only [Pt.U, Pt.locs, Pt.cells, Pt.slots] at X111 l111 y111 z111 st111 hQ111
    subst l111 y111 z111
    obtain ⟨rr, t2, kt2, M2, cd2, rfl, ger, get, N111q, Kq111, TR⟩ := hQ111
    have N111 := Fr.app N108 N111q
    have K111 : Keep h0 T111.heap [] := K108.trans Kq111 (fun x hx => nomatch hx)
    have Z111 : n0 ≤ T111.heap.size := Nat.le_trans Z108 Kq111.1
    have CR111 := CR108.trans hC111
    refine own_by (fun t k => st111.trans k) ?_
    have sg124 : own_G p e below T111 (mkF m 124 (own_AIIIIIIIIRRUUU i0 i1 i2 i3 v5 v12 v19 (2 : Int32) b65 rr) [(.int v5)]) T111 (mkF m 114 (own_AIIIIIIIIRUUUU i0 i1 i2 i3 v5 v12 v19 (2 : Int32) b65) [(.ref rr)]) := by
      intro t k
      refine XS.astore X111.here hx rfl (hb hby at_114) rfl rfl (l' := (own_AIIIIIIIIRRUUU i0 i1 i2 i3 v5 v12 v19 (2 : Int32) b65 rr)) rfl ?_
      refine XS.iload X111.here hx rfl (hb hby at_116) rfl ?_
      refine XS.iconst X111.here hx rfl (hb hby at_118) ?_
      refine XS.icmpNo X111.here hx rfl (hb hby at_119) rfl (flt (by decide : ¬ ((2 : Int32) < (1 : Int32)))).1 ?_
      refine XS.iload X111.here hx rfl (hb hby at_122) rfl ?_
      exact k
    refine own_by sg124 ?_
    obtain ⟨_, _, ⟨T124, L124, k124, n124⟩, -, X124, ⟨Lc124, hQ124, l124, y124, z124⟩, st124⟩ := Jvm.LawKit.callS X111 hx (y := own_n55) hown111 (mvT hZ111 (own_w hw 206 rfl)) (mvT hZ111 (own_w hw 207 rfl)) (mvT hZ111 (own_w hw 208 rfl)) (mvT hZ111 (own_w hw 209 rfl)) (by decide) (backOf (W := 0) (rm39 l Z a0 hw [] v5 T111.heap n0 Z111) hZ111 (own_w hw 209 rfl) (own_w hw 208 rfl) (by decide) (by decide)) (g := (mkF m 124 (own_AIIIIIIIIRRUUU i0 i1 i2 i3 v5 v12 v19 (2 : Int32) b65 rr) [(.int v5)])) rfl (by rw [hml]; rfl) (argsL := [(.int v5)]) (rest := []) (lenOf pd_0_4 rfl) rfl (Nat.le_of_eq rfl) (hb hby at_124) (fun _ _ => ⟨rfl, rfl, (by decide : 38 + 0 ≤ _), (by decide : 2243 + 0 ≤ _)⟩)
    dsimp only [Pt.U, Pt.locs, Pt.cells, Pt.slots] at X124 l124 y124 z124 st124 hQ124
    subst l124 y124 z124
    obtain ⟨rfl, N124q, hq124⟩ := hQ124
    have N124 := Fr.app N111 N124q
    obtain ⟨c124, hc124⟩ : ∃ z : Int32, z = (own_encj v5) := ⟨_, rfl⟩
    rw [← hc124] at st124
    have nt_c124 : c124 = Int32.ofNat ((own_esc v5).length) := hc124.trans (own_elen v5)
    refine own_by st124 ?_
    have sg141 : own_G p e below T124 (mkF m 141 (own_AIIIIIIIIRRIUU i0 i1 i2 i3 v5 v12 v19 (2 : Int32) b65 rr c124) [(.int v12)]) T124 (mkF m 127 (own_AIIIIIIIIRRUUU i0 i1 i2 i3 v5 v12 v19 (2 : Int32) b65 rr) [(.int c124)]) := by
      intro t k
      refine XS.goto X124.here hx rfl (pc0 := 127) (pc' := 131) rfl (hb hby at_127) (by decide) (by decide) ?_
      refine XS.istore X124.here hx rfl (hb hby at_131) rfl (l' := (own_AIIIIIIIIRRIUU i0 i1 i2 i3 v5 v12 v19 (2 : Int32) b65 rr c124)) rfl ?_
      refine XS.iload X124.here hx rfl (hb hby at_133) rfl ?_
      refine XS.iconst X124.here hx rfl (hb hby at_135) ?_
      refine XS.icmpNo X124.here hx rfl (hb hby at_136) rfl (flt (by decide : ¬ ((2 : Int32) < (2 : Int32)))).1 ?_
      refine XS.iload X124.here hx rfl (hb hby at_139) rfl ?_
      exact k
    refine own_by sg141 ?_
    obtain ⟨_, _, ⟨T141, L141, k141, n141⟩, -, X141, ⟨Lc141, hQ141, l141, y141, z141⟩, st141⟩ := Jvm.LawKit.callS X124 hx (y := own_n55) hown111 (mvT hZ111 (own_w hw 206 rfl)) (mvT hZ111 (own_w hw 207 rfl)) (mvT hZ111 (own_w hw 208 rfl)) (mvT hZ111 (own_w hw 209 rfl)) (by decide) (backOf (W := 0) (rm39 l Z a0 hw [] v12 T111.heap n0 Z111) hZ111 (own_w hw 209 rfl) (own_w hw 208 rfl) (by decide) (by decide)) (g := (mkF m 141 (own_AIIIIIIIIRRIUU i0 i1 i2 i3 v5 v12 v19 (2 : Int32) b65 rr c124) [(.int v12)])) rfl (by rw [hml]; rfl) (argsL := [(.int v12)]) (rest := []) (lenOf pd_0_4 rfl) rfl (Nat.le_of_eq rfl) (hb hby at_141) (fun _ _ => ⟨rfl, hq124, (by decide : 38 + 0 ≤ _), (by decide : 2243 + 0 ≤ _)⟩)
    dsimp only [Pt.U, Pt.locs, Pt.cells, Pt.slots] at X141 l141 y141 z141 st141 hQ141
    subst l141 y141 z141
    obtain ⟨rfl, N141q, hq141⟩ := hQ141
    have N141 := Fr.app N124 N141q
    obtain ⟨c141, hc141⟩ : ∃ z : Int32, z = (own_encj v12) := ⟨_, rfl⟩
    rw [← hc141] at st141
    have nt_c141 : c141 = Int32.ofNat ((own_esc v12).length) := hc141.trans (own_elen v12)
    refine own_by st141 ?_
    have hjl := own_jl2 v5 v12
    have le_v5 := own_esc_len v5
    have le_v12 := own_esc_len v12
    have sg169 : own_G p e below T141 (mkF m 169 (own_AIIIIIIIIRRIII i0 i1 i2 i3 v5 v12 v19 (2 : Int32) b65 rr c124 c141 (0 : Int32)) [(.ref rr)]) T141 (mkF m 144 (own_AIIIIIIIIRRIUU i0 i1 i2 i3 v5 v12 v19 (2 : Int32) b65 rr c124) [(.int c141)]) := by
      intro t k
      refine XS.goto X141.here hx rfl (pc0 := 144) (pc' := 148) rfl (hb hby at_144) (by decide) (by decide) ?_
      refine XS.istore X141.here hx rfl (hb hby at_148) rfl (l' := (own_AIIIIIIIIRRIIU i0 i1 i2 i3 v5 v12 v19 (2 : Int32) b65 rr c124 c141)) rfl ?_
      refine XS.iload X141.here hx rfl (hb hby at_150) rfl ?_
      refine XS.iconst X141.here hx rfl (hb hby at_152) ?_
      refine XS.icmpYes X141.here hx rfl (pc0 := 153) (pc' := 164) rfl (hb hby at_153) rfl (tlt (by decide : (2 : Int32) < (3 : Int32))).1 (by decide) (by decide) ?_
      refine XS.iconst X141.here hx rfl (hb hby at_164) ?_
      refine XS.istore X141.here hx rfl (hb hby at_165) rfl (l' := (own_AIIIIIIIIRRIII i0 i1 i2 i3 v5 v12 v19 (2 : Int32) b65 rr c124 c141 (0 : Int32))) rfl ?_
      refine XS.aload X141.here hx rfl (hb hby at_167) rfl rfl ?_
      exact k
    refine own_by sg169 ?_
    obtain ⟨cq169, kq169, q169a, q169b, q169c⟩ := isOf hZ111 hq141 TR.1
    obtain ⟨_, _, ⟨T169, L169, k169, n169⟩, -, X169, ⟨Lc169, hQ169, l169, y169, z169⟩, st169⟩ := X141.virtualBack hx (y := own_n30) (z := own_n30) hown111 (mvT hZ111 (own_w hw 210 rfl)) (mvT hZ111 (own_w hw 39 rfl)) (notFace_of_selects (args := #[]) (mvT hZ111 (own_w hw 41 rfl))) (mvT hZ111 (own_w hw 41 rfl)) (mvT hZ111 (own_w hw 40 rfl)) (by decide) (backOf (W := 0) (rm8 l Z a0 hw [] rr t2 kt2 M2 cd2 (own_json ([v5, v12] : List Int32)) gz gf T111.heap n0 Z111 ((((((O.ext E65).wr W71 g_b65).wr W76 g_b65).ext E102).keep Kq108 (allS g_b102 all0)).keep Kq111 all0) hst TR) hZ111 (own_w hw 42 rfl) (own_w hw 4 rfl) (by decide) (by decide)) q169a q169c (g := (mkF m 169 (own_AIIIIIIIIRRIII i0 i1 i2 i3 v5 v12 v19 (2 : Int32) b65 rr c124 c141 (0 : Int32)) [(.ref rr)])) rfl (by rw [hml]; rfl) (Steps.refl _) (argsL := []) (rest := []) (lenOf pd_0_2 rfl) rfl (Nat.le_of_eq rfl) (hb hby at_169) (fun _ _ => ⟨rfl, hq141, (by decide : 38 + 0 ≤ _), (by decide : 2243 + 0 ≤ _)⟩)
    dsimp only [Pt.U, Pt.locs, Pt.cells, Pt.slots] at X169 l169 y169 z169 st169 hQ169
    subst l169 y169 z169
    obtain ⟨rfl, N169q, hq169⟩ := hQ169
    have N169 := Fr.app N141 N169q
    obtain ⟨c169, hc169⟩ : ∃ z : Int32, z = (Int32.ofNat ((own_json ([v5, v12] : List Int32))).length) := ⟨_, rfl⟩
    rw [← hc169] at st169
    have nt_c169 : c169 = Int32.ofNat (((own_json ([v5, v12] : List Int32))).length) := hc169
    refine own_by (fun t k => st169.trans k) ?_
    obtain ⟨t175, ht175⟩ : ∃ z : Int32, z = ((2 : Int32) + c124) := ⟨_, rfl⟩
    have sg176 : own_G p e below T169 (mkF m 176 (own_AIIIIIIIIRRIII i0 i1 i2 i3 v5 v12 v19 (2 : Int32) b65 rr c124 c141 (0 : Int32)) [(.int t175), (.int c169)]) T169 (mkF m 172 (own_AIIIIIIIIRRIII i0 i1 i2 i3 v5 v12 v19 (2 : Int32) b65 rr c124 c141 (0 : Int32)) [(.int c169)]) := by
      intro t k
      rw [ht175] at k
      refine XS.iconst X169.here hx rfl (hb hby at_172) ?_
      refine XS.iload X169.here hx rfl (hb hby at_173) rfl ?_
      refine XS.iadd X169.here hx rfl (hb hby at_175) rfl ?_
      exact k
    refine own_by sg176 ?_
    have nt_t175 : t175 = Int32.ofNat (2 + (own_esc v5).length) := ht175.trans (own_nadd rfl nt_c124)
    obtain ⟨t178, ht178⟩ : ∃ z : Int32, z = (t175 + c141) := ⟨_, rfl⟩
    have sg179 : own_G p e below T169 (mkF m 179 (own_AIIIIIIIIRRIII i0 i1 i2 i3 v5 v12 v19 (2 : Int32) b65 rr c124 c141 (0 : Int32)) [(.int t178), (.int c169)]) T169 (mkF m 176 (own_AIIIIIIIIRRIII i0 i1 i2 i3 v5 v12 v19 (2 : Int32) b65 rr c124 c141 (0 : Int32)) [(.int t175), (.int c169)]) := by
      intro t k
      rw [ht178] at k
      refine XS.iload X169.here hx rfl (hb hby at_176) rfl ?_
      refine XS.iadd X169.here hx rfl (hb hby at_178) rfl ?_
      exact k
    refine own_by sg179 ?_
    have nt_t178 : t178 = Int32.ofNat (2 + (own_esc v5).length + (own_esc v12).length) := ht178.trans (own_nadd nt_t175 nt_c141)
    obtain ⟨t181, ht181⟩ : ∃ z : Int32, z = (t178 + (0 : Int32)) := ⟨_, rfl⟩
    have sg182 : own_G p e below T169 (mkF m 182 (own_AIIIIIIIIRRIII i0 i1 i2 i3 v5 v12 v19 (2 : Int32) b65 rr c124 c141 (0 : Int32)) [(.int t181), (.int c169)]) T169 (mkF m 179 (own_AIIIIIIIIRRIII i0 i1 i2 i3 v5 v12 v19 (2 : Int32) b65 rr c124 c141 (0 : Int32)) [(.int t178), (.int c169)]) := by
      intro t k
      rw [ht181] at k
      refine XS.iload X169.here hx rfl (hb hby at_179) rfl ?_
      refine XS.iadd X169.here hx rfl (hb hby at_181) rfl ?_
      exact k
    refine own_by sg182 ?_
    have nt_t181 : t181 = Int32.ofNat (2 + (own_esc v5).length + (own_esc v12).length + 0) := ht181.trans (own_nadd nt_t178 rfl)
    have sg190 : own_G p e below T169 (mkF m 190 (own_AIIIIIIIIRRIII i0 i1 i2 i3 v5 v12 v19 (2 : Int32) b65 rr c124 c141 (0 : Int32)) [(.int (0 : Int32)), (.ref rr)]) T169 (mkF m 182 (own_AIIIIIIIIRRIII i0 i1 i2 i3 v5 v12 v19 (2 : Int32) b65 rr c124 c141 (0 : Int32)) [(.int t181), (.int c169)]) := by
      intro t k
      refine XS.icmpYes X169.here hx rfl (pc0 := 182) (pc' := 187) rfl (hb hby at_182) rfl (teq ((own_neq nt_c169 nt_t181 (by omega) (by omega)).mpr (by omega) : c169 = t181)).1 (by decide) (by decide) ?_
      refine XS.aload X169.here hx rfl (hb hby at_187) rfl rfl ?_
      refine XS.iconst X169.here hx rfl (hb hby at_189) ?_
      exact k
    refine own_by sg190 ?_
    obtain ⟨cq190, kq190, q190a, q190b, q190c⟩ := isOf hZ111 hq169 TR.1
    obtain ⟨_, _, ⟨T190, L190, k190, n190⟩, -, X190, ⟨Lc190, hQ190, l190, y190, z190⟩, st190⟩ := X169.virtualBack hx (y := own_n47) (z := own_n47) hown111 (mvT hZ111 (own_w hw 211 rfl)) (mvT hZ111 (own_w hw 90 rfl)) (notFace_of_selects (args := #[]) (mvT hZ111 (own_w hw 92 rfl))) (mvT hZ111 (own_w hw 92 rfl)) (mvT hZ111 (own_w hw 91 rfl)) (by decide) (backOf (W := 0) (rm17 l Z a0 hw [] rr (0 : Int32) t2 kt2 M2 cd2 (own_json ([v5, v12] : List Int32)) (0) (34 : Int32) gz gf T111.heap n0 Z111 ((((((O.ext E65).wr W71 g_b65).wr W76 g_b65).ext E102).keep Kq108 (allS g_b102 all0)).keep Kq111 all0) hst TR rfl (own_jfirst _)) hZ111 (own_w hw 93 rfl) (own_w hw 4 rfl) (by decide) (by decide)) q190a q190c (g := (mkF m 190 (own_AIIIIIIIIRRIII i0 i1 i2 i3 v5 v12 v19 (2 : Int32) b65 rr c124 c141 (0 : Int32)) [(.int (0 : Int32)), (.ref rr)])) rfl (by rw [hml]; rfl) (Steps.refl _) (argsL := [(.int (0 : Int32))]) (rest := []) (lenOf pd_0_3 rfl) rfl (Nat.le_of_eq rfl) (hb hby at_190) (fun _ _ => ⟨rfl, hq169, (by decide : 38 + 0 ≤ _), (by decide : 2243 + 0 ≤ _)⟩)
    dsimp only [Pt.U, Pt.locs, Pt.cells, Pt.slots] at X190 l190 y190 z190 st190 hQ190
    subst l190 y190 z190
    obtain ⟨rfl, N190q, hq190⟩ := hQ190
    have N190 := Fr.app N169 N190q
    refine own_by (fun t k => st190.trans k) ?_
    have sg202 : own_G p e below T190 (mkF m 202 (own_AIIIIIIIIRRIII i0 i1 i2 i3 v5 v12 v19 (2 : Int32) b65 rr c124 c141 (0 : Int32)) [(.ref rr), (.ref rr)]) T190 (mkF m 193 (own_AIIIIIIIIRRIII i0 i1 i2 i3 v5 v12 v19 (2 : Int32) b65 rr c124 c141 (0 : Int32)) [(.int (34 : Int32))]) := by
      intro t k
      refine XS.bipush X190.here hx rfl (hb hby at_193) ?_
      refine XS.icmpNo X190.here hx rfl (hb hby at_195) rfl (teq (by decide : (34 : Int32) = (34 : Int32))).2 ?_
      refine XS.aload X190.here hx rfl (hb hby at_198) rfl rfl ?_
      refine XS.aload X190.here hx rfl (hb hby at_200) rfl rfl ?_
      exact k
    refine own_by sg202 ?_
    obtain ⟨cq202, kq202, q202a, q202b, q202c⟩ := isOf hZ111 hq190 TR.1
    obtain ⟨_, _, ⟨T202, L202, k202, n202⟩, -, X202, ⟨Lc202, hQ202, l202, y202, z202⟩, st202⟩ := X190.virtualBack hx (y := own_n30) (z := own_n30) hown111 (mvT hZ111 (own_w hw 210 rfl)) (mvT hZ111 (own_w hw 39 rfl)) (notFace_of_selects (args := #[]) (mvT hZ111 (own_w hw 41 rfl))) (mvT hZ111 (own_w hw 41 rfl)) (mvT hZ111 (own_w hw 40 rfl)) (by decide) (backOf (W := 1) (rm8 l Z a0 hw [] rr t2 kt2 M2 cd2 (own_json ([v5, v12] : List Int32)) gz gf T111.heap n0 Z111 ((((((O.ext E65).wr W71 g_b65).wr W76 g_b65).ext E102).keep Kq108 (allS g_b102 all0)).keep Kq111 all0) hst TR) hZ111 (own_w hw 42 rfl) (own_w hw 4 rfl) (by decide) (by decide)) q202a q202c (g := (mkF m 202 (own_AIIIIIIIIRRIII i0 i1 i2 i3 v5 v12 v19 (2 : Int32) b65 rr c124 c141 (0 : Int32)) [(.ref rr), (.ref rr)])) rfl (by rw [hml]; rfl) (Steps.refl _) (argsL := []) (rest := [(.ref rr)]) (lenOf pd_0_2 rfl) rfl (Nat.le_of_eq rfl) (hb hby at_202) (fun _ _ => ⟨rfl, hq190, (by decide : 38 + 0 ≤ _), (by decide : 2243 + 0 ≤ _)⟩)
    dsimp only [Pt.U, Pt.locs, Pt.cells, Pt.slots] at X202 l202 y202 z202 st202 hQ202
    subst l202 y202 z202
    obtain ⟨rfl, N202q, hq202⟩ := hQ202
    have N202 := Fr.app N190 N202q
    obtain ⟨c202, hc202⟩ : ∃ z : Int32, z = (Int32.ofNat ((own_json ([v5, v12] : List Int32))).length) := ⟨_, rfl⟩
    rw [← hc202] at st202
    have nt_c202 : c202 = Int32.ofNat (((own_json ([v5, v12] : List Int32))).length) := hc202
    refine own_by (fun t k => st202.trans k) ?_
    obtain ⟨t206, ht206⟩ : ∃ z : Int32, z = (c202 - (1 : Int32)) := ⟨_, rfl⟩
    have sg207 : own_G p e below T202 (mkF m 207 (own_AIIIIIIIIRRIII i0 i1 i2 i3 v5 v12 v19 (2 : Int32) b65 rr c124 c141 (0 : Int32)) [(.int t206), (.ref rr)]) T202 (mkF m 205 (own_AIIIIIIIIRRIII i0 i1 i2 i3 v5 v12 v19 (2 : Int32) b65 rr c124 c141 (0 : Int32)) [(.int c202), (.ref rr)]) := by
      intro t k
      rw [ht206] at k
      refine XS.iconst X202.here hx rfl (hb hby at_205) ?_
      refine XS.isub X202.here hx rfl (hb hby at_206) rfl ?_
      exact k
    refine own_by sg207 ?_
    have nt_t206 : t206 = Int32.ofNat (((own_json ([v5, v12] : List Int32))).length - (1)) := ht206.trans (own_nsub nt_c202 rfl (by omega))
    obtain ⟨cq207, kq207, q207a, q207b, q207c⟩ := isOf hZ111 hq202 TR.1
    obtain ⟨_, _, ⟨T207, L207, k207, n207⟩, -, X207, ⟨Lc207, hQ207, l207, y207, z207⟩, st207⟩ := X202.virtualBack hx (y := own_n47) (z := own_n47) hown111 (mvT hZ111 (own_w hw 211 rfl)) (mvT hZ111 (own_w hw 90 rfl)) (notFace_of_selects (args := #[]) (mvT hZ111 (own_w hw 92 rfl))) (mvT hZ111 (own_w hw 92 rfl)) (mvT hZ111 (own_w hw 91 rfl)) (by decide) (backOf (W := 0) (rm17 l Z a0 hw [] rr t206 t2 kt2 M2 cd2 (own_json ([v5, v12] : List Int32)) (((own_json ([v5, v12] : List Int32))).length - (1)) (34 : Int32) gz gf T111.heap n0 Z111 ((((((O.ext E65).wr W71 g_b65).wr W76 g_b65).ext E102).keep Kq108 (allS g_b102 all0)).keep Kq111 all0) hst TR nt_t206 (own_jlast _)) hZ111 (own_w hw 93 rfl) (own_w hw 4 rfl) (by decide) (by decide)) q207a q207c (g := (mkF m 207 (own_AIIIIIIIIRRIII i0 i1 i2 i3 v5 v12 v19 (2 : Int32) b65 rr c124 c141 (0 : Int32)) [(.int t206), (.ref rr)])) rfl (by rw [hml]; rfl) (Steps.refl _) (argsL := [(.int t206)]) (rest := []) (lenOf pd_0_3 rfl) rfl (Nat.le_of_eq rfl) (hb hby at_207) (fun _ _ => ⟨rfl, hq202, (by decide : 38 + 0 ≤ _), (by decide : 2243 + 0 ≤ _)⟩)
    dsimp only [Pt.U, Pt.locs, Pt.cells, Pt.slots] at X207 l207 y207 z207 st207 hQ207
    subst l207 y207 z207
    obtain ⟨rfl, N207q, hq207⟩ := hQ207
    have N207 := Fr.app N202 N207q
    refine own_by (fun t k => st207.trans k) ?_
    have sg228 : own_G p e below T207 (mkF m 228 (own_AIIIIIIIIRRIII i0 i1 i2 i3 v5 v12 v19 (2 : Int32) b65 rr c124 c141 (0 : Int32)) [(.int v5), (.int (1 : Int32)), (.ref rr)]) T207 (mkF m 210 (own_AIIIIIIIIRRIII i0 i1 i2 i3 v5 v12 v19 (2 : Int32) b65 rr c124 c141 (0 : Int32)) [(.int (34 : Int32))]) := by
      intro t k
      refine XS.bipush X207.here hx rfl (hb hby at_210) ?_
      refine XS.icmpYes X207.here hx rfl (pc0 := 212) (pc' := 217) rfl (hb hby at_212) rfl (teq (by decide : (34 : Int32) = (34 : Int32))).1 (by decide) (by decide) ?_
      refine XS.iload X207.here hx rfl (hb hby at_217) rfl ?_
      refine XS.iconst X207.here hx rfl (hb hby at_219) ?_
      refine XS.icmpNo X207.here hx rfl (hb hby at_220) rfl (flt (by decide : ¬ ((2 : Int32) < (1 : Int32)))).1 ?_
      refine XS.aload X207.here hx rfl (hb hby at_223) rfl rfl ?_
      refine XS.iconst X207.here hx rfl (hb hby at_225) ?_
      refine XS.iload X207.here hx rfl (hb hby at_226) rfl ?_
      exact k
    refine own_by sg228 ?_
    obtain ⟨_, _, ⟨T228, L228, k228, n228⟩, -, X228, ⟨Lc228, hQ228, l228, y228, z228⟩, st228⟩ := Jvm.LawKit.callS X207 hx (y := own_n56) hown111 (mvT hZ111 (own_w hw 212 rfl)) (mvT hZ111 (own_w hw 213 rfl)) (mvT hZ111 (own_w hw 208 rfl)) (mvT hZ111 (own_w hw 214 rfl)) (by decide) (backOf (W := 0) (rm40 l Z a0 hw [] rr (1 : Int32) v5 t2 kt2 M2 cd2 (own_json ([v5, v12] : List Int32)) (1) gz gf T111.heap n0 Z111 ((((((O.ext E65).wr W71 g_b65).wr W76 g_b65).ext E102).keep Kq108 (allS g_b102 all0)).keep Kq111 all0) hst TR rfl hk_v5 (fun k e h => own_at0 v5 _ k e h)) hZ111 (own_w hw 214 rfl) (own_w hw 208 rfl) (by decide) (by decide)) (g := (mkF m 228 (own_AIIIIIIIIRRIII i0 i1 i2 i3 v5 v12 v19 (2 : Int32) b65 rr c124 c141 (0 : Int32)) [(.int v5), (.int (1 : Int32)), (.ref rr)])) rfl (by rw [hml]; rfl) (argsL := [(.ref rr), (.int (1 : Int32)), (.int v5)]) (rest := []) (lenOf pd_0_5 rfl) rfl (Nat.le_of_eq rfl) (hb hby at_228) (fun _ _ => ⟨rfl, hq207, (by decide : 38 + 0 ≤ _), (by decide : 2243 + 0 ≤ _)⟩)
    dsimp only [Pt.U, Pt.locs, Pt.cells, Pt.slots] at X228 l228 y228 z228 st228 hQ228
    subst l228 y228 z228
    obtain ⟨rfl, N228q, hq228⟩ := hQ228
    have N228 := Fr.app N207 N228q
    refine own_by st228 ?_
    obtain ⟨t247, ht247⟩ : ∃ z : Int32, z = ((1 : Int32) + c124) := ⟨_, rfl⟩
    have sg248 : own_G p e below T228 (mkF m 248 (own_AIIIIIIIIRRIII i0 i1 i2 i3 v5 v12 v19 (2 : Int32) b65 rr c124 c141 (0 : Int32)) [(.int t247), (.ref rr)]) T228 (mkF m 231 (own_AIIIIIIIIRRIII i0 i1 i2 i3 v5 v12 v19 (2 : Int32) b65 rr c124 c141 (0 : Int32)) [(.int (1 : Int32))]) := by
      intro t k
      rw [ht247] at k
      refine XS.ifYes X228.here hx rfl (pc0 := 231) (pc' := 236) rfl (hb hby at_231) rfl ((if0 _ _).trans (feq (by decide : ¬ ((1 : Int32) = (0 : Int32)))).2) (by decide) (by decide) ?_
      refine XS.iload X228.here hx rfl (hb hby at_236) rfl ?_
      refine XS.iconst X228.here hx rfl (hb hby at_238) ?_
      refine XS.icmpNo X228.here hx rfl (hb hby at_239) rfl (flt (by decide : ¬ ((2 : Int32) < (2 : Int32)))).1 ?_
      refine XS.aload X228.here hx rfl (hb hby at_242) rfl rfl ?_
      refine XS.iconst X228.here hx rfl (hb hby at_244) ?_
      refine XS.iload X228.here hx rfl (hb hby at_245) rfl ?_
      refine XS.iadd X228.here hx rfl (hb hby at_247) rfl ?_
      exact k
    refine own_by sg248 ?_
    have nt_t247 : t247 = Int32.ofNat (1 + (own_esc v5).length) := ht247.trans (own_nadd rfl nt_c124)
    have sg250 : own_G p e below T228 (mkF m 250 (own_AIIIIIIIIRRIII i0 i1 i2 i3 v5 v12 v19 (2 : Int32) b65 rr c124 c141 (0 : Int32)) [(.int v12), (.int t247), (.ref rr)]) T228 (mkF m 248 (own_AIIIIIIIIRRIII i0 i1 i2 i3 v5 v12 v19 (2 : Int32) b65 rr c124 c141 (0 : Int32)) [(.int t247), (.ref rr)]) := by
      intro t k
      refine XS.iload X228.here hx rfl (hb hby at_248) rfl ?_
      exact k
    refine own_by sg250 ?_
    obtain ⟨_, _, ⟨T250, L250, k250, n250⟩, -, X250, ⟨Lc250, hQ250, l250, y250, z250⟩, st250⟩ := Jvm.LawKit.callS X228 hx (y := own_n56) hown111 (mvT hZ111 (own_w hw 212 rfl)) (mvT hZ111 (own_w hw 213 rfl)) (mvT hZ111 (own_w hw 208 rfl)) (mvT hZ111 (own_w hw 214 rfl)) (by decide) (backOf (W := 0) (rm40 l Z a0 hw [] rr t247 v12 t2 kt2 M2 cd2 (own_json ([v5, v12] : List Int32)) (1 + (own_esc v5).length) gz gf T111.heap n0 Z111 ((((((O.ext E65).wr W71 g_b65).wr W76 g_b65).ext E102).keep Kq108 (allS g_b102 all0)).keep Kq111 all0) hst TR nt_t247 hk_v12 (fun k e h => own_at1 v5 v12 _ k e h)) hZ111 (own_w hw 214 rfl) (own_w hw 208 rfl) (by decide) (by decide)) (g := (mkF m 250 (own_AIIIIIIIIRRIII i0 i1 i2 i3 v5 v12 v19 (2 : Int32) b65 rr c124 c141 (0 : Int32)) [(.int v12), (.int t247), (.ref rr)])) rfl (by rw [hml]; rfl) (argsL := [(.ref rr), (.int t247), (.int v12)]) (rest := []) (lenOf pd_0_5 rfl) rfl (Nat.le_of_eq rfl) (hb hby at_250) (fun _ _ => ⟨rfl, hq228, (by decide : 38 + 0 ≤ _), (by decide : 2243 + 0 ≤ _)⟩)
    dsimp only [Pt.U, Pt.locs, Pt.cells, Pt.slots] at X250 l250 y250 z250 st250 hQ250
    subst l250 y250 z250
    obtain ⟨rfl, N250q, hq250⟩ := hQ250
    have N250 := Fr.app N228 N250q
    refine own_by st250 ?_
    have sg284 : own_G p e below T250 (mkF m 284 (own_AIIIIIIIIRRIII i0 i1 i2 i3 v5 v12 v19 (2 : Int32) b65 rr c124 c141 (0 : Int32)) [(.int (1 : Int32))]) T250 (mkF m 253 (own_AIIIIIIIIRRIII i0 i1 i2 i3 v5 v12 v19 (2 : Int32) b65 rr c124 c141 (0 : Int32)) [(.int (1 : Int32))]) := by
      intro t k
      refine XS.ifYes X250.here hx rfl (pc0 := 253) (pc' := 258) rfl (hb hby at_253) rfl ((if0 _ _).trans (feq (by decide : ¬ ((1 : Int32) = (0 : Int32)))).2) (by decide) (by decide) ?_
      refine XS.iload X250.here hx rfl (hb hby at_258) rfl ?_
      refine XS.iconst X250.here hx rfl (hb hby at_260) ?_
      refine XS.icmpYes X250.here hx rfl (pc0 := 261) (pc' := 283) rfl (hb hby at_261) rfl (tlt (by decide : (2 : Int32) < (3 : Int32))).1 (by decide) (by decide) ?_
      refine XS.iconst X250.here hx rfl (hb hby at_283) ?_
      exact k
    refine own_by sg284 ?_
    obtain ⟨fs, hr, hrun, hended, hW⟩ := X250.leaveW hS111 (by rw [hq250]; exact (Nat.le_refl _)) (v := some (.int (1 : Int32))) (fun h => by rw [Bd.returns] at h; cases h)
    refine ⟨_, _, ?_, hrun, hended, _, _, rfl, ?_, (by rw [hh]; show CHr Z consts_1 s.vm h0 T250.vm T250.heap; rw [hq250]; exact CR111.trans (CHv.at X250 hZ111 hEL hC111.1)), hW.1, hW.2.1, hW.2.2.1, hW.2.2.2.mono (by decide) (by decide)⟩
    · exact retN X250 hx (t := .boolean) Bd.returns (by simp) (hb hby at_284) hr
    · show Q0 Z i0 i1 i2 i3 wH gz gf h0 n0 _ T250.heap _
      rw [hq250]
      exact ⟨rfl, N250⟩
  · subst hn
    have sg83 : own_G p e below s₁ (mkF m 83 (own_AIIIIIIIIUUUUU i0 i1 i2 i3 v5 v12 v19 (3 : Int32)) [(.int (3 : Int32))]) s₁ (mkF m 26 (own_AIIIIIIIIUUUUU i0 i1 i2 i3 v5 v12 v19 (3 : Int32)) []) := by
      intro t k
      refine XS.iload X0.here hx rfl (hb hby at_26) rfl ?_
      refine XS.ifYes X0.here hx rfl (pc0 := 28) (pc' := 39) rfl (hb hby at_28) rfl ((if0 _ _).trans (feq (by decide : ¬ ((3 : Int32) = (0 : Int32)))).2) (by decide) (by decide) ?_
      refine XS.iload X0.here hx rfl (hb hby at_39) rfl ?_
      refine XS.iconst X0.here hx rfl (hb hby at_41) ?_
      refine XS.icmpYes X0.here hx rfl (pc0 := 42) (pc' := 58) rfl (hb hby at_42) rfl (feq (by decide : ¬ ((3 : Int32) = (1 : Int32)))).2 (by decide) (by decide) ?_
      refine XS.iload X0.here hx rfl (hb hby at_58) rfl ?_
      refine XS.iconst X0.here hx rfl (hb hby at_60) ?_
      refine XS.icmpYes X0.here hx rfl (pc0 := 61) (pc' := 82) rfl (hb hby at_61) rfl (feq (by decide : ¬ ((3 : Int32) = (2 : Int32)))).2 (by decide) (by decide) ?_
      refine XS.iconst X0.here hx rfl (hb hby at_82) ?_
      exact k
    refine own_by sg83 ?_
    obtain ⟨T83, h83, kc83, X83, e83, E83, A83, st83⟩ := newP X0 hx hZ (own_w hw 1 rfl) e0 (g := (mkF m 83 (own_AIIIIIIIIUUUUU i0 i1 i2 i3 v5 v12 v19 (3 : Int32)) [(.int (3 : Int32))])) rfl (hb hby at_83) rfl (by decide) (cap := 3) (by decide) (by decide) (by decide) (by decide)
    obtain ⟨b83, g83⟩ : ∃ z, z = h0.size := ⟨_, rfl⟩
    rw [← g83] at A83 st83
    have g_b83 : n0 ≤ b83 := Nat.le_trans Z0 (Nat.le_of_eq g83.symm)
    have sz_b83 : h0.size ≤ b83 := Nat.le_trans K0.1 (Nat.le_of_eq g83.symm)
    have K83 := K0.ext E83
    have Z83 : n0 ≤ h83.size := Nat.le_trans Z0 E83.1
    have CC83 := CHr.ext E83 hH0
    have CR83 := (CHr.refl hH0).trans CC83
    have V83 : Arv Z h83 b83 kc83 .char (3 : Int32) [(.int (0 : Int32)), (.int (0 : Int32)), (.int (0 : Int32))] (.int (0 : Int32)) := (Arv.new A83 (by decide)).pad (pad_rep [] (.int (0 : Int32)) 3)
    refine own_by st83 ?_
    have sg89 : own_G p e below T83 (mkF m 89 (own_AIIIIIIIIUUUUU i0 i1 i2 i3 v5 v12 v19 (3 : Int32)) [(.int v5), (.int (0 : Int32)), (.ref b83), (.ref b83)]) T83 (mkF m 85 (own_AIIIIIIIIUUUUU i0 i1 i2 i3 v5 v12 v19 (3 : Int32)) [(.ref b83)]) := by
      intro t k
      refine XS.dup X83.here hx rfl (hb hby at_85) rfl rfl ?_
      refine XS.iconst X83.here hx rfl (hb hby at_86) ?_
      refine XS.iload X83.here hx rfl (hb hby at_87) rfl ?_
      exact k
    refine own_by sg89 ?_
    obtain ⟨cl89, Ar89, qa89, Sa89, Na89, Ha89, Ga89⟩ := id V83
    obtain ⟨T89, h89, X89, e89, W89, st89⟩ := stC X83 hx hZ e83 Ar89 (j := (0 : Int32)) (inb_of Sa89 ⟨by decide, by decide⟩) (g := (mkF m 89 (own_AIIIIIIIIUUUUU i0 i1 i2 i3 v5 v12 v19 (3 : Int32)) [(.int v5), (.int (0 : Int32)), (.ref b83), (.ref b83)])) rfl rfl (hb hby at_89)
    have V89 : Arv Z h89 b83 kc83 .char (3 : Int32) [(.int v5), (.int (0 : Int32)), (.int (0 : Int32))] (.int (0 : Int32)) := by
      have q := Arv.set Ar89 qa89 Sa89 Na89 Ha89 Ga89 (fits_nar_char _) W89 0 rfl (Nat.le_of_ble_eq_true rfl)
      rw [own_narc16 hk_v5] at q
      exact q
    have K89 : Keep h0 h89 [] := K83.wr W89 (Or.inr sz_b83)
    have Z89 : n0 ≤ h89.size := Nat.le_trans Z83 (Keep.of_wr W89).1
    have CC89 := CHr.wr W89 (Safe.arv hZ.alike V83 (by decide)) CC83.1
    have CR89 := CR83.trans CC89
    have N89 := Fr.snoc X89 N0 g_b83
    refine own_by st89 ?_
    have sg94 : own_G p e below T89 (mkF m 94 (own_AIIIIIIIIUUUUU i0 i1 i2 i3 v5 v12 v19 (3 : Int32)) [(.int v12), (.int (1 : Int32)), (.ref b83), (.ref b83)]) T89 (mkF m 90 (own_AIIIIIIIIUUUUU i0 i1 i2 i3 v5 v12 v19 (3 : Int32)) [(.ref b83)]) := by
      intro t k
      refine XS.dup X89.here hx rfl (hb hby at_90) rfl rfl ?_
      refine XS.iconst X89.here hx rfl (hb hby at_91) ?_
      refine XS.iload X89.here hx rfl (hb hby at_92) rfl ?_
      exact k
    refine own_by sg94 ?_
    obtain ⟨cl94, Ar94, qa94, Sa94, Na94, Ha94, Ga94⟩ := id V89
    obtain ⟨T94, h94, X94, e94, W94, st94⟩ := stC X89 hx hZ e89 Ar94 (j := (1 : Int32)) (inb_of Sa94 ⟨by decide, by decide⟩) (g := (mkF m 94 (own_AIIIIIIIIUUUUU i0 i1 i2 i3 v5 v12 v19 (3 : Int32)) [(.int v12), (.int (1 : Int32)), (.ref b83), (.ref b83)])) rfl rfl (hb hby at_94)
    have V94 : Arv Z h94 b83 kc83 .char (3 : Int32) [(.int v5), (.int v12), (.int (0 : Int32))] (.int (0 : Int32)) := by
      have q := Arv.set Ar94 qa94 Sa94 Na94 Ha94 Ga94 (fits_nar_char _) W94 1 rfl (Nat.le_of_ble_eq_true rfl)
      rw [own_narc16 hk_v12] at q
      exact q
    have K94 : Keep h0 h94 [] := K89.wr W94 (Or.inr sz_b83)
    have Z94 : n0 ≤ h94.size := Nat.le_trans Z89 (Keep.of_wr W94).1
    have CC94 := CHr.wr W94 (Safe.arv hZ.alike V89 (by decide)) CC89.1
    have CR94 := CR89.trans CC94
    have N94 := Fr.snoc X94 N89 g_b83
    refine own_by st94 ?_
    have sg99 : own_G p e below T94 (mkF m 99 (own_AIIIIIIIIUUUUU i0 i1 i2 i3 v5 v12 v19 (3 : Int32)) [(.int v19), (.int (2 : Int32)), (.ref b83), (.ref b83)]) T94 (mkF m 95 (own_AIIIIIIIIUUUUU i0 i1 i2 i3 v5 v12 v19 (3 : Int32)) [(.ref b83)]) := by
      intro t k
      refine XS.dup X94.here hx rfl (hb hby at_95) rfl rfl ?_
      refine XS.iconst X94.here hx rfl (hb hby at_96) ?_
      refine XS.iload X94.here hx rfl (hb hby at_97) rfl ?_
      exact k
    refine own_by sg99 ?_
    obtain ⟨cl99, Ar99, qa99, Sa99, Na99, Ha99, Ga99⟩ := id V94
    obtain ⟨T99, h99, X99, e99, W99, st99⟩ := stC X94 hx hZ e94 Ar99 (j := (2 : Int32)) (inb_of Sa99 ⟨by decide, by decide⟩) (g := (mkF m 99 (own_AIIIIIIIIUUUUU i0 i1 i2 i3 v5 v12 v19 (3 : Int32)) [(.int v19), (.int (2 : Int32)), (.ref b83), (.ref b83)])) rfl rfl (hb hby at_99)
    have V99 : Arv Z h99 b83 kc83 .char (3 : Int32) [(.int v5), (.int v12), (.int v19)] (.int (0 : Int32)) := by
      have q := Arv.set Ar99 qa99 Sa99 Na99 Ha99 Ga99 (fits_nar_char _) W99 2 rfl (Nat.le_of_ble_eq_true rfl)
      rw [own_narc16 hk_v19] at q
      exact q
    have K99 : Keep h0 h99 [] := K94.wr W99 (Or.inr sz_b83)
    have Z99 : n0 ≤ h99.size := Nat.le_trans Z94 (Keep.of_wr W99).1
    have CC99 := CHr.wr W99 (Safe.arv hZ.alike V94 (by decide)) CC94.1
    have CR99 := CR94.trans CC99
    have N99 := Fr.snoc X99 N94 g_b83
    refine own_by st99 ?_
    have sg102 : own_G p e below T99 (mkF m 102 (own_AIIIIIIIIRUUUU i0 i1 i2 i3 v5 v12 v19 (3 : Int32) b83) []) T99 (mkF m 100 (own_AIIIIIIIIUUUUU i0 i1 i2 i3 v5 v12 v19 (3 : Int32)) [(.ref b83)]) := by
      intro t k
      refine XS.astore X99.here hx rfl (hb hby at_100) rfl rfl (l' := (own_AIIIIIIIIRUUUU i0 i1 i2 i3 v5 v12 v19 (3 : Int32) b83)) rfl ?_
      exact k
    refine own_by sg102 ?_
    obtain ⟨T102, h102, X102, e102, E102, A102, D102, -, st102⟩ := newO X99 hx hZ hown (own_w hw 2 rfl) (own_w hw 3 rfl) (own_w hw 4 rfl) e99 (g := (mkF m 102 (own_AIIIIIIIIRUUUU i0 i1 i2 i3 v5 v12 v19 (3 : Int32) b83) [])) rfl (hb hby at_102) (by decide) (by decide)
    obtain ⟨b102, g102⟩ : ∃ z, z = h99.size := ⟨_, rfl⟩
    rw [← g102] at A102 D102 st102
    have ne_b83_b102 : b83 ≠ b102 := Nat.ne_of_lt (Nat.lt_of_lt_of_le V99.lt (Nat.le_of_eq g102.symm))
    have g_b102 : n0 ≤ b102 := Nat.le_trans Z99 (Nat.le_of_eq g102.symm)
    have sz_b102 : h0.size ≤ b102 := Nat.le_trans K99.1 (Nat.le_of_eq g102.symm)
    have K102 := K99.ext E102
    have Z102 : n0 ≤ h102.size := Nat.le_trans Z99 E102.1
    have CC102 := CHr.ext E102 CC99.1
    have CR102 := CR99.trans CC102
    have F_coder_b102 : Fld Z h102 b102 "java/lang/String" "coder" "B" (.int (0 : Int32)) := D102 (Or.inr (own_w hw 28 rfl)) (ty := .byte) (by decide)
    have F_value_b102 : Fld Z h102 b102 "java/lang/String" "value" "[B" .null := D102 (Or.inr (own_w hw 30 rfl)) (ty := (.array .byte)) (by decide)
    refine own_by st102 ?_
    have sg108 : own_G p e below T102 (mkF m 108 (own_AIIIIIIIIRUUUU i0 i1 i2 i3 v5 v12 v19 (3 : Int32) b83) [(.ref b83), (.ref b102), (.ref b102)]) T102 (mkF m 105 (own_AIIIIIIIIRUUUU i0 i1 i2 i3 v5 v12 v19 (3 : Int32) b83) [(.ref b102)]) := by
      intro t k
      refine XS.dup X102.here hx rfl (hb hby at_105) rfl rfl ?_
      refine XS.aload X102.here hx rfl (hb hby at_106) rfl rfl ?_
      exact k
    refine own_by sg108 ?_
    obtain ⟨_, _, ⟨T108, L108, k108, n108⟩, -, X108, ⟨Lc108, hQ108, l108, y108, z108⟩, st108⟩ := X102.specialBack hx (y := own_n53) rfl hown (mvT hZ (own_w hw 5 rfl)) (mvT hZ (own_w hw 6 rfl)) (mvT hZ (own_w hw 7 rfl)) (by decide) (backOf (W := 1) (rm1 l Z a0 hw [] b102 b83 kc83 ([v5, v12, v19] : List Int32) gz gf h102 n0 Z102 (((((O.ext E83).wr W89 g_b83).wr W94 g_b83).wr W99 g_b83).ext E102) hst A102 F_value_b102 F_coder_b102 g_b102 (V99.ext E102) (by simp) (by simp) (List.forall_mem_cons.mpr ⟨hk_v5, (List.forall_mem_cons.mpr ⟨hk_v12, (List.forall_mem_cons.mpr ⟨hk_v19, (fun _ q => nomatch q)⟩)⟩)⟩)) hZ (own_w hw 7 rfl) (own_w hw 4 rfl) (by decide) (by decide)) (g := (mkF m 108 (own_AIIIIIIIIRUUUU i0 i1 i2 i3 v5 v12 v19 (3 : Int32) b83) [(.ref b83), (.ref b102), (.ref b102)])) rfl (by rw [hml]; rfl) (Steps.refl _) (a := b102) (argsL := [(.ref b83)]) (rest := [(.ref b102)]) (lenOf pd_0_0 rfl) rfl (Nat.le_of_eq rfl) (hb hby at_108) (fun _ _ => ⟨rfl, e102, (by decide : 2 + 2 ≤ _), (by decide : 7 + 87 ≤ _)⟩)
    dsimp only [Pt.U, Pt.locs, Pt.cells, Pt.slots] at X108 l108 y108 z108 st108 hQ108
    subst l108 y108 z108
    obtain ⟨rfl, N108q, Kq108, tt, kt, M, cd, gt, TT⟩ := hQ108
    have N108 := Fr.app N99 N108q
    have K108 : Keep h0 T108.heap [] := K102.trans Kq108 (fun x hx => by cases List.mem_singleton.mp hx; exact (Or.inr sz_b102))
    have Z108 : n0 ≤ T108.heap.size := Nat.le_trans Z102 Kq108.1
    have CC108 := CHr.keep Kq108 (sfS (own_safe0 hZ.alike A102 F_value_b102 (own_w hw 3 rfl)) sf0) CC102.1
    have CR108 := CR102.trans CC108
    refine own_by (fun t k => st108.trans k) ?_
    obtain ⟨_, _, ⟨T111, L111, k111, n111⟩, -, Xc111, hSc111, hgc111, ⟨Lc111, hQ111, l111, y111, z111, hC111⟩, st111⟩ := callSS X108 hx (y := own_n54) hown (mvT hZ (own_w hw 31 rfl)) (mvT hZ (own_w hw 32 rfl)) (mvT hZ (own_w hw 33 rfl)) (mvT hZ (own_w hw 34 rfl)) (by decide) (backOfSH (W := 0) (rm7 l Z a0 hw [] b102 tt kt M cd ([v5, v12, v19] : List Int32) wH gz gf T108.heap n0 Z108 ((((((O.ext E83).wr W89 g_b83).wr W94 g_b83).wr W99 g_b83).ext E102).keep Kq108 (allS g_b102 all0)) hst TT (by simp) S_H hHX) hZ (own_w hw 34 rfl) (own_w hw 33 rfl) (by decide) (by decide) hEL CC108.1) (g := (mkF m 111 (own_AIIIIIIIIRUUUU i0 i1 i2 i3 v5 v12 v19 (3 : Int32) b83) [(.ref b102)])) rfl (by rw [hml]; rfl) (argsL := [(.ref b102)]) (rest := []) (lenOf pd_0_1 rfl) rfl (Nat.le_of_eq rfl) (hb hby at_111) (fun _ _ => ⟨rfl, rfl, (by decide : 4 + 34 ≤ _), (by decide : 94 + 2150 ≤ _)⟩)
    dsimp only [Pt.U, Pt.locs, Pt.cells, Pt.slots] at Xc111 hSc111 hgc111
    obtain ⟨X111, hS111, hZ111, hown111⟩ := rebS hS0 (Nat.le_trans (Nat.le_trans (Nat.le_trans (Nat.le_trans (Nat.le_trans (Nat.le_trans (Nat.zero_le _) E83.1) (Keep.of_wr W89).1) (Keep.of_wr W94).1) (Keep.of_wr W99).1) E102.1) Kq108.1) Xc111 hSc111 hgc111 hZ hown
    dsimp only [Pt.U, Pt.locs, Pt.cells, Pt.slots] at X111 l111 y111 z111 st111 hQ111
    subst l111 y111 z111
    obtain ⟨rr, t2, kt2, M2, cd2, rfl, ger, get, N111q, Kq111, TR⟩ := hQ111
    have N111 := Fr.app N108 N111q
    have K111 : Keep h0 T111.heap [] := K108.trans Kq111 (fun x hx => nomatch hx)
    have Z111 : n0 ≤ T111.heap.size := Nat.le_trans Z108 Kq111.1
    have CR111 := CR108.trans hC111
    refine own_by (fun t k => st111.trans k) ?_
    have sg124 : own_G p e below T111 (mkF m 124 (own_AIIIIIIIIRRUUU i0 i1 i2 i3 v5 v12 v19 (3 : Int32) b83 rr) [(.int v5)]) T111 (mkF m 114 (own_AIIIIIIIIRUUUU i0 i1 i2 i3 v5 v12 v19 (3 : Int32) b83) [(.ref rr)]) := by
      intro t k
      refine XS.astore X111.here hx rfl (hb hby at_114) rfl rfl (l' := (own_AIIIIIIIIRRUUU i0 i1 i2 i3 v5 v12 v19 (3 : Int32) b83 rr)) rfl ?_
      refine XS.iload X111.here hx rfl (hb hby at_116) rfl ?_
      refine XS.iconst X111.here hx rfl (hb hby at_118) ?_
      refine XS.icmpNo X111.here hx rfl (hb hby at_119) rfl (flt (by decide : ¬ ((3 : Int32) < (1 : Int32)))).1 ?_
      refine XS.iload X111.here hx rfl (hb hby at_122) rfl ?_
      exact k
    refine own_by sg124 ?_
    obtain ⟨_, _, ⟨T124, L124, k124, n124⟩, -, X124, ⟨Lc124, hQ124, l124, y124, z124⟩, st124⟩ := Jvm.LawKit.callS X111 hx (y := own_n55) hown111 (mvT hZ111 (own_w hw 206 rfl)) (mvT hZ111 (own_w hw 207 rfl)) (mvT hZ111 (own_w hw 208 rfl)) (mvT hZ111 (own_w hw 209 rfl)) (by decide) (backOf (W := 0) (rm39 l Z a0 hw [] v5 T111.heap n0 Z111) hZ111 (own_w hw 209 rfl) (own_w hw 208 rfl) (by decide) (by decide)) (g := (mkF m 124 (own_AIIIIIIIIRRUUU i0 i1 i2 i3 v5 v12 v19 (3 : Int32) b83 rr) [(.int v5)])) rfl (by rw [hml]; rfl) (argsL := [(.int v5)]) (rest := []) (lenOf pd_0_4 rfl) rfl (Nat.le_of_eq rfl) (hb hby at_124) (fun _ _ => ⟨rfl, rfl, (by decide : 38 + 0 ≤ _), (by decide : 2244 + 0 ≤ _)⟩)
    dsimp only [Pt.U, Pt.locs, Pt.cells, Pt.slots] at X124 l124 y124 z124 st124 hQ124
    subst l124 y124 z124
    obtain ⟨rfl, N124q, hq124⟩ := hQ124
    have N124 := Fr.app N111 N124q
    obtain ⟨c124, hc124⟩ : ∃ z : Int32, z = (own_encj v5) := ⟨_, rfl⟩
    rw [← hc124] at st124
    have nt_c124 : c124 = Int32.ofNat ((own_esc v5).length) := hc124.trans (own_elen v5)
    refine own_by st124 ?_
    have sg141 : own_G p e below T124 (mkF m 141 (own_AIIIIIIIIRRIUU i0 i1 i2 i3 v5 v12 v19 (3 : Int32) b83 rr c124) [(.int v12)]) T124 (mkF m 127 (own_AIIIIIIIIRRUUU i0 i1 i2 i3 v5 v12 v19 (3 : Int32) b83 rr) [(.int c124)]) := by
      intro t k
      refine XS.goto X124.here hx rfl (pc0 := 127) (pc' := 131) rfl (hb hby at_127) (by decide) (by decide) ?_
      refine XS.istore X124.here hx rfl (hb hby at_131) rfl (l' := (own_AIIIIIIIIRRIUU i0 i1 i2 i3 v5 v12 v19 (3 : Int32) b83 rr c124)) rfl ?_
      refine XS.iload X124.here hx rfl (hb hby at_133) rfl ?_
      refine XS.iconst X124.here hx rfl (hb hby at_135) ?_
      refine XS.icmpNo X124.here hx rfl (hb hby at_136) rfl (flt (by decide : ¬ ((3 : Int32) < (2 : Int32)))).1 ?_
      refine XS.iload X124.here hx rfl (hb hby at_139) rfl ?_
      exact k
    refine own_by sg141 ?_
    obtain ⟨_, _, ⟨T141, L141, k141, n141⟩, -, X141, ⟨Lc141, hQ141, l141, y141, z141⟩, st141⟩ := Jvm.LawKit.callS X124 hx (y := own_n55) hown111 (mvT hZ111 (own_w hw 206 rfl)) (mvT hZ111 (own_w hw 207 rfl)) (mvT hZ111 (own_w hw 208 rfl)) (mvT hZ111 (own_w hw 209 rfl)) (by decide) (backOf (W := 0) (rm39 l Z a0 hw [] v12 T111.heap n0 Z111) hZ111 (own_w hw 209 rfl) (own_w hw 208 rfl) (by decide) (by decide)) (g := (mkF m 141 (own_AIIIIIIIIRRIUU i0 i1 i2 i3 v5 v12 v19 (3 : Int32) b83 rr c124) [(.int v12)])) rfl (by rw [hml]; rfl) (argsL := [(.int v12)]) (rest := []) (lenOf pd_0_4 rfl) rfl (Nat.le_of_eq rfl) (hb hby at_141) (fun _ _ => ⟨rfl, hq124, (by decide : 38 + 0 ≤ _), (by decide : 2244 + 0 ≤ _)⟩)
    dsimp only [Pt.U, Pt.locs, Pt.cells, Pt.slots] at X141 l141 y141 z141 st141 hQ141
    subst l141 y141 z141
    obtain ⟨rfl, N141q, hq141⟩ := hQ141
    have N141 := Fr.app N124 N141q
    obtain ⟨c141, hc141⟩ : ∃ z : Int32, z = (own_encj v12) := ⟨_, rfl⟩
    rw [← hc141] at st141
    have nt_c141 : c141 = Int32.ofNat ((own_esc v12).length) := hc141.trans (own_elen v12)
    refine own_by st141 ?_
    have sg158 : own_G p e below T141 (mkF m 158 (own_AIIIIIIIIRRIIU i0 i1 i2 i3 v5 v12 v19 (3 : Int32) b83 rr c124 c141) [(.int v19)]) T141 (mkF m 144 (own_AIIIIIIIIRRIUU i0 i1 i2 i3 v5 v12 v19 (3 : Int32) b83 rr c124) [(.int c141)]) := by
      intro t k
      refine XS.goto X141.here hx rfl (pc0 := 144) (pc' := 148) rfl (hb hby at_144) (by decide) (by decide) ?_
      refine XS.istore X141.here hx rfl (hb hby at_148) rfl (l' := (own_AIIIIIIIIRRIIU i0 i1 i2 i3 v5 v12 v19 (3 : Int32) b83 rr c124 c141)) rfl ?_
      refine XS.iload X141.here hx rfl (hb hby at_150) rfl ?_
      refine XS.iconst X141.here hx rfl (hb hby at_152) ?_
      refine XS.icmpNo X141.here hx rfl (hb hby at_153) rfl (flt (by decide : ¬ ((3 : Int32) < (3 : Int32)))).1 ?_
      refine XS.iload X141.here hx rfl (hb hby at_156) rfl ?_
      exact k
    refine own_by sg158 ?_
    obtain ⟨_, _, ⟨T158, L158, k158, n158⟩, -, X158, ⟨Lc158, hQ158, l158, y158, z158⟩, st158⟩ := Jvm.LawKit.callS X141 hx (y := own_n55) hown111 (mvT hZ111 (own_w hw 206 rfl)) (mvT hZ111 (own_w hw 207 rfl)) (mvT hZ111 (own_w hw 208 rfl)) (mvT hZ111 (own_w hw 209 rfl)) (by decide) (backOf (W := 0) (rm39 l Z a0 hw [] v19 T111.heap n0 Z111) hZ111 (own_w hw 209 rfl) (own_w hw 208 rfl) (by decide) (by decide)) (g := (mkF m 158 (own_AIIIIIIIIRRIIU i0 i1 i2 i3 v5 v12 v19 (3 : Int32) b83 rr c124 c141) [(.int v19)])) rfl (by rw [hml]; rfl) (argsL := [(.int v19)]) (rest := []) (lenOf pd_0_4 rfl) rfl (Nat.le_of_eq rfl) (hb hby at_158) (fun _ _ => ⟨rfl, hq141, (by decide : 38 + 0 ≤ _), (by decide : 2244 + 0 ≤ _)⟩)
    dsimp only [Pt.U, Pt.locs, Pt.cells, Pt.slots] at X158 l158 y158 z158 st158 hQ158
    subst l158 y158 z158
    obtain ⟨rfl, N158q, hq158⟩ := hQ158
    have N158 := Fr.app N141 N158q
    obtain ⟨c158, hc158⟩ : ∃ z : Int32, z = (own_encj v19) := ⟨_, rfl⟩
    rw [← hc158] at st158
    have nt_c158 : c158 = Int32.ofNat ((own_esc v19).length) := hc158.trans (own_elen v19)
    refine own_by st158 ?_
    have hjl := own_jl3 v5 v12 v19
    have le_v5 := own_esc_len v5
    have le_v12 := own_esc_len v12
    have le_v19 := own_esc_len v19
    have sg169 : own_G p e below T158 (mkF m 169 (own_AIIIIIIIIRRIII i0 i1 i2 i3 v5 v12 v19 (3 : Int32) b83 rr c124 c141 c158) [(.ref rr)]) T158 (mkF m 161 (own_AIIIIIIIIRRIIU i0 i1 i2 i3 v5 v12 v19 (3 : Int32) b83 rr c124 c141) [(.int c158)]) := by
      intro t k
      refine XS.goto X158.here hx rfl (pc0 := 161) (pc' := 165) rfl (hb hby at_161) (by decide) (by decide) ?_
      refine XS.istore X158.here hx rfl (hb hby at_165) rfl (l' := (own_AIIIIIIIIRRIII i0 i1 i2 i3 v5 v12 v19 (3 : Int32) b83 rr c124 c141 c158)) rfl ?_
      refine XS.aload X158.here hx rfl (hb hby at_167) rfl rfl ?_
      exact k
    refine own_by sg169 ?_
    obtain ⟨cq169, kq169, q169a, q169b, q169c⟩ := isOf hZ111 hq158 TR.1
    obtain ⟨_, _, ⟨T169, L169, k169, n169⟩, -, X169, ⟨Lc169, hQ169, l169, y169, z169⟩, st169⟩ := X158.virtualBack hx (y := own_n30) (z := own_n30) hown111 (mvT hZ111 (own_w hw 210 rfl)) (mvT hZ111 (own_w hw 39 rfl)) (notFace_of_selects (args := #[]) (mvT hZ111 (own_w hw 41 rfl))) (mvT hZ111 (own_w hw 41 rfl)) (mvT hZ111 (own_w hw 40 rfl)) (by decide) (backOf (W := 0) (rm8 l Z a0 hw [] rr t2 kt2 M2 cd2 (own_json ([v5, v12, v19] : List Int32)) gz gf T111.heap n0 Z111 (((((((O.ext E83).wr W89 g_b83).wr W94 g_b83).wr W99 g_b83).ext E102).keep Kq108 (allS g_b102 all0)).keep Kq111 all0) hst TR) hZ111 (own_w hw 42 rfl) (own_w hw 4 rfl) (by decide) (by decide)) q169a q169c (g := (mkF m 169 (own_AIIIIIIIIRRIII i0 i1 i2 i3 v5 v12 v19 (3 : Int32) b83 rr c124 c141 c158) [(.ref rr)])) rfl (by rw [hml]; rfl) (Steps.refl _) (argsL := []) (rest := []) (lenOf pd_0_2 rfl) rfl (Nat.le_of_eq rfl) (hb hby at_169) (fun _ _ => ⟨rfl, hq158, (by decide : 38 + 0 ≤ _), (by decide : 2244 + 0 ≤ _)⟩)
    dsimp only [Pt.U, Pt.locs, Pt.cells, Pt.slots] at X169 l169 y169 z169 st169 hQ169
    subst l169 y169 z169
    obtain ⟨rfl, N169q, hq169⟩ := hQ169
    have N169 := Fr.app N158 N169q
    obtain ⟨c169, hc169⟩ : ∃ z : Int32, z = (Int32.ofNat ((own_json ([v5, v12, v19] : List Int32))).length) := ⟨_, rfl⟩
    rw [← hc169] at st169
    have nt_c169 : c169 = Int32.ofNat (((own_json ([v5, v12, v19] : List Int32))).length) := hc169
    refine own_by (fun t k => st169.trans k) ?_
    obtain ⟨t175, ht175⟩ : ∃ z : Int32, z = ((2 : Int32) + c124) := ⟨_, rfl⟩
    have sg176 : own_G p e below T169 (mkF m 176 (own_AIIIIIIIIRRIII i0 i1 i2 i3 v5 v12 v19 (3 : Int32) b83 rr c124 c141 c158) [(.int t175), (.int c169)]) T169 (mkF m 172 (own_AIIIIIIIIRRIII i0 i1 i2 i3 v5 v12 v19 (3 : Int32) b83 rr c124 c141 c158) [(.int c169)]) := by
      intro t k
      rw [ht175] at k
      refine XS.iconst X169.here hx rfl (hb hby at_172) ?_
      refine XS.iload X169.here hx rfl (hb hby at_173) rfl ?_
      refine XS.iadd X169.here hx rfl (hb hby at_175) rfl ?_
      exact k
    refine own_by sg176 ?_
    have nt_t175 : t175 = Int32.ofNat (2 + (own_esc v5).length) := ht175.trans (own_nadd rfl nt_c124)
    obtain ⟨t178, ht178⟩ : ∃ z : Int32, z = (t175 + c141) := ⟨_, rfl⟩
    have sg179 : own_G p e below T169 (mkF m 179 (own_AIIIIIIIIRRIII i0 i1 i2 i3 v5 v12 v19 (3 : Int32) b83 rr c124 c141 c158) [(.int t178), (.int c169)]) T169 (mkF m 176 (own_AIIIIIIIIRRIII i0 i1 i2 i3 v5 v12 v19 (3 : Int32) b83 rr c124 c141 c158) [(.int t175), (.int c169)]) := by
      intro t k
      rw [ht178] at k
      refine XS.iload X169.here hx rfl (hb hby at_176) rfl ?_
      refine XS.iadd X169.here hx rfl (hb hby at_178) rfl ?_
      exact k
    refine own_by sg179 ?_
    have nt_t178 : t178 = Int32.ofNat (2 + (own_esc v5).length + (own_esc v12).length) := ht178.trans (own_nadd nt_t175 nt_c141)
    obtain ⟨t181, ht181⟩ : ∃ z : Int32, z = (t178 + c158) := ⟨_, rfl⟩
    have sg182 : own_G p e below T169 (mkF m 182 (own_AIIIIIIIIRRIII i0 i1 i2 i3 v5 v12 v19 (3 : Int32) b83 rr c124 c141 c158) [(.int t181), (.int c169)]) T169 (mkF m 179 (own_AIIIIIIIIRRIII i0 i1 i2 i3 v5 v12 v19 (3 : Int32) b83 rr c124 c141 c158) [(.int t178), (.int c169)]) := by
      intro t k
      rw [ht181] at k
      refine XS.iload X169.here hx rfl (hb hby at_179) rfl ?_
      refine XS.iadd X169.here hx rfl (hb hby at_181) rfl ?_
      exact k
    refine own_by sg182 ?_
    have nt_t181 : t181 = Int32.ofNat (2 + (own_esc v5).length + (own_esc v12).length + (own_esc v19).length) := ht181.trans (own_nadd nt_t178 nt_c158)
    have sg190 : own_G p e below T169 (mkF m 190 (own_AIIIIIIIIRRIII i0 i1 i2 i3 v5 v12 v19 (3 : Int32) b83 rr c124 c141 c158) [(.int (0 : Int32)), (.ref rr)]) T169 (mkF m 182 (own_AIIIIIIIIRRIII i0 i1 i2 i3 v5 v12 v19 (3 : Int32) b83 rr c124 c141 c158) [(.int t181), (.int c169)]) := by
      intro t k
      refine XS.icmpYes X169.here hx rfl (pc0 := 182) (pc' := 187) rfl (hb hby at_182) rfl (teq ((own_neq nt_c169 nt_t181 (by omega) (by omega)).mpr (by omega) : c169 = t181)).1 (by decide) (by decide) ?_
      refine XS.aload X169.here hx rfl (hb hby at_187) rfl rfl ?_
      refine XS.iconst X169.here hx rfl (hb hby at_189) ?_
      exact k
    refine own_by sg190 ?_
    obtain ⟨cq190, kq190, q190a, q190b, q190c⟩ := isOf hZ111 hq169 TR.1
    obtain ⟨_, _, ⟨T190, L190, k190, n190⟩, -, X190, ⟨Lc190, hQ190, l190, y190, z190⟩, st190⟩ := X169.virtualBack hx (y := own_n47) (z := own_n47) hown111 (mvT hZ111 (own_w hw 211 rfl)) (mvT hZ111 (own_w hw 90 rfl)) (notFace_of_selects (args := #[]) (mvT hZ111 (own_w hw 92 rfl))) (mvT hZ111 (own_w hw 92 rfl)) (mvT hZ111 (own_w hw 91 rfl)) (by decide) (backOf (W := 0) (rm17 l Z a0 hw [] rr (0 : Int32) t2 kt2 M2 cd2 (own_json ([v5, v12, v19] : List Int32)) (0) (34 : Int32) gz gf T111.heap n0 Z111 (((((((O.ext E83).wr W89 g_b83).wr W94 g_b83).wr W99 g_b83).ext E102).keep Kq108 (allS g_b102 all0)).keep Kq111 all0) hst TR rfl (own_jfirst _)) hZ111 (own_w hw 93 rfl) (own_w hw 4 rfl) (by decide) (by decide)) q190a q190c (g := (mkF m 190 (own_AIIIIIIIIRRIII i0 i1 i2 i3 v5 v12 v19 (3 : Int32) b83 rr c124 c141 c158) [(.int (0 : Int32)), (.ref rr)])) rfl (by rw [hml]; rfl) (Steps.refl _) (argsL := [(.int (0 : Int32))]) (rest := []) (lenOf pd_0_3 rfl) rfl (Nat.le_of_eq rfl) (hb hby at_190) (fun _ _ => ⟨rfl, hq169, (by decide : 38 + 0 ≤ _), (by decide : 2244 + 0 ≤ _)⟩)
    dsimp only [Pt.U, Pt.locs, Pt.cells, Pt.slots] at X190 l190 y190 z190 st190 hQ190
    subst l190 y190 z190
    obtain ⟨rfl, N190q, hq190⟩ := hQ190
    have N190 := Fr.app N169 N190q
    refine own_by (fun t k => st190.trans k) ?_
    have sg202 : own_G p e below T190 (mkF m 202 (own_AIIIIIIIIRRIII i0 i1 i2 i3 v5 v12 v19 (3 : Int32) b83 rr c124 c141 c158) [(.ref rr), (.ref rr)]) T190 (mkF m 193 (own_AIIIIIIIIRRIII i0 i1 i2 i3 v5 v12 v19 (3 : Int32) b83 rr c124 c141 c158) [(.int (34 : Int32))]) := by
      intro t k
      refine XS.bipush X190.here hx rfl (hb hby at_193) ?_
      refine XS.icmpNo X190.here hx rfl (hb hby at_195) rfl (teq (by decide : (34 : Int32) = (34 : Int32))).2 ?_
      refine XS.aload X190.here hx rfl (hb hby at_198) rfl rfl ?_
      refine XS.aload X190.here hx rfl (hb hby at_200) rfl rfl ?_
      exact k
    refine own_by sg202 ?_
    obtain ⟨cq202, kq202, q202a, q202b, q202c⟩ := isOf hZ111 hq190 TR.1
    obtain ⟨_, _, ⟨T202, L202, k202, n202⟩, -, X202, ⟨Lc202, hQ202, l202, y202, z202⟩, st202⟩ := X190.virtualBack hx (y := own_n30) (z := own_n30) hown111 (mvT hZ111 (own_w hw 210 rfl)) (mvT hZ111 (own_w hw 39 rfl)) (notFace_of_selects (args := #[]) (mvT hZ111 (own_w hw 41 rfl))) (mvT hZ111 (own_w hw 41 rfl)) (mvT hZ111 (own_w hw 40 rfl)) (by decide) (backOf (W := 1) (rm8 l Z a0 hw [] rr t2 kt2 M2 cd2 (own_json ([v5, v12, v19] : List Int32)) gz gf T111.heap n0 Z111 (((((((O.ext E83).wr W89 g_b83).wr W94 g_b83).wr W99 g_b83).ext E102).keep Kq108 (allS g_b102 all0)).keep Kq111 all0) hst TR) hZ111 (own_w hw 42 rfl) (own_w hw 4 rfl) (by decide) (by decide)) q202a q202c (g := (mkF m 202 (own_AIIIIIIIIRRIII i0 i1 i2 i3 v5 v12 v19 (3 : Int32) b83 rr c124 c141 c158) [(.ref rr), (.ref rr)])) rfl (by rw [hml]; rfl) (Steps.refl _) (argsL := []) (rest := [(.ref rr)]) (lenOf pd_0_2 rfl) rfl (Nat.le_of_eq rfl) (hb hby at_202) (fun _ _ => ⟨rfl, hq190, (by decide : 38 + 0 ≤ _), (by decide : 2244 + 0 ≤ _)⟩)
    dsimp only [Pt.U, Pt.locs, Pt.cells, Pt.slots] at X202 l202 y202 z202 st202 hQ202
    subst l202 y202 z202
    obtain ⟨rfl, N202q, hq202⟩ := hQ202
    have N202 := Fr.app N190 N202q
    obtain ⟨c202, hc202⟩ : ∃ z : Int32, z = (Int32.ofNat ((own_json ([v5, v12, v19] : List Int32))).length) := ⟨_, rfl⟩
    rw [← hc202] at st202
    have nt_c202 : c202 = Int32.ofNat (((own_json ([v5, v12, v19] : List Int32))).length) := hc202
    refine own_by (fun t k => st202.trans k) ?_
    obtain ⟨t206, ht206⟩ : ∃ z : Int32, z = (c202 - (1 : Int32)) := ⟨_, rfl⟩
    have sg207 : own_G p e below T202 (mkF m 207 (own_AIIIIIIIIRRIII i0 i1 i2 i3 v5 v12 v19 (3 : Int32) b83 rr c124 c141 c158) [(.int t206), (.ref rr)]) T202 (mkF m 205 (own_AIIIIIIIIRRIII i0 i1 i2 i3 v5 v12 v19 (3 : Int32) b83 rr c124 c141 c158) [(.int c202), (.ref rr)]) := by
      intro t k
      rw [ht206] at k
      refine XS.iconst X202.here hx rfl (hb hby at_205) ?_
      refine XS.isub X202.here hx rfl (hb hby at_206) rfl ?_
      exact k
    refine own_by sg207 ?_
    have nt_t206 : t206 = Int32.ofNat (((own_json ([v5, v12, v19] : List Int32))).length - (1)) := ht206.trans (own_nsub nt_c202 rfl (by omega))
    obtain ⟨cq207, kq207, q207a, q207b, q207c⟩ := isOf hZ111 hq202 TR.1
    obtain ⟨_, _, ⟨T207, L207, k207, n207⟩, -, X207, ⟨Lc207, hQ207, l207, y207, z207⟩, st207⟩ := X202.virtualBack hx (y := own_n47) (z := own_n47) hown111 (mvT hZ111 (own_w hw 211 rfl)) (mvT hZ111 (own_w hw 90 rfl)) (notFace_of_selects (args := #[]) (mvT hZ111 (own_w hw 92 rfl))) (mvT hZ111 (own_w hw 92 rfl)) (mvT hZ111 (own_w hw 91 rfl)) (by decide) (backOf (W := 0) (rm17 l Z a0 hw [] rr t206 t2 kt2 M2 cd2 (own_json ([v5, v12, v19] : List Int32)) (((own_json ([v5, v12, v19] : List Int32))).length - (1)) (34 : Int32) gz gf T111.heap n0 Z111 (((((((O.ext E83).wr W89 g_b83).wr W94 g_b83).wr W99 g_b83).ext E102).keep Kq108 (allS g_b102 all0)).keep Kq111 all0) hst TR nt_t206 (own_jlast _)) hZ111 (own_w hw 93 rfl) (own_w hw 4 rfl) (by decide) (by decide)) q207a q207c (g := (mkF m 207 (own_AIIIIIIIIRRIII i0 i1 i2 i3 v5 v12 v19 (3 : Int32) b83 rr c124 c141 c158) [(.int t206), (.ref rr)])) rfl (by rw [hml]; rfl) (Steps.refl _) (argsL := [(.int t206)]) (rest := []) (lenOf pd_0_3 rfl) rfl (Nat.le_of_eq rfl) (hb hby at_207) (fun _ _ => ⟨rfl, hq202, (by decide : 38 + 0 ≤ _), (by decide : 2244 + 0 ≤ _)⟩)
    dsimp only [Pt.U, Pt.locs, Pt.cells, Pt.slots] at X207 l207 y207 z207 st207 hQ207
    subst l207 y207 z207
    obtain ⟨rfl, N207q, hq207⟩ := hQ207
    have N207 := Fr.app N202 N207q
    refine own_by (fun t k => st207.trans k) ?_
    have sg228 : own_G p e below T207 (mkF m 228 (own_AIIIIIIIIRRIII i0 i1 i2 i3 v5 v12 v19 (3 : Int32) b83 rr c124 c141 c158) [(.int v5), (.int (1 : Int32)), (.ref rr)]) T207 (mkF m 210 (own_AIIIIIIIIRRIII i0 i1 i2 i3 v5 v12 v19 (3 : Int32) b83 rr c124 c141 c158) [(.int (34 : Int32))]) := by
      intro t k
      refine XS.bipush X207.here hx rfl (hb hby at_210) ?_
      refine XS.icmpYes X207.here hx rfl (pc0 := 212) (pc' := 217) rfl (hb hby at_212) rfl (teq (by decide : (34 : Int32) = (34 : Int32))).1 (by decide) (by decide) ?_
      refine XS.iload X207.here hx rfl (hb hby at_217) rfl ?_
      refine XS.iconst X207.here hx rfl (hb hby at_219) ?_
      refine XS.icmpNo X207.here hx rfl (hb hby at_220) rfl (flt (by decide : ¬ ((3 : Int32) < (1 : Int32)))).1 ?_
      refine XS.aload X207.here hx rfl (hb hby at_223) rfl rfl ?_
      refine XS.iconst X207.here hx rfl (hb hby at_225) ?_
      refine XS.iload X207.here hx rfl (hb hby at_226) rfl ?_
      exact k
    refine own_by sg228 ?_
    obtain ⟨_, _, ⟨T228, L228, k228, n228⟩, -, X228, ⟨Lc228, hQ228, l228, y228, z228⟩, st228⟩ := Jvm.LawKit.callS X207 hx (y := own_n56) hown111 (mvT hZ111 (own_w hw 212 rfl)) (mvT hZ111 (own_w hw 213 rfl)) (mvT hZ111 (own_w hw 208 rfl)) (mvT hZ111 (own_w hw 214 rfl)) (by decide) (backOf (W := 0) (rm40 l Z a0 hw [] rr (1 : Int32) v5 t2 kt2 M2 cd2 (own_json ([v5, v12, v19] : List Int32)) (1) gz gf T111.heap n0 Z111 (((((((O.ext E83).wr W89 g_b83).wr W94 g_b83).wr W99 g_b83).ext E102).keep Kq108 (allS g_b102 all0)).keep Kq111 all0) hst TR rfl hk_v5 (fun k e h => own_at0 v5 _ k e h)) hZ111 (own_w hw 214 rfl) (own_w hw 208 rfl) (by decide) (by decide)) (g := (mkF m 228 (own_AIIIIIIIIRRIII i0 i1 i2 i3 v5 v12 v19 (3 : Int32) b83 rr c124 c141 c158) [(.int v5), (.int (1 : Int32)), (.ref rr)])) rfl (by rw [hml]; rfl) (argsL := [(.ref rr), (.int (1 : Int32)), (.int v5)]) (rest := []) (lenOf pd_0_5 rfl) rfl (Nat.le_of_eq rfl) (hb hby at_228) (fun _ _ => ⟨rfl, hq207, (by decide : 38 + 0 ≤ _), (by decide : 2244 + 0 ≤ _)⟩)
    dsimp only [Pt.U, Pt.locs, Pt.cells, Pt.slots] at X228 l228 y228 z228 st228 hQ228
    subst l228 y228 z228
    obtain ⟨rfl, N228q, hq228⟩ := hQ228
    have N228 := Fr.app N207 N228q
    refine own_by st228 ?_
    obtain ⟨t247, ht247⟩ : ∃ z : Int32, z = ((1 : Int32) + c124) := ⟨_, rfl⟩
    have sg248 : own_G p e below T228 (mkF m 248 (own_AIIIIIIIIRRIII i0 i1 i2 i3 v5 v12 v19 (3 : Int32) b83 rr c124 c141 c158) [(.int t247), (.ref rr)]) T228 (mkF m 231 (own_AIIIIIIIIRRIII i0 i1 i2 i3 v5 v12 v19 (3 : Int32) b83 rr c124 c141 c158) [(.int (1 : Int32))]) := by
      intro t k
      rw [ht247] at k
      refine XS.ifYes X228.here hx rfl (pc0 := 231) (pc' := 236) rfl (hb hby at_231) rfl ((if0 _ _).trans (feq (by decide : ¬ ((1 : Int32) = (0 : Int32)))).2) (by decide) (by decide) ?_
      refine XS.iload X228.here hx rfl (hb hby at_236) rfl ?_
      refine XS.iconst X228.here hx rfl (hb hby at_238) ?_
      refine XS.icmpNo X228.here hx rfl (hb hby at_239) rfl (flt (by decide : ¬ ((3 : Int32) < (2 : Int32)))).1 ?_
      refine XS.aload X228.here hx rfl (hb hby at_242) rfl rfl ?_
      refine XS.iconst X228.here hx rfl (hb hby at_244) ?_
      refine XS.iload X228.here hx rfl (hb hby at_245) rfl ?_
      refine XS.iadd X228.here hx rfl (hb hby at_247) rfl ?_
      exact k
    refine own_by sg248 ?_
    have nt_t247 : t247 = Int32.ofNat (1 + (own_esc v5).length) := ht247.trans (own_nadd rfl nt_c124)
    have sg250 : own_G p e below T228 (mkF m 250 (own_AIIIIIIIIRRIII i0 i1 i2 i3 v5 v12 v19 (3 : Int32) b83 rr c124 c141 c158) [(.int v12), (.int t247), (.ref rr)]) T228 (mkF m 248 (own_AIIIIIIIIRRIII i0 i1 i2 i3 v5 v12 v19 (3 : Int32) b83 rr c124 c141 c158) [(.int t247), (.ref rr)]) := by
      intro t k
      refine XS.iload X228.here hx rfl (hb hby at_248) rfl ?_
      exact k
    refine own_by sg250 ?_
    obtain ⟨_, _, ⟨T250, L250, k250, n250⟩, -, X250, ⟨Lc250, hQ250, l250, y250, z250⟩, st250⟩ := Jvm.LawKit.callS X228 hx (y := own_n56) hown111 (mvT hZ111 (own_w hw 212 rfl)) (mvT hZ111 (own_w hw 213 rfl)) (mvT hZ111 (own_w hw 208 rfl)) (mvT hZ111 (own_w hw 214 rfl)) (by decide) (backOf (W := 0) (rm40 l Z a0 hw [] rr t247 v12 t2 kt2 M2 cd2 (own_json ([v5, v12, v19] : List Int32)) (1 + (own_esc v5).length) gz gf T111.heap n0 Z111 (((((((O.ext E83).wr W89 g_b83).wr W94 g_b83).wr W99 g_b83).ext E102).keep Kq108 (allS g_b102 all0)).keep Kq111 all0) hst TR nt_t247 hk_v12 (fun k e h => own_at1 v5 v12 _ k e h)) hZ111 (own_w hw 214 rfl) (own_w hw 208 rfl) (by decide) (by decide)) (g := (mkF m 250 (own_AIIIIIIIIRRIII i0 i1 i2 i3 v5 v12 v19 (3 : Int32) b83 rr c124 c141 c158) [(.int v12), (.int t247), (.ref rr)])) rfl (by rw [hml]; rfl) (argsL := [(.ref rr), (.int t247), (.int v12)]) (rest := []) (lenOf pd_0_5 rfl) rfl (Nat.le_of_eq rfl) (hb hby at_250) (fun _ _ => ⟨rfl, hq228, (by decide : 38 + 0 ≤ _), (by decide : 2244 + 0 ≤ _)⟩)
    dsimp only [Pt.U, Pt.locs, Pt.cells, Pt.slots] at X250 l250 y250 z250 st250 hQ250
    subst l250 y250 z250
    obtain ⟨rfl, N250q, hq250⟩ := hQ250
    have N250 := Fr.app N228 N250q
    refine own_by st250 ?_
    obtain ⟨t269, ht269⟩ : ∃ z : Int32, z = ((1 : Int32) + c124) := ⟨_, rfl⟩
    have sg270 : own_G p e below T250 (mkF m 270 (own_AIIIIIIIIRRIII i0 i1 i2 i3 v5 v12 v19 (3 : Int32) b83 rr c124 c141 c158) [(.int t269), (.ref rr)]) T250 (mkF m 253 (own_AIIIIIIIIRRIII i0 i1 i2 i3 v5 v12 v19 (3 : Int32) b83 rr c124 c141 c158) [(.int (1 : Int32))]) := by
      intro t k
      rw [ht269] at k
      refine XS.ifYes X250.here hx rfl (pc0 := 253) (pc' := 258) rfl (hb hby at_253) rfl ((if0 _ _).trans (feq (by decide : ¬ ((1 : Int32) = (0 : Int32)))).2) (by decide) (by decide) ?_
      refine XS.iload X250.here hx rfl (hb hby at_258) rfl ?_
      refine XS.iconst X250.here hx rfl (hb hby at_260) ?_
      refine XS.icmpNo X250.here hx rfl (hb hby at_261) rfl (flt (by decide : ¬ ((3 : Int32) < (3 : Int32)))).1 ?_
      refine XS.aload X250.here hx rfl (hb hby at_264) rfl rfl ?_
      refine XS.iconst X250.here hx rfl (hb hby at_266) ?_
      refine XS.iload X250.here hx rfl (hb hby at_267) rfl ?_
      refine XS.iadd X250.here hx rfl (hb hby at_269) rfl ?_
      exact k
    refine own_by sg270 ?_
    have nt_t269 : t269 = Int32.ofNat (1 + (own_esc v5).length) := ht269.trans (own_nadd rfl nt_c124)
    obtain ⟨t272, ht272⟩ : ∃ z : Int32, z = (t269 + c141) := ⟨_, rfl⟩
    have sg273 : own_G p e below T250 (mkF m 273 (own_AIIIIIIIIRRIII i0 i1 i2 i3 v5 v12 v19 (3 : Int32) b83 rr c124 c141 c158) [(.int t272), (.ref rr)]) T250 (mkF m 270 (own_AIIIIIIIIRRIII i0 i1 i2 i3 v5 v12 v19 (3 : Int32) b83 rr c124 c141 c158) [(.int t269), (.ref rr)]) := by
      intro t k
      rw [ht272] at k
      refine XS.iload X250.here hx rfl (hb hby at_270) rfl ?_
      refine XS.iadd X250.here hx rfl (hb hby at_272) rfl ?_
      exact k
    refine own_by sg273 ?_
    have nt_t272 : t272 = Int32.ofNat (1 + (own_esc v5).length + (own_esc v12).length) := ht272.trans (own_nadd nt_t269 nt_c141)
    have sg275 : own_G p e below T250 (mkF m 275 (own_AIIIIIIIIRRIII i0 i1 i2 i3 v5 v12 v19 (3 : Int32) b83 rr c124 c141 c158) [(.int v19), (.int t272), (.ref rr)]) T250 (mkF m 273 (own_AIIIIIIIIRRIII i0 i1 i2 i3 v5 v12 v19 (3 : Int32) b83 rr c124 c141 c158) [(.int t272), (.ref rr)]) := by
      intro t k
      refine XS.iload X250.here hx rfl (hb hby at_273) rfl ?_
      exact k
    refine own_by sg275 ?_
    obtain ⟨_, _, ⟨T275, L275, k275, n275⟩, -, X275, ⟨Lc275, hQ275, l275, y275, z275⟩, st275⟩ := Jvm.LawKit.callS X250 hx (y := own_n56) hown111 (mvT hZ111 (own_w hw 212 rfl)) (mvT hZ111 (own_w hw 213 rfl)) (mvT hZ111 (own_w hw 208 rfl)) (mvT hZ111 (own_w hw 214 rfl)) (by decide) (backOf (W := 0) (rm40 l Z a0 hw [] rr t272 v19 t2 kt2 M2 cd2 (own_json ([v5, v12, v19] : List Int32)) (1 + (own_esc v5).length + (own_esc v12).length) gz gf T111.heap n0 Z111 (((((((O.ext E83).wr W89 g_b83).wr W94 g_b83).wr W99 g_b83).ext E102).keep Kq108 (allS g_b102 all0)).keep Kq111 all0) hst TR nt_t272 hk_v19 (fun k e h => own_at2 v5 v12 v19 _ k e h)) hZ111 (own_w hw 214 rfl) (own_w hw 208 rfl) (by decide) (by decide)) (g := (mkF m 275 (own_AIIIIIIIIRRIII i0 i1 i2 i3 v5 v12 v19 (3 : Int32) b83 rr c124 c141 c158) [(.int v19), (.int t272), (.ref rr)])) rfl (by rw [hml]; rfl) (argsL := [(.ref rr), (.int t272), (.int v19)]) (rest := []) (lenOf pd_0_5 rfl) rfl (Nat.le_of_eq rfl) (hb hby at_275) (fun _ _ => ⟨rfl, hq250, (by decide : 38 + 0 ≤ _), (by decide : 2244 + 0 ≤ _)⟩)
    dsimp only [Pt.U, Pt.locs, Pt.cells, Pt.slots] at X275 l275 y275 z275 st275 hQ275
    subst l275 y275 z275
    obtain ⟨rfl, N275q, hq275⟩ := hQ275
    have N275 := Fr.app N250 N275q
    refine own_by st275 ?_
    have sg284 : own_G p e below T275 (mkF m 284 (own_AIIIIIIIIRRIII i0 i1 i2 i3 v5 v12 v19 (3 : Int32) b83 rr c124 c141 c158) [(.int (1 : Int32))]) T275 (mkF m 278 (own_AIIIIIIIIRRIII i0 i1 i2 i3 v5 v12 v19 (3 : Int32) b83 rr c124 c141 c158) [(.int (1 : Int32))]) := by
      intro t k
      refine XS.ifYes X275.here hx rfl (pc0 := 278) (pc' := 283) rfl (hb hby at_278) rfl ((if0 _ _).trans (feq (by decide : ¬ ((1 : Int32) = (0 : Int32)))).2) (by decide) (by decide) ?_
      refine XS.iconst X275.here hx rfl (hb hby at_283) ?_
      exact k
    refine own_by sg284 ?_
    obtain ⟨fs, hr, hrun, hended, hW⟩ := X275.leaveW hS111 (by rw [hq275]; exact (Nat.le_refl _)) (v := some (.int (1 : Int32))) (fun h => by rw [Bd.returns] at h; cases h)
    refine ⟨_, _, ?_, hrun, hended, _, _, rfl, ?_, (by rw [hh]; show CHr Z consts_1 s.vm h0 T275.vm T275.heap; rw [hq275]; exact CR111.trans (CHv.at X275 hZ111 hEL hC111.1)), hW.1, hW.2.1, hW.2.2.1, hW.2.2.2.mono (by decide) (by decide)⟩
    · exact retN X275 hx (t := .boolean) Bd.returns (by simp) (hb hby at_284) hr
    · show Q0 Z i0 i1 i2 i3 wH gz gf h0 n0 _ T275.heap _
      rw [hq275]
      exact ⟨rfl, N275⟩
theorem own_len {t : Term} {n : Nat} {args : Array Value} {Z : State} {a : Addr} {cl : Cell} {ty : FieldType} (ev : t.eval args Z none [] Z = some (.ref a)) (A : Arr Z Z.heap a cl ty) (hn : n < 2 ^ 31) (h : (Term.length t).eval args Z none [] Z = some (.int n.toInt32)) : cl.slots.size = n := by
  obtain ⟨b, cell, e1, e2, e3, e4⟩ := Lib.length_spec h
  cases ev.symm.trans e1
  have q : cell = cl := Option.some.inj ((Lib.arrayAt_spec e2).1.symm.trans A.1)
  subst q
  have e5 := congrArg Int32.toInt (Value.int.inj e4)
  rw [len_toInt e3, len_toInt hn] at e5
  omega
theorem own_HXs {Z : State} {args : Array Value} {t : Term} {a : Addr} {cl : Cell} (hf : Fit Z) (et : ∀ idx, t.eval args Z none idx Z = some (.ref a)) (A : Arr Z Z.heap a cl .char) (hs : cl.slots.size = 16)
    (h1 : (Jvm.Cond.all t (.or (.le (.int 10) (.index 0)) (.eq (.op1 .i2l (.elem t (.index 0))) (.op2 .ladd (.op1 .i2l (.index 0)) (.long 48))))).value args Z none Z [] = some true)
    (h2 : (Jvm.Cond.all t (.or (.lt (.index 0) (.int 10)) (.eq (.op1 .i2l (.elem t (.index 0))) (.op2 .ladd (.op1 .i2l (.index 0)) (.long 87))))).value args Z none Z [] = some true) : own_HX Z a := by
  refine ⟨cl, A, hs, fun k hk => ?_⟩
  have jc : (Int32.ofNat k).toNatClampNeg = k := own_ntc rfl (by omega)
  have jn : ¬ Int32.ofNat k < 0 := own_nge rfl (by omega)
  obtain ⟨v, e1, e2⟩ := elem_fit hf A (j := Int32.ofNat k) (by rw [jc, hs]; exact fun q => q.elim jn (by omega))
  obtain ⟨y, rfl⟩ := fit_I e2 (by simp)
  rw [jc] at e1
  have ei : (Term.index 0).eval args Z none [k] Z = some (.int (Int32.ofNat k)) := by
    have q := idx_at (args := args) (first := Z) (s := Z) (o := none) jn
    rw [jc] at q; exact q
  have ee : (Term.elem t (.index 0)).eval args Z none [k] Z = some (.int y) := by rw [elem_f (et _) ei (A.fin (Vm.Alike.refl _)) jn, jc]; exact e1
  rw [e1]
  have main : ∀ m : Int64, (Jvm.Cond.eq (.op1 .i2l (.elem t (.index 0))) (.op2 .ladd (.op1 .i2l (.index 0)) (.long m))).value args Z none Z [k] = some true → y.toInt64 = (Int32.ofNat k).toInt64 + m := fun m u => by
    have fe : (Term.op2 .ladd (.op1 .i2l (.index 0)) (.long m)).eval args Z none [k] Z = some (.long ((Int32.ofNat k).toInt64 + m)) := by
      simp [Term.eval, Unary.apply, Binary.apply]
    exact Value.long.inj (Option.some.inj ((i2l_at ee).symm.trans (eqv_l fe u)))
  have fin : ∀ m : Int64, y.toInt64 = (Int32.ofNat k).toInt64 + m → y = ((Int32.ofNat k).toInt64 + m).toInt32 := fun m q => by rw [← q, Int32.toInt32_toInt64]
  have d1 : ∀ q : Fin 10, ((Int32.ofNat q.val).toInt64 + 48).toInt32 = own_hx (Int32.ofNat q.val) := by decide +kernel
  have d2 : ∀ q : Fin 16, ¬ q.val < 10 → ((Int32.ofNat q.val).toInt64 + 87).toInt32 = own_hx (Int32.ofNat q.val) := by decide +kernel
  by_cases q : k < 10
  · have u := Cond.all_elim (et []) (A.fin (Vm.Alike.refl _)) h1 k (by omega)
    rw [Cond.or_of_right (by rw [Cond.le_ints (Term.int_eval 10) ei]; exact congrArg some (decide_eq_false (Int32.not_le.mpr ((own_nlt (n := 10) rfl rfl (by omega) (by decide)).mpr q))))] at u
    rw [fin _ (main _ u)]; exact congrArg (fun z => some (Value.int z)) (d1 ⟨k, q⟩)
  · have u := Cond.all_elim (et []) (A.fin (Vm.Alike.refl _)) h2 k (by omega)
    rw [Cond.or_of_right (by rw [Cond.lt_ints ei (Term.int_eval 10)]; exact congrArg some (decide_eq_false ((not_congr (own_nlt (n := 10) rfl rfl (by omega) (by decide))).mpr q)))] at u
    rw [fin _ (main _ u)]; exact congrArg (fun z => some (Value.int z)) (d2 ⟨k, hk⟩ q)
set_option maxRecDepth 65536 in
set_option maxHeartbeats 40000000 in
theorem comes_1 {Post : Tables → Env → Array Value → State → Outcome → State → Prop} (hpost : ∀ tb e args s v u, (limb_1_1.after args s (.returned v) u = true ∧ limb_1_2.after args s (.returned v) u = true ∧ True) → ReturnedEndW s (.returned v) u (Jvm.fieldLocs frame_1_writes args s ++ Jvm.arrayLocs frame_1_arrays args s ++ Jvm.staticLocs frame_1_statics s) 40 2432 → Post tb e args s (.returned v) u) :
    ArmFor flags0 classFile x code maxLocals ret World_1 tables_1 room_1 Calls_1 rest_1 Pre_1 Post := by
  intro l hfl _ _ p e ha hc hk s m args below hf hA hF happ hP
  obtain ⟨hcalls, hrest, hpre⟩ := hP
  obtain ⟨-, -, -, hnamed, -, -, -, hat⟩ := (Spec.applies_iff hf).mp happ
  obtain ⟨hg, nn⟩ := and_e (Cond.before_iff.mp (show (Jvm.Cond.and given_1 narrow_1).before args s = true from hpre))
  obtain ⟨hh0, hh1⟩ := and_e hg
  obtain ⟨hh2, hh3⟩ := and_e hh1
  obtain ⟨hh4, hh5⟩ := and_e hh3
  obtain ⟨hh6, hh7⟩ := and_e hh5
  obtain ⟨w0, w1, w2, w3, rfl⟩ : ∃ w0 w1 w2 w3 : Value, args = #[w0, w1, w2, w3] := by
    have hs : args.size = 4 := by simpa [Cond.value, given_1] using hh0
    obtain ⟨L⟩ := args
    match L, hs with
    | [w0, w1, w2, w3], _ => exact ⟨w0, w1, w2, w3, rfl⟩
  have hw := fun d (hd : d ∈ tables_1) => atoms_spec (ws := Jvm.Cond.code x code maxLocals ret :: tables_1) hat d (List.mem_cons_of_mem _ hd)
  have hfit : Fit s := fun {y c} hc i hi => by
    obtain ⟨ha, rfl⟩ := Array.getElem?_eq_some_iff.mp hc
    have q := List.all_eq_true.mp ((Array.all_eq_true_iff_forall_mem.mp hF) _ (Array.getElem_mem ha)) i (List.mem_range.mpr hi)
    simpa [Array.getElem?_eq_getElem hi] using q
  obtain ⟨hsets, hown0⟩ := atoms_of _ (rest_1_c_eq ▸ (show rest_1_c.before _ s = true from hrest))
  have hr0 := Cond.before_iff.mp hown0
  obtain ⟨gz, ez⟩ := is_v (Cond.before_iff.mp (hsets _ (List.mem_of_getElem? (i := 1) rfl)))
  have Sz : Sta s s.heap "java/lang/String" "COMPACT_STRINGS" "Z" (.int gz) := Sta.start ez (Or.inl (hsets _ (List.mem_of_getElem? (i := 0) rfl)))
  have cz : ¬ (gz = (0 : Int32)) := gotF (Cond.eq_ints ez (Term.int_eval (0))) (not_v (Cond.before_iff.mp (hsets _ (List.mem_of_getElem? (i := 2) rfl))))
  obtain ⟨gf, ef, rf⟩ := isR_v (Cond.before_iff.mp (hsets _ (List.mem_of_getElem? (i := 8) rfl)))
  have Sf : Sta s s.heap "jdk/internal/util/Preconditions" "SIOOBE_FORMATTER" "Ljava/util/function/BiFunction;" gf := Sta.start ef (Or.inl (hsets _ (List.mem_of_getElem? (i := 7) rfl)))
  obtain ⟨i0, ei0⟩ := is_v hh2
  obtain rfl : w0 = (.int i0) := Option.some.inj ei0
  obtain ⟨i1, ei1⟩ := is_v hh4
  obtain rfl : w1 = (.int i1) := Option.some.inj ei1
  obtain ⟨i2, ei2⟩ := is_v hh6
  obtain rfl : w2 = (.int i2) := Option.some.inj ei2
  obtain ⟨i3, ei3⟩ := is_v hh7
  obtain rfl : w3 = (.int i3) := Option.some.inj ei3
  obtain ⟨nn0, nn1⟩ := and_e nn
  obtain ⟨nn2, nn3⟩ := and_e nn1
  obtain ⟨nn4, nn5⟩ := and_e nn3
  have Su0 : Sta s s.heap "java/lang/StringUTF16" "$assertionsDisabled" "Z" (.int (1 : Int32)) := Sta.start (own_eqi (Cond.before_iff.mp (hsets _ (List.mem_of_getElem? (i := 12) rfl)))) (Or.inl (hsets _ (List.mem_of_getElem? (i := 11) rfl)))
  have Su1 : Sta s s.heap "java/lang/StringUTF16" "HI_BYTE_SHIFT" "I" (.int (0 : Int32)) := Sta.start (own_eqi (Cond.before_iff.mp (hsets _ (List.mem_of_getElem? (i := 15) rfl)))) (Or.inl (hsets _ (List.mem_of_getElem? (i := 14) rfl)))
  have Su2 : Sta s s.heap "java/lang/StringUTF16" "LO_BYTE_SHIFT" "I" (.int (8 : Int32)) := Sta.start (own_eqi (Cond.before_iff.mp (hsets _ (List.mem_of_getElem? (i := 18) rfl)))) (Or.inl (hsets _ (List.mem_of_getElem? (i := 17) rfl)))
  have hst : own_ST s gz gf := ⟨Sz, cz, Sf, rf, Su0, Su1, Su2⟩
  obtain ⟨wH, ev⟩ := arr_v nn0
  obtain ⟨cl, Ar⟩ := Arr.start ev nn0
  have St := Sta.start ev (Or.inr ⟨(own_w hw 33 rfl), (own_w hw 167 rfl)⟩)
  have hsz : cl.slots.size = 16 := own_len ev Ar (by decide) (own_eqi nn2)
  have hHX : own_HX s wH := own_HXs hfit (fun _ => ev) Ar hsz nn4 nn5
  have hEL : EW _ _ consts_1 := (EW.cons (own_w hw 110 rfl) (by decide) (EW.cons (own_w hw 224 rfl) (by decide) EW.nil))
  have hH0 : CHv s consts_1 s.vm s.heap := CHv.start hEL hcalls.1 (hsets _ (List.mem_of_getElem? (i := 2) rfl)) (own_w hw 20 rfl) (own_w hw 3 rfl)
  obtain ⟨n, o, h1, h2, h3, _, L, rfl, ⟨rfl, N⟩, -, hq⟩ := rm0 l s _ hw tables_1 i0 i1 i2 i3 wH gz gf s.heap s.heap.size (Nat.le_refl _) (Old.start s) hst St hHX p e ha hc hk s m _ below hf ((Spec.applies_iff_loose hf).mp happ).1 ⟨rfl, State.Warmed39.refl s, rfl, hH0⟩ trivial
  refine ⟨n, _, h1, h2, h3, hpost _ _ _ _ _ _ ⟨Cond.after_iff.mpr rfl, Cond.after_iff.mpr (eq_i res_at (Term.int_eval (1)) rfl), trivial⟩ ⟨hq.1, hq.2.1, hq.2.2.1, (hq.2.2.2.sift fun y hy => Or.inr (N y hy)).mono (by decide) (by decide)⟩⟩
theorem main_1_1 : Claimed_1_1 := comes_1 fun _ _ _ _ _ _ h hF => ⟨h.1, hF⟩
theorem main_1_2 : Claimed_1_2 := comes_1 fun _ _ _ _ _ _ h hF => ⟨h.2.1, hF⟩
end Jvm.Pilot.@@N@@

namespace Jvm.Pilot.@@N@@
open Jvm Jvm.ClassFile Sem Op Lib Jvm.Free Jvm.Stand Jvm.Pilot.@@N@@.Jvm.D
/-! MADE BY PROGRAM (witnessworld.py) out of the Statement's table words and the real class files: 24 classes; the members and pool entries that the words name. The judged class is class 1, her method 1. -/
namespace start1
open Jvm.ClassFile
def u (s : String) : CpInfo := .utf8 (stringToUtf16 s)
/-- a pool by its gaps: so many unusable entries, then the entry; so many at the end -/
def gap : Nat → List CpInfo → List CpInfo
  | 0, r => r
  | n + 1, r => .unusable :: gap n r
def poolList (es : List (Nat × CpInfo)) (last : Nat) : List CpInfo := es.foldr (fun e r => gap e.1 (e.2 :: r)) (gap last [])
def pool (es : List (Nat × CpInfo)) (last : Nat) : Array CpInfo := ⟨poolList es last⟩
def fileOf (pool : Array CpInfo) (this : Nat) (attrs : Array Attribute := #[]) (ms : Array MethodInfo := #[]) (fl : Nat := 33) (sup : Nat := 0) (ifs : Array Nat := #[]) (fds : Array FieldInfo := #[]) : ClassFile where
  minorVersion := 0
  majorVersion := 65
  constantPool := pool
  accessFlags := fl
  thisClass := this
  superClass := sup
  interfaces := ifs
  fields := fds
  methods := ms
  attributes := attrs
def plain (name : String) (sup : Option ClassId) : Class where
  name := name
  kind := .ordinary
  loader := none
  accessFlags := 33
  super := sup
  interfaces := #[]
  cf := none
  fields := #[]
  methods := #[]
  instanceTypes := #[]
  staticTypes := #[]
  resolved := #[]
  callSites := []
  init := .initialized
  statics := none
  mirror := none

def pool0 : Array CpInfo := pool [(5, u "<init>"), (0, u "()V"), (1, .class_ 10), (1, u "java/lang/Object"), (85, u "clone"), (0, u "()Ljava/lang/Object;")] 26

def k0c0 : Code := { maxStack := 0, maxLocals := 1, code := object_method_1_code, exceptionTable := #[], attributes := #[] }
def k0m0 : Method := { name := "<init>", desc := "()V", sig := { parameters := [], returnType := none }, accessFlags := 1, code := some k0c0 }
def k0m1 : Method := { name := "clone", desc := "()Ljava/lang/Object;", sig := { parameters := [], returnType := some (.object "java/lang/Object") }, accessFlags := 260, code := none }
/-- java/lang/Object -/
def k0 : Class := { plain "java/lang/Object" none with
  accessFlags := 33
  interfaces := #[]
  cf := some (fileOf pool0 8 #[] #[{ accessFlags := 1, nameIndex := 5, descriptorIndex := 6, attributes := #[] }, { accessFlags := 260, nameIndex := 96, descriptorIndex := 97, attributes := #[] }] 33 0 #[] #[])
  fields := #[]
  methods := #[k0m0, k0m1]
  instanceTypes := #[]
  staticTypes := #[]
  resolved := Array.replicate 124 none
  statics := none }

def pool1 : Array CpInfo := pool [(2, .class_ 4), (1, u "java/lang/Object"), (0, u "<init>"), (0, u "()V"), (0, .integer 65535), (0, .class_ 9), (0, u "java/lang/String"), (0, .methodref 8 11), (0, .nameAndType 5 12), (0, u "([C)V"), (0, .methodref 14 15), (0, .class_ 16), (0, .nameAndType 17 18), (0, u "com/example/catchment/catchment/Json"), (0, u "string"), (0, u "(Ljava/lang/String;)Ljava/lang/String;"), (0, .methodref 20 21), (0, .class_ 22), (0, .nameAndType 23 24), (0, u "com/example/catchment/catchment/JsonStringPinLaw"), (0, u "enc"), (0, u "(C)I"), (0, .methodref 8 26), (0, .nameAndType 27 28), (0, u "length"), (0, u "()I"), (0, .methodref 8 30), (0, .nameAndType 31 32), (0, u "charAt"), (0, u "(I)C"), (0, .methodref 20 34), (0, .nameAndType 35 36), (0, u "at"), (0, u "(Ljava/lang/String;IC)Z"), (0, .methodref 20 38), (0, .nameAndType 39 32), (0, u "hex"), (2, u "law"), (0, u "(IIII)Z")] 5

def k1m0 : Method := { name := "<init>", desc := "()V", sig := { parameters := [], returnType := none }, accessFlags := 2, code := none }
def k1c1 : Code := { maxStack := 4, maxLocals := 13, code := code, exceptionTable := #[], attributes := #[] }
def k1m1 : Method := { name := "law", desc := "(IIII)Z", sig := { parameters := [.int, .int, .int, .int], returnType := some .boolean }, accessFlags := 9, code := some k1c1 }
def k1c2 : Code := { maxStack := 2, maxLocals := 1, code := method_3_code, exceptionTable := #[], attributes := #[] }
def k1m2 : Method := { name := "enc", desc := "(C)I", sig := { parameters := [.char], returnType := some .int }, accessFlags := 10, code := some k1c2 }
def k1c3 : Code := { maxStack := 2, maxLocals := 1, code := method_4_code, exceptionTable := #[], attributes := #[] }
def k1m3 : Method := { name := "hex", desc := "(I)C", sig := { parameters := [.int], returnType := some .char }, accessFlags := 10, code := some k1c3 }
def k1c4 : Code := { maxStack := 3, maxLocals := 3, code := method_5_code, exceptionTable := #[], attributes := #[] }
def k1m4 : Method := { name := "at", desc := "(Ljava/lang/String;IC)Z", sig := { parameters := [(.object "java/lang/String"), .int, .char], returnType := some .boolean }, accessFlags := 10, code := some k1c4 }
/-- com/example/catchment/catchment/JsonStringPinLaw -/
def k1 : Class := { plain "com/example/catchment/catchment/JsonStringPinLaw" (some 0) with
  accessFlags := 49
  interfaces := #[]
  cf := some (fileOf pool1 20 #[] #[{ accessFlags := 2, nameIndex := 5, descriptorIndex := 6, attributes := #[] }, { accessFlags := 9, nameIndex := 42, descriptorIndex := 43, attributes := #[] }, { accessFlags := 10, nameIndex := 23, descriptorIndex := 24, attributes := #[] }, { accessFlags := 10, nameIndex := 39, descriptorIndex := 32, attributes := #[] }, { accessFlags := 10, nameIndex := 35, descriptorIndex := 36, attributes := #[] }] 49 2 #[] #[])
  fields := #[]
  methods := #[k1m0, k1m1, k1m2, k1m3, k1m4]
  instanceTypes := #[]
  staticTypes := #[]
  resolved := Array.replicate 49 none
  statics := none }

def pool2 : Array CpInfo := pool [(1, .class_ 2), (0, u "java/io/Serializable"), (0, .class_ 4), (0, u "java/lang/Object")] 2

/-- java/io/Serializable -/
def k2 : Class := { plain "java/io/Serializable" (some 0) with
  accessFlags := 1537
  interfaces := #[]
  cf := some (fileOf pool2 1 #[] #[] 1537 3 #[] #[])
  fields := #[]
  methods := #[]
  instanceTypes := #[]
  staticTypes := #[]
  resolved := Array.replicate 7 none
  statics := none }

def pool3 : Array CpInfo := pool [(1, .class_ 2), (0, u "java/lang/Comparable"), (0, .class_ 4), (0, u "java/lang/Object")] 7

/-- java/lang/Comparable -/
def k3 : Class := { plain "java/lang/Comparable" (some 0) with
  accessFlags := 1537
  interfaces := #[]
  cf := some (fileOf pool3 1 #[] #[] 1537 3 #[] #[])
  fields := #[]
  methods := #[]
  instanceTypes := #[]
  staticTypes := #[]
  resolved := Array.replicate 12 none
  statics := none }

def pool4 : Array CpInfo := pool [(2, .class_ 4), (1, u "java/lang/CharSequence"), (42, .class_ 48), (0, u "java/lang/CharSequence$1CodePointIterator"), (10, .class_ 60), (0, u "java/lang/CharSequence$1CharIterator"), (5, .class_ 67), (0, u "java/lang/Object")] 63

/-- java/lang/CharSequence -/
def k4 : Class := { plain "java/lang/CharSequence" (some 0) with
  accessFlags := 1537
  interfaces := #[]
  cf := some (fileOf pool4 2 #[.nestMembers #[47, 59]] #[] 1537 66 #[] #[])
  fields := #[]
  methods := #[]
  instanceTypes := #[]
  staticTypes := #[]
  resolved := Array.replicate 131 none
  statics := none }

def pool5 : Array CpInfo := pool [(1, .class_ 2), (0, u "java/lang/constant/Constable"), (0, .class_ 4), (0, u "java/lang/Object")] 6

/-- java/lang/constant/Constable -/
def k5 : Class := { plain "java/lang/constant/Constable" (some 0) with
  accessFlags := 1537
  interfaces := #[]
  cf := some (fileOf pool5 1 #[] #[] 1537 3 #[] #[])
  fields := #[]
  methods := #[]
  instanceTypes := #[]
  staticTypes := #[]
  resolved := Array.replicate 11 none
  statics := none }

def pool6 : Array CpInfo := pool [(1, .class_ 2), (0, u "java/lang/constant/ConstantDesc"), (0, .class_ 4), (0, u "java/lang/Object")] 32

/-- java/lang/constant/ConstantDesc -/
def k6 : Class := { plain "java/lang/constant/ConstantDesc" (some 0) with
  accessFlags := 1537
  interfaces := #[]
  cf := some (fileOf pool6 1 #[] #[] 1537 3 #[] #[])
  fields := #[]
  methods := #[]
  instanceTypes := #[]
  staticTypes := #[]
  resolved := Array.replicate 37 none
  statics := none }

def pool7 : Array CpInfo := pool [(1, .methodref 2 3), (0, .class_ 4), (0, .nameAndType 5 6), (0, u "java/lang/Object"), (0, u "<init>"), (0, u "()V"), (0, .string 8), (0, u ""), (0, .fieldref 10 11), (0, .class_ 12), (0, .nameAndType 13 14), (0, u "java/lang/String"), (0, u "value"), (0, u "[B"), (0, .fieldref 10 16), (0, .nameAndType 17 18), (0, u "coder"), (0, u "B"), (2, u "hash"), (0, u "I"), (2, u "hashIsZero"), (0, u "Z"), (0, .methodref 10 28), (0, .nameAndType 5 29), (0, u "([CIILjava/lang/Void;)V"), (6, u "checkBoundsOffCount"), (0, u "(III)I"), (0, .fieldref 10 39), (0, .nameAndType 40 26), (0, u "COMPACT_STRINGS"), (1, .class_ 44), (1, u "java/lang/StringUTF16"), (0, u "compress"), (1, .methodref 42 48), (0, .nameAndType 49 50), (0, u "coderFromArrayLen"), (0, u "([BI)B"), (3, .methodref 55 56), (0, .class_ 57), (0, .nameAndType 58 59), (0, u "java/util/Arrays"), (0, u "copyOfRange"), (0, u "([BII)[B"), (46, .methodref 107 108), (0, .class_ 109), (0, .nameAndType 110 111), (0, u "java/lang/StringLatin1"), (0, u "inflate"), (0, u "([BI[BII)V"), (30, u "()Z"), (34, .methodref 42 178), (0, .nameAndType 45 179), (0, u "([CII)[B"), (13, .class_ 195), (1, u "java/lang/System"), (16, .methodref 193 213), (0, .nameAndType 214 215), (0, u "arraycopy"), (0, u "(Ljava/lang/Object;ILjava/lang/Object;II)V"), (118, u "()I"), (0, .methodref 10 336), (0, .nameAndType 17 337), (0, u "()B"), (2, u "()[B"), (22, u "([BI)C"), (27, u "(II)V"), (35, u "(I)C"), (61, .methodref 10 490), (0, .nameAndType 5 491), (0, u "(Ljava/lang/AbstractStringBuilder;Ljava/lang/Void;)V"), (0, .methodref 10 493), (0, .nameAndType 494 142), (0, u "isLatin1"), (0, .methodref 107 496), (0, .nameAndType 497 363), (0, u "charAt"), (0, .methodref 42 496), (2, u "checkIndex"), (4, .nameAndType 507 334), (0, u "length"), (24, u "getBytes"), (16, .methodref 550 506), (0, .class_ 551), (0, u "java/lang/AbstractStringBuilder"), (0, .methodref 550 553), (0, .nameAndType 554 340), (0, u "getValue"), (20, .class_ 576), (0, u "java/lang/CharSequence"), (22, u "CASE_INSENSITIVE_ORDER"), (0, u "Ljava/util/Comparator;"), (220, u "([BIB)V"), (188, u "([C)V"), (36, .methodref 550 493), (0, .fieldref 550 1049), (0, .nameAndType 1050 26), (0, u "maybeLatin1"), (2, .fieldref 1054 1055), (0, .class_ 1056), (0, .nameAndType 1057 1058), (0, u "jdk/internal/util/Preconditions"), (0, u "SIOOBE_FORMATTER"), (0, u "Ljava/util/function/BiFunction;"), (0, .methodref 1054 1060), (0, .nameAndType 501 1061), (0, u "(IILjava/util/function/BiFunction;)I"), (2, u "(IIILjava/util/function/BiFunction;)I"), (0, .methodref 1054 1066), (0, .nameAndType 1067 1064), (0, u "checkFromIndexSize"), (33, u "serialPersistentFields"), (0, u "[Ljava/io/ObjectStreamField;"), (0, .class_ 1104), (0, u "java/lang/String$CaseInsensitiveComparator"), (1, .class_ 1107), (0, u "java/io/Serializable"), (0, .class_ 1109), (0, u "java/lang/Comparable"), (0, .class_ 1111), (0, u "java/lang/constant/Constable"), (0, .class_ 1113), (0, u "java/lang/constant/ConstantDesc"), (2, u "serialVersionUID"), (0, u "J"), (3, u "REPL"), (0, u "C"), (2, u "LATIN1"), (1, u "UTF16"), (105, u "(Ljava/lang/StringBuilder;)V")] 217

def k7m0 : Method := { name := "<init>", desc := "()V", sig := { parameters := [], returnType := none }, accessFlags := 1, code := none }
def k7c1 : Code := { maxStack := 5, maxLocals := 2, code := jdk_42_method_3_code, exceptionTable := #[], attributes := #[] }
def k7m1 : Method := { name := "<init>", desc := "([C)V", sig := { parameters := [(.array .char)], returnType := none }, accessFlags := 1, code := some k7c1 }
def k7c2 : Code := { maxStack := 3, maxLocals := 2, code := jdk_42_method_53_code, exceptionTable := #[], attributes := #[] }
def k7m2 : Method := { name := "<init>", desc := "(Ljava/lang/StringBuilder;)V", sig := { parameters := [(.object "java/lang/StringBuilder")], returnType := none }, accessFlags := 1, code := some k7c2 }
def k7c3 : Code := { maxStack := 2, maxLocals := 1, code := jdk_42_method_54_code, exceptionTable := #[], attributes := #[] }
def k7m3 : Method := { name := "length", desc := "()I", sig := { parameters := [], returnType := some .int }, accessFlags := 1, code := some k7c3 }
def k7c4 : Code := { maxStack := 2, maxLocals := 2, code := jdk_42_method_56_code, exceptionTable := #[], attributes := #[] }
def k7m4 : Method := { name := "charAt", desc := "(I)C", sig := { parameters := [.int], returnType := some .char }, accessFlags := 1, code := some k7c4 }
def k7c5 : Code := { maxStack := 5, maxLocals := 4, code := jdk_42_method_147_code, exceptionTable := #[], attributes := #[] }
def k7m5 : Method := { name := "getBytes", desc := "([BIB)V", sig := { parameters := [(.array .byte), .int, .byte], returnType := none }, accessFlags := 0, code := some k7c5 }
def k7c6 : Code := { maxStack := 4, maxLocals := 6, code := jdk_42_method_149_code, exceptionTable := #[], attributes := #[] }
def k7m6 : Method := { name := "<init>", desc := "([CIILjava/lang/Void;)V", sig := { parameters := [(.array .char), .int, .int, (.object "java/lang/Void")], returnType := none }, accessFlags := 2, code := some k7c6 }
def k7c7 : Code := { maxStack := 5, maxLocals := 5, code := jdk_42_method_150_code, exceptionTable := #[], attributes := #[] }
def k7m7 : Method := { name := "<init>", desc := "(Ljava/lang/AbstractStringBuilder;Ljava/lang/Void;)V", sig := { parameters := [(.object "java/lang/AbstractStringBuilder"), (.object "java/lang/Void")], returnType := none }, accessFlags := 0, code := some k7c7 }
def k7c8 : Code := { maxStack := 1, maxLocals := 1, code := jdk_42_method_152_code, exceptionTable := #[], attributes := #[] }
def k7m8 : Method := { name := "coder", desc := "()B", sig := { parameters := [], returnType := some .byte }, accessFlags := 0, code := some k7c8 }
def k7c9 : Code := { maxStack := 1, maxLocals := 1, code := jdk_42_method_154_code, exceptionTable := #[], attributes := #[] }
def k7m9 : Method := { name := "isLatin1", desc := "()Z", sig := { parameters := [], returnType := some .boolean }, accessFlags := 0, code := some k7c9 }
def k7c10 : Code := { maxStack := 3, maxLocals := 2, code := jdk_42_method_155_code, exceptionTable := #[], attributes := #[] }
def k7m10 : Method := { name := "checkIndex", desc := "(II)V", sig := { parameters := [.int, .int], returnType := none }, accessFlags := 8, code := some k7c10 }
def k7c11 : Code := { maxStack := 4, maxLocals := 3, code := jdk_42_method_157_code, exceptionTable := #[], attributes := #[] }
def k7m11 : Method := { name := "checkBoundsOffCount", desc := "(III)I", sig := { parameters := [.int, .int, .int], returnType := some .int }, accessFlags := 8, code := some k7c11 }
/-- java/lang/String -/
def k7 : Class := { plain "java/lang/String" (some 0) with
  accessFlags := 49
  interfaces := #[2, 3, 4, 5, 6]
  cf := some (fileOf pool7 10 #[.nestMembers #[1103]] #[{ accessFlags := 1, nameIndex := 5, descriptorIndex := 6, attributes := #[] }, { accessFlags := 1, nameIndex := 5, descriptorIndex := 1010, attributes := #[] }, { accessFlags := 1, nameIndex := 5, descriptorIndex := 1233, attributes := #[] }, { accessFlags := 1, nameIndex := 507, descriptorIndex := 334, attributes := #[] }, { accessFlags := 1, nameIndex := 497, descriptorIndex := 427, attributes := #[] }, { accessFlags := 0, nameIndex := 532, descriptorIndex := 821, attributes := #[] }, { accessFlags := 2, nameIndex := 5, descriptorIndex := 29, attributes := #[] }, { accessFlags := 0, nameIndex := 5, descriptorIndex := 491, attributes := #[] }, { accessFlags := 0, nameIndex := 17, descriptorIndex := 337, attributes := #[] }, { accessFlags := 0, nameIndex := 494, descriptorIndex := 142, attributes := #[] }, { accessFlags := 8, nameIndex := 501, descriptorIndex := 391, attributes := #[] }, { accessFlags := 8, nameIndex := 36, descriptorIndex := 37, attributes := #[] }] 49 2 #[1106, 1108, 575, 1110, 1112] #[{ accessFlags := 18, nameIndex := 13, descriptorIndex := 14, attributes := #[] }, { accessFlags := 18, nameIndex := 17, descriptorIndex := 18, attributes := #[] }, { accessFlags := 2, nameIndex := 21, descriptorIndex := 22, attributes := #[] }, { accessFlags := 2, nameIndex := 25, descriptorIndex := 26, attributes := #[] }, { accessFlags := 26, nameIndex := 1116, descriptorIndex := 1117, attributes := #[] }, { accessFlags := 24, nameIndex := 40, descriptorIndex := 26, attributes := #[] }, { accessFlags := 26, nameIndex := 1101, descriptorIndex := 1102, attributes := #[] }, { accessFlags := 26, nameIndex := 1121, descriptorIndex := 1122, attributes := #[] }, { accessFlags := 25, nameIndex := 599, descriptorIndex := 600, attributes := #[] }, { accessFlags := 24, nameIndex := 1125, descriptorIndex := 18, attributes := #[] }, { accessFlags := 24, nameIndex := 1127, descriptorIndex := 18, attributes := #[] }])
  fields := #[{ name := "value", type := (.array .byte), accessFlags := 18, slot := 0, constantValue := 0 }, { name := "coder", type := .byte, accessFlags := 18, slot := 1, constantValue := 0 }, { name := "hash", type := .int, accessFlags := 2, slot := 2, constantValue := 0 }, { name := "hashIsZero", type := .boolean, accessFlags := 2, slot := 3, constantValue := 0 }, { name := "serialVersionUID", type := .long, accessFlags := 26, slot := 0, constantValue := 0 }, { name := "COMPACT_STRINGS", type := .boolean, accessFlags := 24, slot := 1, constantValue := 0 }, { name := "serialPersistentFields", type := (.array (.object "java/io/ObjectStreamField")), accessFlags := 26, slot := 2, constantValue := 0 }, { name := "REPL", type := .char, accessFlags := 26, slot := 3, constantValue := 0 }, { name := "CASE_INSENSITIVE_ORDER", type := (.object "java/util/Comparator"), accessFlags := 25, slot := 4, constantValue := 0 }, { name := "LATIN1", type := .byte, accessFlags := 24, slot := 5, constantValue := 0 }, { name := "UTF16", type := .byte, accessFlags := 24, slot := 6, constantValue := 0 }]
  methods := #[k7m0, k7m1, k7m2, k7m3, k7m4, k7m5, k7m6, k7m7, k7m8, k7m9, k7m10, k7m11]
  instanceTypes := #[(.array .byte), .byte, .int, .boolean]
  staticTypes := #[.long, .boolean, (.array (.object "java/io/ObjectStreamField")), .char, (.object "java/util/Comparator"), .byte, .byte]
  resolved := Array.replicate 1451 none
  statics := some 0 }

def pool8 : Array CpInfo := pool [(3, .class_ 4), (0, u "java/lang/String"), (1, .class_ 8), (1, u "java/lang/Object"), (0, u "<init>"), (0, u "()V"), (0, .methodref 12 13), (0, .class_ 14), (0, .nameAndType 15 16), (0, u "java/lang/StringUTF16"), (0, u "newBytesLength"), (0, u "(I)I"), (3, .integer 1073741823), (23, .fieldref 12 45), (0, .nameAndType 46 47), (0, u "$assertionsDisabled"), (0, u "Z"), (0, .methodref 12 49), (0, .nameAndType 50 51), (0, u "length"), (0, u "([B)I"), (7, .fieldref 12 60), (0, .nameAndType 61 62), (0, u "HI_BYTE_SHIFT"), (0, u "I"), (0, .fieldref 12 64), (0, .nameAndType 65 62), (0, u "LO_BYTE_SHIFT"), (1, .methodref 12 68), (0, .nameAndType 69 70), (0, u "checkIndex"), (0, u "(I[B)V"), (0, .methodref 12 72), (0, .nameAndType 73 74), (0, u "getChar"), (0, u "([BI)C"), (24, u "(II[B)V"), (7, .methodref 12 108), (0, .nameAndType 109 110), (0, u "newBytesFor"), (0, u "(I)[B"), (0, .methodref 12 112), (0, .nameAndType 113 114), (0, u "putChar"), (0, u "([BII)V"), (0, .methodref 12 116), (0, .nameAndType 117 118), (0, u "compress"), (0, u "([CI[BII)I"), (0, .methodref 12 120), (0, .nameAndType 121 122), (0, u "toBytes"), (0, u "([CII)[B"), (17, u "inflate"), (0, u "([BI[BII)V"), (31, .methodref 12 174), (0, .nameAndType 175 99), (0, u "checkBoundsOffCount"), (85, u "coderFromArrayLen"), (0, u "([BI)B"), (18, u "(III)I"), (87, .class_ 371), (1, u "java/lang/StringUTF16$LinesSpliterator"), (20, u "charAt"), (21, .methodref 3 415), (0, .nameAndType 69 416), (0, u "(II)V"), (2, .methodref 3 420), (0, .nameAndType 175 281), (9, u "MAX_LENGTH"), (155, u "putCharSB"), (40, .class_ 628), (0, u "java/lang/StringUTF16$CodePointsSpliterator"), (0, .class_ 630), (0, u "java/lang/StringUTF16$CharsSpliterator")] 4

def k8m0 : Method := { name := "<init>", desc := "()V", sig := { parameters := [], returnType := none }, accessFlags := 0, code := none }
def k8c1 : Code := { maxStack := 1, maxLocals := 1, code := jdk_52_method_2_code, exceptionTable := #[], attributes := #[] }
def k8m1 : Method := { name := "newBytesFor", desc := "(I)[B", sig := { parameters := [.int], returnType := some (.array .byte) }, accessFlags := 9, code := some k8c1 }
def k8c2 : Code := { maxStack := 4, maxLocals := 1, code := jdk_52_method_3_code, exceptionTable := #[], attributes := #[] }
def k8m2 : Method := { name := "newBytesLength", desc := "(I)I", sig := { parameters := [.int], returnType := some .int }, accessFlags := 9, code := some k8c2 }
def k8c3 : Code := { maxStack := 4, maxLocals := 3, code := jdk_52_method_4_code, exceptionTable := #[], attributes := #[] }
def k8m3 : Method := { name := "putChar", desc := "([BII)V", sig := { parameters := [(.array .byte), .int, .int], returnType := none }, accessFlags := 8, code := some k8c3 }
def k8c4 : Code := { maxStack := 3, maxLocals := 2, code := jdk_52_method_5_code, exceptionTable := #[], attributes := #[] }
def k8m4 : Method := { name := "getChar", desc := "([BI)C", sig := { parameters := [(.array .byte), .int], returnType := some .char }, accessFlags := 8, code := some k8c4 }
def k8c5 : Code := { maxStack := 2, maxLocals := 1, code := jdk_52_method_6_code, exceptionTable := #[], attributes := #[] }
def k8m5 : Method := { name := "length", desc := "([B)I", sig := { parameters := [(.array .byte)], returnType := some .int }, accessFlags := 9, code := some k8c5 }
def k8c6 : Code := { maxStack := 4, maxLocals := 5, code := jdk_52_method_14_code, exceptionTable := #[], attributes := #[] }
def k8m6 : Method := { name := "toBytes", desc := "([CII)[B", sig := { parameters := [(.array .char), .int, .int], returnType := some (.array .byte) }, accessFlags := 9, code := some k8c6 }
def k8c7 : Code := { maxStack := 2, maxLocals := 2, code := jdk_52_method_15_code, exceptionTable := #[], attributes := #[] }
def k8m7 : Method := { name := "coderFromArrayLen", desc := "([BI)B", sig := { parameters := [(.array .byte), .int], returnType := some .byte }, accessFlags := 8, code := some k8c7 }
def k8c8 : Code := { maxStack := 5, maxLocals := 6, code := jdk_52_method_16_code, exceptionTable := #[], attributes := #[] }
def k8m8 : Method := { name := "compress", desc := "([CII)[B", sig := { parameters := [(.array .char), .int, .int], returnType := some (.array .byte) }, accessFlags := 9, code := some k8c8 }
def k8c9 : Code := { maxStack := 3, maxLocals := 7, code := jdk_52_method_21_code, exceptionTable := #[], attributes := #[] }
def k8m9 : Method := { name := "compress", desc := "([CI[BII)I", sig := { parameters := [(.array .char), .int, (.array .byte), .int, .int], returnType := some .int }, accessFlags := 9, code := some k8c9 }
def k8c10 : Code := { maxStack := 3, maxLocals := 3, code := jdk_52_method_71_code, exceptionTable := #[], attributes := #[] }
def k8m10 : Method := { name := "putCharSB", desc := "([BII)V", sig := { parameters := [(.array .byte), .int, .int], returnType := none }, accessFlags := 9, code := some k8c10 }
def k8c11 : Code := { maxStack := 2, maxLocals := 2, code := jdk_52_method_83_code, exceptionTable := #[], attributes := #[] }
def k8m11 : Method := { name := "charAt", desc := "([BI)C", sig := { parameters := [(.array .byte), .int], returnType := some .char }, accessFlags := 9, code := some k8c11 }
def k8c12 : Code := { maxStack := 4, maxLocals := 6, code := jdk_52_method_86_code, exceptionTable := #[], attributes := #[] }
def k8m12 : Method := { name := "inflate", desc := "([BI[BII)V", sig := { parameters := [(.array .byte), .int, (.array .byte), .int, .int], returnType := none }, accessFlags := 9, code := some k8c12 }
def k8c13 : Code := { maxStack := 2, maxLocals := 2, code := jdk_52_method_91_code, exceptionTable := #[], attributes := #[] }
def k8m13 : Method := { name := "checkIndex", desc := "(I[B)V", sig := { parameters := [.int, (.array .byte)], returnType := none }, accessFlags := 9, code := some k8c13 }
def k8c14 : Code := { maxStack := 3, maxLocals := 3, code := jdk_52_method_94_code, exceptionTable := #[], attributes := #[] }
def k8m14 : Method := { name := "checkBoundsOffCount", desc := "(II[B)V", sig := { parameters := [.int, .int, (.array .byte)], returnType := none }, accessFlags := 9, code := some k8c14 }
/-- java/lang/StringUTF16 -/
def k8 : Class := { plain "java/lang/StringUTF16" (some 0) with
  accessFlags := 48
  interfaces := #[]
  cf := some (fileOf pool8 12 #[.nestMembers #[627, 629, 369]] #[{ accessFlags := 0, nameIndex := 9, descriptorIndex := 10, attributes := #[] }, { accessFlags := 9, nameIndex := 109, descriptorIndex := 110, attributes := #[] }, { accessFlags := 9, nameIndex := 15, descriptorIndex := 16, attributes := #[] }, { accessFlags := 8, nameIndex := 113, descriptorIndex := 114, attributes := #[] }, { accessFlags := 8, nameIndex := 73, descriptorIndex := 74, attributes := #[] }, { accessFlags := 9, nameIndex := 50, descriptorIndex := 51, attributes := #[] }, { accessFlags := 9, nameIndex := 121, descriptorIndex := 122, attributes := #[] }, { accessFlags := 8, nameIndex := 261, descriptorIndex := 262, attributes := #[] }, { accessFlags := 9, nameIndex := 117, descriptorIndex := 122, attributes := #[] }, { accessFlags := 9, nameIndex := 117, descriptorIndex := 118, attributes := #[] }, { accessFlags := 9, nameIndex := 586, descriptorIndex := 114, attributes := #[] }, { accessFlags := 9, nameIndex := 392, descriptorIndex := 74, attributes := #[] }, { accessFlags := 9, nameIndex := 140, descriptorIndex := 141, attributes := #[] }, { accessFlags := 9, nameIndex := 69, descriptorIndex := 70, attributes := #[] }, { accessFlags := 9, nameIndex := 175, descriptorIndex := 99, attributes := #[] }] 48 6 #[] #[{ accessFlags := 26, nameIndex := 61, descriptorIndex := 62, attributes := #[] }, { accessFlags := 26, nameIndex := 65, descriptorIndex := 62, attributes := #[] }, { accessFlags := 24, nameIndex := 430, descriptorIndex := 62, attributes := #[] }, { accessFlags := 4120, nameIndex := 46, descriptorIndex := 47, attributes := #[] }])
  fields := #[{ name := "HI_BYTE_SHIFT", type := .int, accessFlags := 26, slot := 0, constantValue := 0 }, { name := "LO_BYTE_SHIFT", type := .int, accessFlags := 26, slot := 1, constantValue := 0 }, { name := "MAX_LENGTH", type := .int, accessFlags := 24, slot := 2, constantValue := 0 }, { name := "$assertionsDisabled", type := .boolean, accessFlags := 4120, slot := 3, constantValue := 0 }]
  methods := #[k8m0, k8m1, k8m2, k8m3, k8m4, k8m5, k8m6, k8m7, k8m8, k8m9, k8m10, k8m11, k8m12, k8m13, k8m14]
  instanceTypes := #[]
  staticTypes := #[.int, .int, .int, .boolean]
  resolved := Array.replicate 635 none
  statics := some 1 }

def pool9 : Array CpInfo := pool [(2, .class_ 4), (1, u "java/lang/Object"), (0, u "<init>"), (0, u "()V"), (0, .class_ 8), (0, u "java/lang/StringBuilder"), (0, .methodref 10 11), (0, .class_ 12), (0, .nameAndType 13 14), (0, u "java/lang/String"), (0, u "length"), (0, u "()I"), (0, .methodref 7 16), (0, .nameAndType 5 17), (0, u "(I)V"), (0, .methodref 7 19), (0, .nameAndType 20 21), (0, u "append"), (0, u "(C)Ljava/lang/StringBuilder;"), (0, .methodref 10 23), (0, .nameAndType 24 25), (0, u "charAt"), (0, u "(I)C"), (0, .string 27), (0, u "\\u00"), (0, .methodref 7 29), (0, .nameAndType 20 30), (0, u "(Ljava/lang/String;)Ljava/lang/StringBuilder;"), (0, .fieldref 32 33), (0, .class_ 34), (0, .nameAndType 35 36), (0, u "com/example/catchment/catchment/Json"), (0, u "HEX"), (0, u "[C"), (0, .methodref 7 38), (0, .nameAndType 39 40), (0, u "toString"), (0, u "()Ljava/lang/String;"), (8, u "string"), (0, u "(Ljava/lang/String;)Ljava/lang/String;")] 4

def k9m0 : Method := { name := "<init>", desc := "()V", sig := { parameters := [], returnType := none }, accessFlags := 2, code := none }
def k9c1 : Code := { maxStack := 4, maxLocals := 4, code := prog_21_method_2_code, exceptionTable := #[], attributes := #[] }
def k9m1 : Method := { name := "string", desc := "(Ljava/lang/String;)Ljava/lang/String;", sig := { parameters := [(.object "java/lang/String")], returnType := some (.object "java/lang/String") }, accessFlags := 8, code := some k9c1 }
/-- com/example/catchment/catchment/Json -/
def k9 : Class := { plain "com/example/catchment/catchment/Json" (some 0) with
  accessFlags := 48
  interfaces := #[]
  cf := some (fileOf pool9 32 #[] #[{ accessFlags := 2, nameIndex := 5, descriptorIndex := 6, attributes := #[] }, { accessFlags := 8, nameIndex := 49, descriptorIndex := 50, attributes := #[] }] 48 2 #[] #[{ accessFlags := 26, nameIndex := 35, descriptorIndex := 36, attributes := #[] }])
  fields := #[{ name := "HEX", type := (.array .char), accessFlags := 26, slot := 0, constantValue := 0 }]
  methods := #[k9m0, k9m1]
  instanceTypes := #[]
  staticTypes := #[(.array .char)]
  resolved := Array.replicate 55 none
  statics := some 2 }

def pool10 : Array CpInfo := pool [(1, .class_ 2), (0, u "java/lang/Appendable"), (0, .class_ 4), (0, u "java/lang/Object")] 9

/-- java/lang/Appendable -/
def k10 : Class := { plain "java/lang/Appendable" (some 0) with
  accessFlags := 1537
  interfaces := #[]
  cf := some (fileOf pool10 1 #[] #[] 1537 3 #[] #[])
  fields := #[]
  methods := #[]
  instanceTypes := #[]
  staticTypes := #[]
  resolved := Array.replicate 14 none
  statics := none }

def pool11 : Array CpInfo := pool [(1, .class_ 2), (0, u "java/lang/String"), (0, .methodref 4 5), (0, .class_ 6), (0, .nameAndType 7 8), (0, u "java/lang/Object"), (0, u "<init>"), (0, u "()V"), (1, .class_ 12), (1, u "java/lang/AbstractStringBuilder"), (0, u "EMPTYVALUE"), (0, u "[B"), (0, .fieldref 10 16), (0, .nameAndType 17 14), (0, u "value"), (0, .fieldref 1 19), (0, .nameAndType 20 21), (0, u "COMPACT_STRINGS"), (0, u "Z"), (0, .fieldref 10 23), (0, .nameAndType 24 25), (0, u "coder"), (0, u "B"), (0, .methodref 27 28), (0, .class_ 29), (0, .nameAndType 30 31), (0, u "java/lang/StringUTF16"), (0, u "newBytesFor"), (0, u "(I)[B"), (0, .methodref 1 33), (0, .nameAndType 34 35), (0, u "length"), (0, u "()I"), (3, .integer 2147483647), (0, .methodref 1 41), (0, .nameAndType 24 42), (0, u "()B"), (2, u "append"), (0, u "(Ljava/lang/String;)Ljava/lang/AbstractStringBuilder;"), (1, .class_ 49), (0, u "java/lang/CharSequence"), (19, u "(Ljava/lang/String;)V"), (5, u "maybeLatin1"), (3, .fieldref 10 80), (0, .nameAndType 81 82), (0, u "count"), (0, u "I"), (0, .methodref 10 84), (0, .nameAndType 85 86), (0, u "isLatin1"), (0, u "()Z"), (1, .class_ 90), (1, u "java/lang/StringLatin1"), (9, .methodref 10 101), (0, .nameAndType 102 103), (0, u "ensureCapacityInternal"), (0, u "(I)V"), (0, .methodref 10 105), (0, .nameAndType 106 107), (0, u "newCapacity"), (0, u "(I)I"), (0, .methodref 109 110), (0, .class_ 111), (0, .nameAndType 112 113), (0, u "java/util/Arrays"), (0, u "copyOf"), (0, u "([BI)[B"), (0, .methodref 115 116), (0, .class_ 117), (0, .nameAndType 118 119), (0, u "jdk/internal/util/ArraysSupport"), (0, u "newLength"), (0, u "(III)I"), (5, .methodref 88 126), (0, .nameAndType 127 128), (0, u "inflate"), (0, u "([BI[BII)V"), (7, u "([BII)V"), (54, .methodref 88 192), (0, .nameAndType 193 194), (0, u "canEncode"), (0, u "(C)Z"), (0, .methodref 10 196), (0, .nameAndType 127 8), (0, .methodref 27 198), (0, .nameAndType 199 136), (0, u "putCharSB"), (8, .methodref 10 209), (0, .nameAndType 210 211), (0, u "putStringAt"), (0, u "(ILjava/lang/String;)V"), (5, u "inflateIfNeededFor"), (2, .nameAndType 221 222), (0, u "getBytes"), (0, u "([BIB)V"), (69, u "(C)Ljava/lang/AbstractStringBuilder;"), (104, .methodref 10 398), (0, .nameAndType 217 69), (0, .methodref 1 220), (3, u "()[B"), (40, .class_ 445), (0, u "java/lang/Appendable"), (106, u "getValue")] 56

def k11m0 : Method := { name := "<init>", desc := "()V", sig := { parameters := [], returnType := none }, accessFlags := 0, code := none }
def k11c1 : Code := { maxStack := 2, maxLocals := 2, code := jdk_68_method_2_code, exceptionTable := #[], attributes := #[] }
def k11m1 : Method := { name := "<init>", desc := "(I)V", sig := { parameters := [.int], returnType := none }, accessFlags := 0, code := some k11c1 }
def k11c2 : Code := { maxStack := 1, maxLocals := 1, code := jdk_68_method_6_code, exceptionTable := #[], attributes := #[] }
def k11m2 : Method := { name := "length", desc := "()I", sig := { parameters := [], returnType := some .int }, accessFlags := 1, code := some k11c2 }
def k11c3 : Code := { maxStack := 4, maxLocals := 3, code := jdk_68_method_9_code, exceptionTable := #[], attributes := #[] }
def k11m3 : Method := { name := "ensureCapacityInternal", desc := "(I)V", sig := { parameters := [.int], returnType := none }, accessFlags := 2, code := some k11c3 }
def k11c4 : Code := { maxStack := 5, maxLocals := 6, code := jdk_68_method_10_code, exceptionTable := #[], attributes := #[] }
def k11m4 : Method := { name := "newCapacity", desc := "(I)I", sig := { parameters := [.int], returnType := some .int }, accessFlags := 2, code := some k11c4 }
def k11c5 : Code := { maxStack := 5, maxLocals := 2, code := jdk_68_method_11_code, exceptionTable := #[], attributes := #[] }
def k11m5 : Method := { name := "inflate", desc := "()V", sig := { parameters := [], returnType := none }, accessFlags := 2, code := some k11c5 }
def k11c6 : Code := { maxStack := 3, maxLocals := 3, code := jdk_68_method_22_code, exceptionTable := #[], attributes := #[] }
def k11m6 : Method := { name := "append", desc := "(Ljava/lang/String;)Ljava/lang/AbstractStringBuilder;", sig := { parameters := [(.object "java/lang/String")], returnType := some (.object "java/lang/AbstractStringBuilder") }, accessFlags := 1, code := some k11c6 }
def k11c7 : Code := { maxStack := 5, maxLocals := 2, code := jdk_68_method_31_code, exceptionTable := #[], attributes := #[] }
def k11m7 : Method := { name := "append", desc := "(C)Ljava/lang/AbstractStringBuilder;", sig := { parameters := [.char], returnType := some (.object "java/lang/AbstractStringBuilder") }, accessFlags := 1, code := some k11c7 }
def k11c8 : Code := { maxStack := 1, maxLocals := 1, code := jdk_68_method_64_code, exceptionTable := #[], attributes := #[] }
def k11m8 : Method := { name := "getValue", desc := "()[B", sig := { parameters := [], returnType := some (.array .byte) }, accessFlags := 16, code := some k11c8 }
def k11c9 : Code := { maxStack := 1, maxLocals := 1, code := jdk_68_method_68_code, exceptionTable := #[], attributes := #[] }
def k11m9 : Method := { name := "isLatin1", desc := "()Z", sig := { parameters := [], returnType := some .boolean }, accessFlags := 16, code := some k11c9 }
def k11c10 : Code := { maxStack := 2, maxLocals := 2, code := jdk_68_method_71_code, exceptionTable := #[], attributes := #[] }
def k11m10 : Method := { name := "inflateIfNeededFor", desc := "(Ljava/lang/String;)V", sig := { parameters := [(.object "java/lang/String")], returnType := none }, accessFlags := 2, code := some k11c10 }
def k11c11 : Code := { maxStack := 4, maxLocals := 3, code := jdk_68_method_73_code, exceptionTable := #[], attributes := #[] }
def k11m11 : Method := { name := "putStringAt", desc := "(ILjava/lang/String;)V", sig := { parameters := [.int, (.object "java/lang/String")], returnType := none }, accessFlags := 2, code := some k11c11 }
/-- java/lang/AbstractStringBuilder -/
def k11 : Class := { plain "java/lang/AbstractStringBuilder" (some 0) with
  accessFlags := 1056
  interfaces := #[10, 4]
  cf := some (fileOf pool11 10 #[] #[{ accessFlags := 0, nameIndex := 7, descriptorIndex := 8, attributes := #[] }, { accessFlags := 0, nameIndex := 7, descriptorIndex := 103, attributes := #[] }, { accessFlags := 1, nameIndex := 34, descriptorIndex := 35, attributes := #[] }, { accessFlags := 2, nameIndex := 102, descriptorIndex := 103, attributes := #[] }, { accessFlags := 2, nameIndex := 106, descriptorIndex := 107, attributes := #[] }, { accessFlags := 2, nameIndex := 127, descriptorIndex := 8, attributes := #[] }, { accessFlags := 1, nameIndex := 45, descriptorIndex := 46, attributes := #[] }, { accessFlags := 1, nameIndex := 45, descriptorIndex := 292, attributes := #[] }, { accessFlags := 16, nameIndex := 552, descriptorIndex := 403, attributes := #[] }, { accessFlags := 16, nameIndex := 85, descriptorIndex := 86, attributes := #[] }, { accessFlags := 2, nameIndex := 217, descriptorIndex := 69, attributes := #[] }, { accessFlags := 2, nameIndex := 210, descriptorIndex := 211, attributes := #[] }] 1056 4 #[444, 48] #[{ accessFlags := 0, nameIndex := 17, descriptorIndex := 14, attributes := #[] }, { accessFlags := 0, nameIndex := 24, descriptorIndex := 25, attributes := #[] }, { accessFlags := 0, nameIndex := 75, descriptorIndex := 21, attributes := #[] }, { accessFlags := 0, nameIndex := 81, descriptorIndex := 82, attributes := #[] }, { accessFlags := 26, nameIndex := 13, descriptorIndex := 14, attributes := #[] }])
  fields := #[{ name := "value", type := (.array .byte), accessFlags := 0, slot := 0, constantValue := 0 }, { name := "coder", type := .byte, accessFlags := 0, slot := 1, constantValue := 0 }, { name := "maybeLatin1", type := .boolean, accessFlags := 0, slot := 2, constantValue := 0 }, { name := "count", type := .int, accessFlags := 0, slot := 3, constantValue := 0 }, { name := "EMPTYVALUE", type := (.array .byte), accessFlags := 26, slot := 0, constantValue := 0 }]
  methods := #[k11m0, k11m1, k11m2, k11m3, k11m4, k11m5, k11m6, k11m7, k11m8, k11m9, k11m10, k11m11]
  instanceTypes := #[(.array .byte), .byte, .boolean, .int]
  staticTypes := #[(.array .byte)]
  resolved := Array.replicate 609 none
  statics := none }

def pool12 : Array CpInfo := pool [(1, .methodref 2 3), (0, .class_ 4), (0, .nameAndType 5 6), (0, u "java/lang/AbstractStringBuilder"), (0, u "<init>"), (0, u "(I)V"), (11, .class_ 20), (1, u "java/lang/String"), (3, .class_ 26), (1, u "java/lang/StringBuilder"), (0, u "append"), (0, u "(Ljava/lang/String;)Ljava/lang/StringBuilder;"), (0, .methodref 2 30), (0, .nameAndType 27 31), (0, u "(Ljava/lang/String;)Ljava/lang/AbstractStringBuilder;"), (18, .methodref 2 51), (0, .nameAndType 27 52), (0, u "(C)Ljava/lang/AbstractStringBuilder;"), (84, .methodref 18 138), (0, .nameAndType 5 139), (0, u "(Ljava/lang/StringBuilder;)V"), (5, u "()V"), (10, u "()I"), (129, u "(C)Ljava/lang/StringBuilder;"), (56, .methodref 2 344), (0, .nameAndType 345 156), (0, u "length"), (3, .class_ 350), (0, u "java/lang/Appendable"), (0, .class_ 352), (0, u "java/io/Serializable"), (0, .class_ 354), (0, u "java/lang/Comparable"), (0, .class_ 356), (0, u "java/lang/CharSequence"), (0, u "serialVersionUID"), (0, u "J"), (40, u "toString"), (0, u "()Ljava/lang/String;")] 21

def k12m0 : Method := { name := "<init>", desc := "()V", sig := { parameters := [], returnType := none }, accessFlags := 1, code := none }
def k12c1 : Code := { maxStack := 2, maxLocals := 2, code := jdk_67_method_2_code, exceptionTable := #[], attributes := #[] }
def k12m1 : Method := { name := "<init>", desc := "(I)V", sig := { parameters := [.int], returnType := none }, accessFlags := 1, code := some k12c1 }
def k12c2 : Code := { maxStack := 2, maxLocals := 2, code := jdk_67_method_7_code, exceptionTable := #[], attributes := #[] }
def k12m2 : Method := { name := "append", desc := "(Ljava/lang/String;)Ljava/lang/StringBuilder;", sig := { parameters := [(.object "java/lang/String")], returnType := some (.object "java/lang/StringBuilder") }, accessFlags := 1, code := some k12c2 }
def k12c3 : Code := { maxStack := 2, maxLocals := 2, code := jdk_67_method_14_code, exceptionTable := #[], attributes := #[] }
def k12m3 : Method := { name := "append", desc := "(C)Ljava/lang/StringBuilder;", sig := { parameters := [.char], returnType := some (.object "java/lang/StringBuilder") }, accessFlags := 1, code := some k12c3 }
def k12c4 : Code := { maxStack := 3, maxLocals := 1, code := jdk_67_method_42_code, exceptionTable := #[], attributes := #[] }
def k12m4 : Method := { name := "toString", desc := "()Ljava/lang/String;", sig := { parameters := [], returnType := some (.object "java/lang/String") }, accessFlags := 1, code := some k12c4 }
def k12c5 : Code := { maxStack := 1, maxLocals := 1, code := jdk_67_method_93_code, exceptionTable := #[], attributes := #[] }
def k12m5 : Method := { name := "length", desc := "()I", sig := { parameters := [], returnType := some .int }, accessFlags := 4161, code := some k12c5 }
/-- java/lang/StringBuilder -/
def k12 : Class := { plain "java/lang/StringBuilder" (some 11) with
  accessFlags := 49
  interfaces := #[10, 2, 3, 4]
  cf := some (fileOf pool12 24 #[] #[{ accessFlags := 1, nameIndex := 5, descriptorIndex := 145, attributes := #[] }, { accessFlags := 1, nameIndex := 5, descriptorIndex := 6, attributes := #[] }, { accessFlags := 1, nameIndex := 27, descriptorIndex := 28, attributes := #[] }, { accessFlags := 1, nameIndex := 27, descriptorIndex := 286, attributes := #[] }, { accessFlags := 1, nameIndex := 399, descriptorIndex := 400, attributes := #[] }, { accessFlags := 4161, nameIndex := 345, descriptorIndex := 156, attributes := #[] }] 49 2 #[349, 351, 353, 355] #[{ accessFlags := 24, nameIndex := 357, descriptorIndex := 358, attributes := #[] }])
  fields := #[{ name := "serialVersionUID", type := .long, accessFlags := 24, slot := 0, constantValue := 0 }]
  methods := #[k12m0, k12m1, k12m2, k12m3, k12m4, k12m5]
  instanceTypes := #[(.array .byte), .byte, .boolean, .int]
  staticTypes := #[.long]
  resolved := Array.replicate 422 none
  statics := none }

def pool13 : Array CpInfo := pool [(1, .class_ 2), (0, u "java/lang/String"), (1, .class_ 6), (1, u "java/lang/Object"), (0, u "<init>"), (0, u "()V"), (0, .methodref 1 10), (0, .nameAndType 11 12), (0, u "checkIndex"), (0, u "(II)V"), (1, .class_ 16), (1, u "java/lang/StringLatin1"), (0, u "inflate"), (2, .class_ 22), (1, u "java/lang/StringUTF16"), (3, .nameAndType 17 27), (0, u "([BI[BII)V"), (25, u "([BI)C"), (36, u "canEncode"), (14, u "(C)Z"), (15, u "$assertionsDisabled"), (0, u "Z"), (98, .class_ 223), (1, u "java/lang/StringLatin1$LinesSpliterator"), (16, .methodref 20 26), (11, u "charAt"), (137, .class_ 391), (0, u "java/lang/StringLatin1$CharsSpliterator")] 3

def k13m0 : Method := { name := "<init>", desc := "()V", sig := { parameters := [], returnType := none }, accessFlags := 0, code := none }
def k13c1 : Code := { maxStack := 2, maxLocals := 2, code := jdk_43_method_2_code, exceptionTable := #[], attributes := #[] }
def k13m1 : Method := { name := "charAt", desc := "([BI)C", sig := { parameters := [(.array .byte), .int], returnType := some .char }, accessFlags := 9, code := some k13c1 }
def k13c2 : Code := { maxStack := 2, maxLocals := 1, code := jdk_43_method_3_code, exceptionTable := #[], attributes := #[] }
def k13m2 : Method := { name := "canEncode", desc := "(C)Z", sig := { parameters := [.char], returnType := some .boolean }, accessFlags := 9, code := some k13c2 }
def k13c3 : Code := { maxStack := 5, maxLocals := 5, code := jdk_43_method_50_code, exceptionTable := #[], attributes := #[] }
def k13m3 : Method := { name := "inflate", desc := "([BI[BII)V", sig := { parameters := [(.array .byte), .int, (.array .byte), .int, .int], returnType := none }, accessFlags := 9, code := some k13c3 }
/-- java/lang/StringLatin1 -/
def k13 : Class := { plain "java/lang/StringLatin1" (some 0) with
  accessFlags := 48
  interfaces := #[]
  cf := some (fileOf pool13 14 #[.nestMembers #[390, 221]] #[{ accessFlags := 0, nameIndex := 7, descriptorIndex := 8, attributes := #[] }, { accessFlags := 9, nameIndex := 252, descriptorIndex := 53, attributes := #[] }, { accessFlags := 9, nameIndex := 90, descriptorIndex := 105, attributes := #[] }, { accessFlags := 9, nameIndex := 17, descriptorIndex := 27, attributes := #[] }] 48 4 #[] #[{ accessFlags := 4120, nameIndex := 121, descriptorIndex := 122, attributes := #[] }])
  fields := #[{ name := "$assertionsDisabled", type := .boolean, accessFlags := 4120, slot := 0, constantValue := 0 }]
  methods := #[k13m0, k13m1, k13m2, k13m3]
  instanceTypes := #[]
  staticTypes := #[.boolean]
  resolved := Array.replicate 395 none
  statics := none }

def pool14 : Array CpInfo := pool [(2, .class_ 4), (1, u "java/lang/Object"), (0, u "<init>"), (0, u "()V"), (17, .class_ 26), (1, u "jdk/internal/util/Preconditions"), (6, u "checkIndex"), (15, u "checkFromIndexSize"), (5, .class_ 56), (0, u "jdk/internal/util/Preconditions$4"), (57, .class_ 115), (0, u "jdk/internal/util/Preconditions$1"), (7, u "SIOOBE_FORMATTER"), (0, u "Ljava/util/function/BiFunction;"), (0, .class_ 126), (0, u "jdk/internal/util/Preconditions$2"), (3, u "AIOOBE_FORMATTER"), (0, .class_ 132), (0, u "jdk/internal/util/Preconditions$3"), (3, u "IOOBE_FORMATTER"), (41, u "(IILjava/util/function/BiFunction;)I"), (4, u "(IIILjava/util/function/BiFunction;)I")] 10

def k14m0 : Method := { name := "<init>", desc := "()V", sig := { parameters := [], returnType := none }, accessFlags := 1, code := none }
def k14c1 : Code := { maxStack := 3, maxLocals := 3, code := jdk_41_method_11_code, exceptionTable := #[], attributes := #[] }
def k14m1 : Method := { name := "checkIndex", desc := "(IILjava/util/function/BiFunction;)I", sig := { parameters := [.int, .int, (.object "java/util/function/BiFunction")], returnType := some .int }, accessFlags := 9, code := some k14c1 }
def k14c2 : Code := { maxStack := 4, maxLocals := 4, code := jdk_41_method_13_code, exceptionTable := #[], attributes := #[] }
def k14m2 : Method := { name := "checkFromIndexSize", desc := "(IIILjava/util/function/BiFunction;)I", sig := { parameters := [.int, .int, .int, (.object "java/util/function/BiFunction")], returnType := some .int }, accessFlags := 9, code := some k14c2 }
/-- jdk/internal/util/Preconditions -/
def k14 : Class := { plain "jdk/internal/util/Preconditions" (some 0) with
  accessFlags := 33
  interfaces := #[]
  cf := some (fileOf pool14 24 #[.nestMembers #[55, 131, 125, 114]] #[{ accessFlags := 1, nameIndex := 5, descriptorIndex := 6, attributes := #[] }, { accessFlags := 9, nameIndex := 33, descriptorIndex := 178, attributes := #[] }, { accessFlags := 9, nameIndex := 49, descriptorIndex := 183, attributes := #[] }] 33 2 #[] #[{ accessFlags := 25, nameIndex := 123, descriptorIndex := 124, attributes := #[] }, { accessFlags := 25, nameIndex := 130, descriptorIndex := 124, attributes := #[] }, { accessFlags := 25, nameIndex := 136, descriptorIndex := 124, attributes := #[] }])
  fields := #[{ name := "SIOOBE_FORMATTER", type := (.object "java/util/function/BiFunction"), accessFlags := 25, slot := 0, constantValue := 0 }, { name := "AIOOBE_FORMATTER", type := (.object "java/util/function/BiFunction"), accessFlags := 25, slot := 1, constantValue := 0 }, { name := "IOOBE_FORMATTER", type := (.object "java/util/function/BiFunction"), accessFlags := 25, slot := 2, constantValue := 0 }]
  methods := #[k14m0, k14m1, k14m2]
  instanceTypes := #[]
  staticTypes := #[(.object "java/util/function/BiFunction"), (.object "java/util/function/BiFunction"), (.object "java/util/function/BiFunction")]
  resolved := Array.replicate 194 none
  statics := some 3 }

def pool15 : Array CpInfo := pool [(9, u "<init>"), (6, .class_ 18), (1, u "java/lang/Object"), (0, u "()V"), (1, .class_ 23), (1, u "jdk/internal/util/ArraysSupport"), (0, u "LOG2_ARRAY_LONG_INDEX_SCALE"), (0, u "I"), (2, u "U"), (0, u "Ljdk/internal/misc/Unsafe;"), (8, u "BIG_ENDIAN"), (0, u "Z"), (8, u "LOG2_BYTE_BIT_SIZE"), (4, u "LOG2_ARRAY_INT_INDEX_SCALE"), (54, u "JLA"), (0, u "Ljdk/internal/access/JavaLangAccess;"), (11, u "LOG2_ARRAY_BOOLEAN_INDEX_SCALE"), (9, u "LOG2_ARRAY_BYTE_INDEX_SCALE"), (5, u "LOG2_ARRAY_CHAR_INDEX_SCALE"), (5, u "LOG2_ARRAY_SHORT_INDEX_SCALE"), (18, u "LOG2_ARRAY_FLOAT_INDEX_SCALE"), (24, u "LOG2_ARRAY_DOUBLE_INDEX_SCALE"), (6, .methodref 195 196), (0, .class_ 197), (0, .nameAndType 198 199), (0, u "java/lang/Math"), (0, u "max"), (0, u "(II)I"), (0, .integer 2147483639), (76, u "T_BOOLEAN"), (2, u "T_CHAR"), (1, u "T_FLOAT"), (1, u "T_DOUBLE"), (1, u "T_BYTE"), (1, u "T_SHORT"), (1, u "T_INT"), (1, u "T_LONG"), (1, u "SOFT_MAX_ARRAY_LENGTH"), (56, u "newLength"), (0, u "(III)I")] 25

def k15m0 : Method := { name := "<init>", desc := "()V", sig := { parameters := [], returnType := none }, accessFlags := 2, code := none }
def k15c1 : Code := { maxStack := 3, maxLocals := 4, code := jdk_48_method_27_code, exceptionTable := #[], attributes := #[] }
def k15m1 : Method := { name := "newLength", desc := "(III)I", sig := { parameters := [.int, .int, .int], returnType := some .int }, accessFlags := 9, code := some k15c1 }
/-- jdk/internal/util/ArraysSupport -/
def k15 : Class := { plain "jdk/internal/util/ArraysSupport" (some 0) with
  accessFlags := 33
  interfaces := #[]
  cf := some (fileOf pool15 21 #[] #[{ accessFlags := 2, nameIndex := 9, descriptorIndex := 19, attributes := #[] }, { accessFlags := 9, nameIndex := 351, descriptorIndex := 352, attributes := #[] }] 33 16 #[] #[{ accessFlags := 24, nameIndex := 28, descriptorIndex := 29, attributes := #[] }, { accessFlags := 26, nameIndex := 38, descriptorIndex := 39, attributes := #[] }, { accessFlags := 25, nameIndex := 121, descriptorIndex := 25, attributes := #[] }, { accessFlags := 25, nameIndex := 131, descriptorIndex := 25, attributes := #[] }, { accessFlags := 25, nameIndex := 137, descriptorIndex := 25, attributes := #[] }, { accessFlags := 25, nameIndex := 143, descriptorIndex := 25, attributes := #[] }, { accessFlags := 25, nameIndex := 53, descriptorIndex := 25, attributes := #[] }, { accessFlags := 25, nameIndex := 24, descriptorIndex := 25, attributes := #[] }, { accessFlags := 25, nameIndex := 162, descriptorIndex := 25, attributes := #[] }, { accessFlags := 25, nameIndex := 187, descriptorIndex := 25, attributes := #[] }, { accessFlags := 26, nameIndex := 48, descriptorIndex := 25, attributes := #[] }, { accessFlags := 25, nameIndex := 277, descriptorIndex := 25, attributes := #[] }, { accessFlags := 25, nameIndex := 280, descriptorIndex := 25, attributes := #[] }, { accessFlags := 25, nameIndex := 282, descriptorIndex := 25, attributes := #[] }, { accessFlags := 25, nameIndex := 284, descriptorIndex := 25, attributes := #[] }, { accessFlags := 25, nameIndex := 286, descriptorIndex := 25, attributes := #[] }, { accessFlags := 25, nameIndex := 288, descriptorIndex := 25, attributes := #[] }, { accessFlags := 25, nameIndex := 290, descriptorIndex := 25, attributes := #[] }, { accessFlags := 25, nameIndex := 292, descriptorIndex := 25, attributes := #[] }, { accessFlags := 26, nameIndex := 108, descriptorIndex := 109, attributes := #[] }, { accessFlags := 25, nameIndex := 294, descriptorIndex := 25, attributes := #[] }])
  fields := #[{ name := "U", type := (.object "jdk/internal/misc/Unsafe"), accessFlags := 24, slot := 0, constantValue := 0 }, { name := "BIG_ENDIAN", type := .boolean, accessFlags := 26, slot := 1, constantValue := 0 }, { name := "LOG2_ARRAY_BOOLEAN_INDEX_SCALE", type := .int, accessFlags := 25, slot := 2, constantValue := 0 }, { name := "LOG2_ARRAY_BYTE_INDEX_SCALE", type := .int, accessFlags := 25, slot := 3, constantValue := 0 }, { name := "LOG2_ARRAY_CHAR_INDEX_SCALE", type := .int, accessFlags := 25, slot := 4, constantValue := 0 }, { name := "LOG2_ARRAY_SHORT_INDEX_SCALE", type := .int, accessFlags := 25, slot := 5, constantValue := 0 }, { name := "LOG2_ARRAY_INT_INDEX_SCALE", type := .int, accessFlags := 25, slot := 6, constantValue := 0 }, { name := "LOG2_ARRAY_LONG_INDEX_SCALE", type := .int, accessFlags := 25, slot := 7, constantValue := 0 }, { name := "LOG2_ARRAY_FLOAT_INDEX_SCALE", type := .int, accessFlags := 25, slot := 8, constantValue := 0 }, { name := "LOG2_ARRAY_DOUBLE_INDEX_SCALE", type := .int, accessFlags := 25, slot := 9, constantValue := 0 }, { name := "LOG2_BYTE_BIT_SIZE", type := .int, accessFlags := 26, slot := 10, constantValue := 0 }, { name := "T_BOOLEAN", type := .int, accessFlags := 25, slot := 11, constantValue := 0 }, { name := "T_CHAR", type := .int, accessFlags := 25, slot := 12, constantValue := 0 }, { name := "T_FLOAT", type := .int, accessFlags := 25, slot := 13, constantValue := 0 }, { name := "T_DOUBLE", type := .int, accessFlags := 25, slot := 14, constantValue := 0 }, { name := "T_BYTE", type := .int, accessFlags := 25, slot := 15, constantValue := 0 }, { name := "T_SHORT", type := .int, accessFlags := 25, slot := 16, constantValue := 0 }, { name := "T_INT", type := .int, accessFlags := 25, slot := 17, constantValue := 0 }, { name := "T_LONG", type := .int, accessFlags := 25, slot := 18, constantValue := 0 }, { name := "JLA", type := (.object "jdk/internal/access/JavaLangAccess"), accessFlags := 26, slot := 19, constantValue := 0 }, { name := "SOFT_MAX_ARRAY_LENGTH", type := .int, accessFlags := 25, slot := 20, constantValue := 0 }]
  methods := #[k15m0, k15m1]
  instanceTypes := #[]
  staticTypes := #[(.object "jdk/internal/misc/Unsafe"), .boolean, .int, .int, .int, .int, .int, .int, .int, .int, .int, .int, .int, .int, .int, .int, .int, .int, .int, (.object "jdk/internal/access/JavaLangAccess"), .int]
  resolved := Array.replicate 378 none
  statics := none }

def pool16 : Array CpInfo := pool [(1, .class_ 2), (0, u "java/lang/Math"), (1, .class_ 6), (1, u "java/lang/Object"), (0, u "<init>"), (0, u "()V"), (89, .class_ 100), (1, u "java/lang/Math$RandomNumberGeneratorHolder"), (71, u "negativeZeroFloatBits"), (0, u "J"), (2, u "negativeZeroDoubleBits"), (21, u "max"), (2, u "min"), (43, u "$assertionsDisabled"), (0, u "Z"), (88, u "(II)I"), (2, u "twoToTheDoubleScaleDown"), (0, u "D"), (4, u "twoToTheDoubleScaleUp"), (9, u "E"), (3, u "PI"), (2, u "TAU"), (2, u "DEGREES_TO_RADIANS"), (0, u "RADIANS_TO_DEGREES")] 94

def k16m0 : Method := { name := "<init>", desc := "()V", sig := { parameters := [], returnType := none }, accessFlags := 2, code := none }
def k16c1 : Code := { maxStack := 2, maxLocals := 2, code := jdk_29_method_65_code, exceptionTable := #[], attributes := #[] }
def k16m1 : Method := { name := "max", desc := "(II)I", sig := { parameters := [.int, .int], returnType := some .int }, accessFlags := 9, code := some k16c1 }
def k16c2 : Code := { maxStack := 2, maxLocals := 2, code := jdk_29_method_69_code, exceptionTable := #[], attributes := #[] }
def k16m2 : Method := { name := "min", desc := "(II)I", sig := { parameters := [.int, .int], returnType := some .int }, accessFlags := 9, code := some k16c2 }
/-- java/lang/Math -/
def k16 : Class := { plain "java/lang/Math" (some 0) with
  accessFlags := 49
  interfaces := #[]
  cf := some (fileOf pool16 1 #[.nestMembers #[98]] #[{ accessFlags := 2, nameIndex := 7, descriptorIndex := 8, attributes := #[] }, { accessFlags := 9, nameIndex := 198, descriptorIndex := 335, attributes := #[] }, { accessFlags := 9, nameIndex := 201, descriptorIndex := 335, attributes := #[] }] 49 4 #[] #[{ accessFlags := 25, nameIndex := 354, descriptorIndex := 339, attributes := #[] }, { accessFlags := 25, nameIndex := 358, descriptorIndex := 339, attributes := #[] }, { accessFlags := 25, nameIndex := 361, descriptorIndex := 339, attributes := #[] }, { accessFlags := 26, nameIndex := 364, descriptorIndex := 339, attributes := #[] }, { accessFlags := 26, nameIndex := 365, descriptorIndex := 339, attributes := #[] }, { accessFlags := 26, nameIndex := 172, descriptorIndex := 173, attributes := #[] }, { accessFlags := 26, nameIndex := 176, descriptorIndex := 173, attributes := #[] }, { accessFlags := 8, nameIndex := 344, descriptorIndex := 339, attributes := #[] }, { accessFlags := 8, nameIndex := 338, descriptorIndex := 339, attributes := #[] }, { accessFlags := 4120, nameIndex := 245, descriptorIndex := 246, attributes := #[] }])
  fields := #[{ name := "E", type := .double, accessFlags := 25, slot := 0, constantValue := 0 }, { name := "PI", type := .double, accessFlags := 25, slot := 1, constantValue := 0 }, { name := "TAU", type := .double, accessFlags := 25, slot := 2, constantValue := 0 }, { name := "DEGREES_TO_RADIANS", type := .double, accessFlags := 26, slot := 3, constantValue := 0 }, { name := "RADIANS_TO_DEGREES", type := .double, accessFlags := 26, slot := 4, constantValue := 0 }, { name := "negativeZeroFloatBits", type := .long, accessFlags := 26, slot := 5, constantValue := 0 }, { name := "negativeZeroDoubleBits", type := .long, accessFlags := 26, slot := 6, constantValue := 0 }, { name := "twoToTheDoubleScaleUp", type := .double, accessFlags := 8, slot := 7, constantValue := 0 }, { name := "twoToTheDoubleScaleDown", type := .double, accessFlags := 8, slot := 8, constantValue := 0 }, { name := "$assertionsDisabled", type := .boolean, accessFlags := 4120, slot := 9, constantValue := 0 }]
  methods := #[k16m0, k16m1, k16m2]
  instanceTypes := #[]
  staticTypes := #[.double, .double, .double, .double, .double, .long, .long, .double, .double, .boolean]
  resolved := Array.replicate 460 none
  statics := none }

def pool17 : Array CpInfo := pool [(2, .class_ 4), (1, u "java/lang/Object"), (0, u "<init>"), (0, u "()V"), (7, .class_ 16), (1, u "java/util/Arrays"), (57, .class_ 76), (1, u "java/util/Arrays$NaturalOrder"), (32, u "()Ljava/lang/Object;"), (3, .class_ 115), (1, u "java/util/Arrays$LegacyMergeSort"), (1, u "Z"), (10, .nameAndType 129 109), (0, u "clone"), (9, u "copyOfRange"), (10, .methodref 151 152), (0, .class_ 153), (0, .nameAndType 154 155), (0, u "java/lang/System"), (0, u "arraycopy"), (0, u "(Ljava/lang/Object;ILjava/lang/Object;II)V"), (146, u "copyOf"), (1, .methodref 305 306), (0, .class_ 307), (0, .nameAndType 308 309), (0, u "java/lang/Math"), (0, u "min"), (0, u "(II)I"), (0, .methodref 311 128), (0, .class_ 312), (0, u "[B"), (26, .methodref 14 340), (0, .nameAndType 341 342), (0, u "copyOfRangeByte"), (0, u "([BII)[B"), (0, .methodref 14 344), (0, .nameAndType 345 346), (0, u "checkLength"), (0, u "(II)V"), (28, .class_ 376), (0, u "java/util/Arrays$ArrayList"), (68, u "$assertionsDisabled"), (269, u "MIN_ARRAY_SORT_GRAN"), (0, u "I"), (2, u "INSERTIONSORT_THRESHOLD"), (149, u "([BI)[B"), (105, .class_ 976), (0, u "java/util/Arrays$ArrayItr")] 52

def k17m0 : Method := { name := "<init>", desc := "()V", sig := { parameters := [], returnType := none }, accessFlags := 2, code := none }
def k17c1 : Code := { maxStack := 6, maxLocals := 3, code := jdk_65_method_121_code, exceptionTable := #[], attributes := #[] }
def k17m1 : Method := { name := "copyOf", desc := "([BI)[B", sig := { parameters := [(.array .byte), .int], returnType := some (.array .byte) }, accessFlags := 9, code := some k17c1 }
def k17c2 : Code := { maxStack := 4, maxLocals := 2, code := jdk_65_method_131_code, exceptionTable := #[], attributes := #[] }
def k17m2 : Method := { name := "checkLength", desc := "(II)V", sig := { parameters := [.int, .int], returnType := none }, accessFlags := 10, code := some k17c2 }
def k17c3 : Code := { maxStack := 3, maxLocals := 3, code := jdk_65_method_132_code, exceptionTable := #[], attributes := #[] }
def k17m3 : Method := { name := "copyOfRange", desc := "([BII)[B", sig := { parameters := [(.array .byte), .int, .int], returnType := some (.array .byte) }, accessFlags := 9, code := some k17c3 }
def k17c4 : Code := { maxStack := 6, maxLocals := 5, code := jdk_65_method_133_code, exceptionTable := #[], attributes := #[] }
def k17m4 : Method := { name := "copyOfRangeByte", desc := "([BII)[B", sig := { parameters := [(.array .byte), .int, .int], returnType := some (.array .byte) }, accessFlags := 10, code := some k17c4 }
/-- java/util/Arrays -/
def k17 : Class := { plain "java/util/Arrays" (some 0) with
  accessFlags := 49
  interfaces := #[]
  cf := some (fileOf pool17 14 #[.nestMembers #[975, 375, 113, 74]] #[{ accessFlags := 2, nameIndex := 5, descriptorIndex := 6, attributes := #[] }, { accessFlags := 9, nameIndex := 302, descriptorIndex := 869, attributes := #[] }, { accessFlags := 10, nameIndex := 345, descriptorIndex := 346, attributes := #[] }, { accessFlags := 9, nameIndex := 139, descriptorIndex := 342, attributes := #[] }, { accessFlags := 10, nameIndex := 341, descriptorIndex := 342, attributes := #[] }] 49 2 #[] #[{ accessFlags := 26, nameIndex := 715, descriptorIndex := 716, attributes := #[] }, { accessFlags := 26, nameIndex := 719, descriptorIndex := 716, attributes := #[] }, { accessFlags := 4120, nameIndex := 445, descriptorIndex := 117, attributes := #[] }])
  fields := #[{ name := "MIN_ARRAY_SORT_GRAN", type := .int, accessFlags := 26, slot := 0, constantValue := 0 }, { name := "INSERTIONSORT_THRESHOLD", type := .int, accessFlags := 26, slot := 1, constantValue := 0 }, { name := "$assertionsDisabled", type := .boolean, accessFlags := 4120, slot := 2, constantValue := 0 }]
  methods := #[k17m0, k17m1, k17m2, k17m3, k17m4]
  instanceTypes := #[]
  staticTypes := #[.int, .int, .boolean]
  resolved := Array.replicate 1029 none
  statics := none }

def pool18 : Array CpInfo := pool [(2, .class_ 4), (1, u "java/lang/Object"), (0, u "<init>"), (0, u "()V"), (1, .class_ 10), (1, u "java/lang/System"), (0, u "allowSecurityManager"), (0, u "I"), (16, u "cons"), (0, u "Ljava/io/Console;"), (77, .class_ 110), (1, u "java/lang/System$CallersHolder"), (43, u "initialErrStream"), (0, u "Ljava/io/PrintStream;"), (19, u "security"), (0, u "Ljava/lang/SecurityManager;"), (31, .class_ 209), (0, u "java/lang/System$1"), (7, u "props"), (0, u "Ljava/util/Properties;"), (2, u "lineSeparator"), (0, u "Ljava/lang/String;"), (96, .class_ 321), (1, u "java/lang/System$LoggerFinder"), (5, .class_ 328), (0, u "java/lang/System$Logger"), (67, u "err"), (2, u "out"), (91, u "notSupportedJnuEncoding"), (15, u "in"), (17, u "initialIn"), (0, u "Ljava/io/InputStream;"), (35, u "bootLayer"), (0, u "Ljava/lang/ModuleLayer;"), (99, .class_ 664), (0, u "java/lang/System$2"), (9, u "NEVER"), (2, u "MAYBE"), (49, u "arraycopy"), (0, u "(Ljava/lang/Object;ILjava/lang/Object;II)V"), (72, .class_ 802), (0, u "java/lang/System$Logger$Level")] 31

def k18m0 : Method := { name := "<init>", desc := "()V", sig := { parameters := [], returnType := none }, accessFlags := 2, code := none }
def k18m1 : Method := { name := "arraycopy", desc := "(Ljava/lang/Object;ILjava/lang/Object;II)V", sig := { parameters := [(.object "java/lang/Object"), .int, (.object "java/lang/Object"), .int, .int], returnType := none }, accessFlags := 265, code := none }
/-- java/lang/System -/
def k18 : Class := { plain "java/lang/System" (some 0) with
  accessFlags := 49
  interfaces := #[]
  cf := some (fileOf pool18 8 #[.nestMembers #[319, 327, 801, 108, 663, 208]] #[{ accessFlags := 2, nameIndex := 5, descriptorIndex := 6, attributes := #[] }, { accessFlags := 265, nameIndex := 727, descriptorIndex := 728, attributes := #[] }] 49 2 #[] #[{ accessFlags := 25, nameIndex := 507, descriptorIndex := 526, attributes := #[] }, { accessFlags := 25, nameIndex := 399, descriptorIndex := 155, attributes := #[] }, { accessFlags := 25, nameIndex := 396, descriptorIndex := 155, attributes := #[] }, { accessFlags := 10, nameIndex := 525, descriptorIndex := 526, attributes := #[] }, { accessFlags := 26, nameIndex := 674, descriptorIndex := 12, attributes := #[] }, { accessFlags := 26, nameIndex := 677, descriptorIndex := 12, attributes := #[] }, { accessFlags := 10, nameIndex := 11, descriptorIndex := 12, attributes := #[] }, { accessFlags := 74, nameIndex := 175, descriptorIndex := 176, attributes := #[] }, { accessFlags := 10, nameIndex := 491, descriptorIndex := 222, attributes := #[] }, { accessFlags := 74, nameIndex := 29, descriptorIndex := 30, attributes := #[] }, { accessFlags := 74, nameIndex := 154, descriptorIndex := 155, attributes := #[] }, { accessFlags := 10, nameIndex := 217, descriptorIndex := 218, attributes := #[] }, { accessFlags := 10, nameIndex := 221, descriptorIndex := 222, attributes := #[] }, { accessFlags := 8, nameIndex := 562, descriptorIndex := 563, attributes := #[] }])
  fields := #[{ name := "in", type := (.object "java/io/InputStream"), accessFlags := 25, slot := 0, constantValue := 0 }, { name := "out", type := (.object "java/io/PrintStream"), accessFlags := 25, slot := 1, constantValue := 0 }, { name := "err", type := (.object "java/io/PrintStream"), accessFlags := 25, slot := 2, constantValue := 0 }, { name := "initialIn", type := (.object "java/io/InputStream"), accessFlags := 10, slot := 3, constantValue := 0 }, { name := "NEVER", type := .int, accessFlags := 26, slot := 4, constantValue := 0 }, { name := "MAYBE", type := .int, accessFlags := 26, slot := 5, constantValue := 0 }, { name := "allowSecurityManager", type := .int, accessFlags := 10, slot := 6, constantValue := 0 }, { name := "security", type := (.object "java/lang/SecurityManager"), accessFlags := 74, slot := 7, constantValue := 0 }, { name := "notSupportedJnuEncoding", type := (.object "java/lang/String"), accessFlags := 10, slot := 8, constantValue := 0 }, { name := "cons", type := (.object "java/io/Console"), accessFlags := 74, slot := 9, constantValue := 0 }, { name := "initialErrStream", type := (.object "java/io/PrintStream"), accessFlags := 74, slot := 10, constantValue := 0 }, { name := "props", type := (.object "java/util/Properties"), accessFlags := 10, slot := 11, constantValue := 0 }, { name := "lineSeparator", type := (.object "java/lang/String"), accessFlags := 10, slot := 12, constantValue := 0 }, { name := "bootLayer", type := (.object "java/lang/ModuleLayer"), accessFlags := 8, slot := 13, constantValue := 0 }]
  methods := #[k18m0, k18m1]
  instanceTypes := #[]
  staticTypes := #[(.object "java/io/InputStream"), (.object "java/io/PrintStream"), (.object "java/io/PrintStream"), (.object "java/io/InputStream"), .int, .int, .int, (.object "java/lang/SecurityManager"), (.object "java/lang/String"), (.object "java/io/Console"), (.object "java/io/PrintStream"), (.object "java/util/Properties"), (.object "java/lang/String"), (.object "java/lang/ModuleLayer")]
  resolved := Array.replicate 834 none
  statics := none }

def pool19 : Array CpInfo := pool [(1, .class_ 2), (0, u "java/lang/Cloneable"), (0, .class_ 4), (0, u "java/lang/Object")] 2

/-- java/lang/Cloneable -/
def k19 : Class := { plain "java/lang/Cloneable" (some 0) with
  accessFlags := 1537
  interfaces := #[]
  cf := some (fileOf pool19 1 #[] #[] 1537 3 #[] #[])
  fields := #[]
  methods := #[]
  instanceTypes := #[]
  staticTypes := #[]
  resolved := Array.replicate 7 none
  statics := none }

/-- the primitive byte -/
def k20 : Class := { plain "byte" none with kind := .primitive 'B', accessFlags := 0x411 }
/-- [B -/
def k21 : Class := { plain "[B" (some 0) with kind := .array 20 .byte, interfaces := #[19, 2], accessFlags := 1041 }

/-- the primitive char -/
def k22 : Class := { plain "char" none with kind := .primitive 'C', accessFlags := 0x411 }
/-- [C -/
def k23 : Class := { plain "[C" (some 0) with kind := .array 22 .char, interfaces := #[19, 2], accessFlags := 1041 }

def heap : Heap := #[{ cls := 7, slots := #[.long 0, .int 1, .null, .int 0, .null, .int 0, .int 0], vm := .statics 7 },
  { cls := 8, slots := #[.int 0, .int 8, .int 0, .int 1], vm := .statics 8 },
  { cls := 9, slots := #[.ref 4], vm := .statics 9 },
  { cls := 14, slots := #[.null, .null, .null], vm := .statics 14 },
  { cls := 23, slots := #[.int 48, .int 49, .int 50, .int 51, .int 52, .int 53, .int 54, .int 55, .int 56, .int 57, .int 97, .int 98, .int 99, .int 100, .int 101, .int 102], vm := .none }]
def classes : Array Class := #[k0, k1, k2, k3, k4, k5, k6, k7, k8, k9, k10, k11, k12, k13, k14, k15, k16, k17, k18, k19, k20, k21, k22, k23]
def interned : List (Array UInt16 × Addr) := []
def slotsUsed : Nat := 31
def theMethod : MethodId := ⟨1, 1⟩
def args0 : Array Value := #[.int 5, .int 6, .int 7, .int 8]
def aboutOver (below : List Frame) : State where
  vm := { classes := classes, interned := interned.toArray }
  heap := heap
  slotsUsed := slotsUsed
  threads := #[{ frames := .invoking theMethod args0 :: below }]
def below0 : List Frame := [.native { method := ⟨0, 0⟩, args := #[] }]
def about1 : State := aboutOver below0
def p0 : Program := .bare "" "" ""
def e0 : Env := launch0.env 0 0 0
theorem w_frames : about1.frames = Frame.invoking theMethod args0 :: below0 := rfl
set_option maxRecDepth 65536 in
theorem w_args : argsFit about1.vm theMethod args0 = true := by decide +kernel
set_option maxRecDepth 65536 in
theorem w_heap : heapFits about1 = true := by decide +kernel
set_option maxRecDepth 65536 in
theorem w_runnable : about1.curStatus? = some .runnable := by decide +kernel
set_option maxRecDepth 65536 in
theorem w_alone : about1.alone = true := by decide +kernel
set_option maxRecDepth 65536 in
theorem w_named : about1.methodNamed? x = some theMethod := by decide +kernel
set_option maxRecDepth 65536 in
theorem w_hears : about1.hears theMethod below0 = true := by decide +kernel
set_option maxRecDepth 65536 in
theorem w_ripe : about1.ripe theMethod args0 below0 = true := by decide +kernel
theorem w_running : about1.status = .running := rfl
set_option maxRecDepth 65536 in
theorem w_room : about1.hasRoom e0.platform room_1 = true :=
  launch0.hasRoom_least _ room_1 (by decide +kernel) (by decide +kernel) (by decide +kernel) (by decide +kernel) (by decide +kernel) (by decide +kernel)
theorem allAtoms_all (ts : List Jvm.Cond) (a : Array Jvm.Value) (st : Jvm.State) : (allAtoms ts).before a st = ts.all (fun c => c.before a st) := by
  induction ts with
  | nil => rfl
  | cons c t ih =>
    show (Jvm.Cond.and c (allAtoms t)).before a st = _
    rw [Jvm.Cond.before_and, ih, List.all_cons]
def words1 : List Jvm.Cond := Jvm.Cond.code x code maxLocals ret :: tables_1
/-- a 'code' word, met by the world's own term for the bytes: nothing is compared byte by byte -/
theorem code_word {y : MethodName} {bytes : ByteArray} {mx : Nat} {rt : Option FieldType} {a : Array Value} {s : State} {m : MethodId} {meth : Method} {c : Code} (h1 : s.methodNamed? y = some m) (h2 : s.vm.method? m = some meth) (h3 : meth.code = some c) (h4 : c.code = bytes)
    (h5 : (c.maxLocals == mx && c.exceptionTable.isEmpty && decide (c.maxStack ≤ mostOperands) && decide (meth.sig.returnType = rt) && !meth.locks && decide (parseMethodDescriptor y.desc = some meth.sig)) = true) : (Jvm.Cond.code y bytes mx rt).before a s = true := by
  simp only [Bool.and_eq_true, beq_iff_eq, Bool.not_eq_true', decide_eq_true_eq] at h5
  obtain ⟨⟨⟨⟨⟨g1, g2⟩, g3⟩, g4⟩, g5⟩, g6⟩ := h5
  simp [Cond.before, Cond.holds, Cond.value, h1, h2, h3, h4, g1, g2, g3, g4, g5, g6]
def isCode : Jvm.Cond → Bool
  | .code _ _ _ _ => true
  | _ => false
theorem all_split {L : List Jvm.Cond} {P : Jvm.Cond → Bool} (h1 : L.all (fun c => isCode c || P c) = true) (h2 : ∀ c ∈ L.filter isCode, P c = true) : L.all P = true := by
  refine List.all_eq_true.mpr fun c hc => ?_
  have h := List.all_eq_true.mp h1 c hc
  rcases Bool.eq_false_or_eq_true (isCode c) with hi | hi
  · exact h2 c (List.mem_filter.mpr ⟨hc, hi⟩)
  · simpa [hi] using h
set_option maxRecDepth 65536 in
theorem w_c0 : (Jvm.Cond.code x code maxLocals ret).before args0 about1 = true := code_word (m := ⟨1, 1⟩) (meth := k1m1) (c := k1c1) (by decide +kernel) rfl rfl rfl (by decide +kernel)
set_option maxRecDepth 65536 in
theorem w_c1 : (Jvm.Cond.code ({ cls := "java/lang/String", name := "<init>", desc := "([C)V" } : Jvm.MethodName) jdk_42_method_3_code (2 : Nat) (Option.none : Option Jvm.ClassFile.FieldType)).before args0 about1 = true := code_word (m := ⟨7, 1⟩) (meth := k7m1) (c := k7c1) (by decide +kernel) rfl rfl rfl (by decide +kernel)
set_option maxRecDepth 65536 in
theorem w_c2 : (Jvm.Cond.code ({ cls := "java/lang/String", name := "<init>", desc := "([CIILjava/lang/Void;)V" } : Jvm.MethodName) jdk_42_method_149_code (6 : Nat) (Option.none : Option Jvm.ClassFile.FieldType)).before args0 about1 = true := code_word (m := ⟨7, 6⟩) (meth := k7m6) (c := k7c6) (by decide +kernel) rfl rfl rfl (by decide +kernel)
set_option maxRecDepth 65536 in
theorem w_c3 : (Jvm.Cond.code ({ cls := "java/lang/Object", name := "<init>", desc := "()V" } : Jvm.MethodName) object_method_1_code (1 : Nat) (Option.none : Option Jvm.ClassFile.FieldType)).before args0 about1 = true := code_word (m := ⟨0, 0⟩) (meth := k0m0) (c := k0c0) (by decide +kernel) rfl rfl rfl (by decide +kernel)
set_option maxRecDepth 65536 in
theorem w_c4 : (Jvm.Cond.code ({ cls := "java/lang/StringUTF16", name := "compress", desc := "([CII)[B" } : Jvm.MethodName) jdk_52_method_16_code (6 : Nat) (Option.some (Jvm.ClassFile.FieldType.array Jvm.ClassFile.FieldType.byte))).before args0 about1 = true := code_word (m := ⟨8, 8⟩) (meth := k8m8) (c := k8c8) (by decide +kernel) rfl rfl rfl (by decide +kernel)
set_option maxRecDepth 65536 in
theorem w_c5 : (Jvm.Cond.code ({ cls := "java/lang/StringUTF16", name := "compress", desc := "([CI[BII)I" } : Jvm.MethodName) jdk_52_method_21_code (7 : Nat) (Option.some Jvm.ClassFile.FieldType.int)).before args0 about1 = true := code_word (m := ⟨8, 9⟩) (meth := k8m9) (c := k8c9) (by decide +kernel) rfl rfl rfl (by decide +kernel)
set_option maxRecDepth 65536 in
theorem w_c6 : (Jvm.Cond.code ({ cls := "java/lang/StringUTF16", name := "coderFromArrayLen", desc := "([BI)B" } : Jvm.MethodName) jdk_52_method_15_code (2 : Nat) (Option.some Jvm.ClassFile.FieldType.byte)).before args0 about1 = true := code_word (m := ⟨8, 7⟩) (meth := k8m7) (c := k8c7) (by decide +kernel) rfl rfl rfl (by decide +kernel)
set_option maxRecDepth 65536 in
theorem w_c7 : (Jvm.Cond.code ({ cls := "com/example/catchment/catchment/Json", name := "string", desc := "(Ljava/lang/String;)Ljava/lang/String;" } : Jvm.MethodName) prog_21_method_2_code (4 : Nat) (Option.some (Jvm.ClassFile.FieldType.object "java/lang/String"))).before args0 about1 = true := code_word (m := ⟨9, 1⟩) (meth := k9m1) (c := k9c1) (by decide +kernel) rfl rfl rfl (by decide +kernel)
set_option maxRecDepth 65536 in
theorem w_c8 : (Jvm.Cond.code ({ cls := "java/lang/String", name := "length", desc := "()I" } : Jvm.MethodName) jdk_42_method_54_code (1 : Nat) (Option.some Jvm.ClassFile.FieldType.int)).before args0 about1 = true := code_word (m := ⟨7, 3⟩) (meth := k7m3) (c := k7c3) (by decide +kernel) rfl rfl rfl (by decide +kernel)
set_option maxRecDepth 65536 in
theorem w_c9 : (Jvm.Cond.code ({ cls := "java/lang/String", name := "coder", desc := "()B" } : Jvm.MethodName) jdk_42_method_152_code (1 : Nat) (Option.some Jvm.ClassFile.FieldType.byte)).before args0 about1 = true := code_word (m := ⟨7, 8⟩) (meth := k7m8) (c := k7c8) (by decide +kernel) rfl rfl rfl (by decide +kernel)
set_option maxRecDepth 65536 in
theorem w_c10 : (Jvm.Cond.code ({ cls := "java/lang/StringBuilder", name := "<init>", desc := "(I)V" } : Jvm.MethodName) jdk_67_method_2_code (2 : Nat) (Option.none : Option Jvm.ClassFile.FieldType)).before args0 about1 = true := code_word (m := ⟨12, 1⟩) (meth := k12m1) (c := k12c1) (by decide +kernel) rfl rfl rfl (by decide +kernel)
set_option maxRecDepth 65536 in
theorem w_c11 : (Jvm.Cond.code ({ cls := "java/lang/AbstractStringBuilder", name := "<init>", desc := "(I)V" } : Jvm.MethodName) jdk_68_method_2_code (2 : Nat) (Option.none : Option Jvm.ClassFile.FieldType)).before args0 about1 = true := code_word (m := ⟨11, 1⟩) (meth := k11m1) (c := k11c1) (by decide +kernel) rfl rfl rfl (by decide +kernel)
set_option maxRecDepth 65536 in
theorem w_c12 : (Jvm.Cond.code ({ cls := "java/lang/StringBuilder", name := "append", desc := "(C)Ljava/lang/StringBuilder;" } : Jvm.MethodName) jdk_67_method_14_code (2 : Nat) (Option.some (Jvm.ClassFile.FieldType.object "java/lang/StringBuilder"))).before args0 about1 = true := code_word (m := ⟨12, 3⟩) (meth := k12m3) (c := k12c3) (by decide +kernel) rfl rfl rfl (by decide +kernel)
set_option maxRecDepth 65536 in
theorem w_c13 : (Jvm.Cond.code ({ cls := "java/lang/AbstractStringBuilder", name := "append", desc := "(C)Ljava/lang/AbstractStringBuilder;" } : Jvm.MethodName) jdk_68_method_31_code (2 : Nat) (Option.some (Jvm.ClassFile.FieldType.object "java/lang/AbstractStringBuilder"))).before args0 about1 = true := code_word (m := ⟨11, 7⟩) (meth := k11m7) (c := k11c7) (by decide +kernel) rfl rfl rfl (by decide +kernel)
set_option maxRecDepth 65536 in
theorem w_c14 : (Jvm.Cond.code ({ cls := "java/lang/AbstractStringBuilder", name := "ensureCapacityInternal", desc := "(I)V" } : Jvm.MethodName) jdk_68_method_9_code (3 : Nat) (Option.none : Option Jvm.ClassFile.FieldType)).before args0 about1 = true := code_word (m := ⟨11, 3⟩) (meth := k11m3) (c := k11c3) (by decide +kernel) rfl rfl rfl (by decide +kernel)
set_option maxRecDepth 65536 in
theorem w_c15 : (Jvm.Cond.code ({ cls := "java/lang/AbstractStringBuilder", name := "isLatin1", desc := "()Z" } : Jvm.MethodName) jdk_68_method_68_code (1 : Nat) (Option.some Jvm.ClassFile.FieldType.boolean)).before args0 about1 = true := code_word (m := ⟨11, 9⟩) (meth := k11m9) (c := k11c9) (by decide +kernel) rfl rfl rfl (by decide +kernel)
set_option maxRecDepth 65536 in
theorem w_c16 : (Jvm.Cond.code ({ cls := "java/lang/StringLatin1", name := "canEncode", desc := "(C)Z" } : Jvm.MethodName) jdk_43_method_3_code (1 : Nat) (Option.some Jvm.ClassFile.FieldType.boolean)).before args0 about1 = true := code_word (m := ⟨13, 2⟩) (meth := k13m2) (c := k13c2) (by decide +kernel) rfl rfl rfl (by decide +kernel)
set_option maxRecDepth 65536 in
theorem w_c17 : (Jvm.Cond.code ({ cls := "java/lang/String", name := "charAt", desc := "(I)C" } : Jvm.MethodName) jdk_42_method_56_code (2 : Nat) (Option.some Jvm.ClassFile.FieldType.char)).before args0 about1 = true := code_word (m := ⟨7, 4⟩) (meth := k7m4) (c := k7c4) (by decide +kernel) rfl rfl rfl (by decide +kernel)
set_option maxRecDepth 65536 in
theorem w_c18 : (Jvm.Cond.code ({ cls := "java/lang/String", name := "isLatin1", desc := "()Z" } : Jvm.MethodName) jdk_42_method_154_code (1 : Nat) (Option.some Jvm.ClassFile.FieldType.boolean)).before args0 about1 = true := code_word (m := ⟨7, 9⟩) (meth := k7m9) (c := k7c9) (by decide +kernel) rfl rfl rfl (by decide +kernel)
set_option maxRecDepth 65536 in
theorem w_c19 : (Jvm.Cond.code ({ cls := "java/lang/StringLatin1", name := "charAt", desc := "([BI)C" } : Jvm.MethodName) jdk_43_method_2_code (2 : Nat) (Option.some Jvm.ClassFile.FieldType.char)).before args0 about1 = true := code_word (m := ⟨13, 1⟩) (meth := k13m1) (c := k13c1) (by decide +kernel) rfl rfl rfl (by decide +kernel)
set_option maxRecDepth 65536 in
theorem w_c20 : (Jvm.Cond.code ({ cls := "java/lang/String", name := "checkIndex", desc := "(II)V" } : Jvm.MethodName) jdk_42_method_155_code (2 : Nat) (Option.none : Option Jvm.ClassFile.FieldType)).before args0 about1 = true := code_word (m := ⟨7, 10⟩) (meth := k7m10) (c := k7c10) (by decide +kernel) rfl rfl rfl (by decide +kernel)
set_option maxRecDepth 65536 in
theorem w_c21 : (Jvm.Cond.code ({ cls := "jdk/internal/util/Preconditions", name := "checkIndex", desc := "(IILjava/util/function/BiFunction;)I" } : Jvm.MethodName) jdk_41_method_11_code (3 : Nat) (Option.some Jvm.ClassFile.FieldType.int)).before args0 about1 = true := code_word (m := ⟨14, 1⟩) (meth := k14m1) (c := k14c1) (by decide +kernel) rfl rfl rfl (by decide +kernel)
set_option maxRecDepth 65536 in
theorem w_c22 : (Jvm.Cond.code ({ cls := "java/lang/StringBuilder", name := "append", desc := "(Ljava/lang/String;)Ljava/lang/StringBuilder;" } : Jvm.MethodName) jdk_67_method_7_code (2 : Nat) (Option.some (Jvm.ClassFile.FieldType.object "java/lang/StringBuilder"))).before args0 about1 = true := code_word (m := ⟨12, 2⟩) (meth := k12m2) (c := k12c2) (by decide +kernel) rfl rfl rfl (by decide +kernel)
set_option maxRecDepth 65536 in
theorem w_c23 : (Jvm.Cond.code ({ cls := "java/lang/AbstractStringBuilder", name := "append", desc := "(Ljava/lang/String;)Ljava/lang/AbstractStringBuilder;" } : Jvm.MethodName) jdk_68_method_22_code (3 : Nat) (Option.some (Jvm.ClassFile.FieldType.object "java/lang/AbstractStringBuilder"))).before args0 about1 = true := code_word (m := ⟨11, 6⟩) (meth := k11m6) (c := k11c6) (by decide +kernel) rfl rfl rfl (by decide +kernel)
set_option maxRecDepth 65536 in
theorem w_c24 : (Jvm.Cond.code ({ cls := "java/lang/AbstractStringBuilder", name := "newCapacity", desc := "(I)I" } : Jvm.MethodName) jdk_68_method_10_code (6 : Nat) (Option.some Jvm.ClassFile.FieldType.int)).before args0 about1 = true := code_word (m := ⟨11, 4⟩) (meth := k11m4) (c := k11c4) (by decide +kernel) rfl rfl rfl (by decide +kernel)
set_option maxRecDepth 65536 in
theorem w_c25 : (Jvm.Cond.code ({ cls := "jdk/internal/util/ArraysSupport", name := "newLength", desc := "(III)I" } : Jvm.MethodName) jdk_48_method_27_code (4 : Nat) (Option.some Jvm.ClassFile.FieldType.int)).before args0 about1 = true := code_word (m := ⟨15, 1⟩) (meth := k15m1) (c := k15c1) (by decide +kernel) rfl rfl rfl (by decide +kernel)
set_option maxRecDepth 65536 in
theorem w_c26 : (Jvm.Cond.code ({ cls := "java/lang/Math", name := "max", desc := "(II)I" } : Jvm.MethodName) jdk_29_method_65_code (2 : Nat) (Option.some Jvm.ClassFile.FieldType.int)).before args0 about1 = true := code_word (m := ⟨16, 1⟩) (meth := k16m1) (c := k16c1) (by decide +kernel) rfl rfl rfl (by decide +kernel)
set_option maxRecDepth 65536 in
theorem w_c27 : (Jvm.Cond.code ({ cls := "java/util/Arrays", name := "copyOf", desc := "([BI)[B" } : Jvm.MethodName) jdk_65_method_121_code (3 : Nat) (Option.some (Jvm.ClassFile.FieldType.array Jvm.ClassFile.FieldType.byte))).before args0 about1 = true := code_word (m := ⟨17, 1⟩) (meth := k17m1) (c := k17c1) (by decide +kernel) rfl rfl rfl (by decide +kernel)
set_option maxRecDepth 65536 in
theorem w_c28 : (Jvm.Cond.code ({ cls := "java/lang/Math", name := "min", desc := "(II)I" } : Jvm.MethodName) jdk_29_method_69_code (2 : Nat) (Option.some Jvm.ClassFile.FieldType.int)).before args0 about1 = true := code_word (m := ⟨16, 2⟩) (meth := k16m2) (c := k16c2) (by decide +kernel) rfl rfl rfl (by decide +kernel)
set_option maxRecDepth 65536 in
theorem w_c29 : (Jvm.Cond.code ({ cls := "java/lang/AbstractStringBuilder", name := "putStringAt", desc := "(ILjava/lang/String;)V" } : Jvm.MethodName) jdk_68_method_73_code (3 : Nat) (Option.none : Option Jvm.ClassFile.FieldType)).before args0 about1 = true := code_word (m := ⟨11, 11⟩) (meth := k11m11) (c := k11c11) (by decide +kernel) rfl rfl rfl (by decide +kernel)
set_option maxRecDepth 65536 in
theorem w_c30 : (Jvm.Cond.code ({ cls := "java/lang/AbstractStringBuilder", name := "inflateIfNeededFor", desc := "(Ljava/lang/String;)V" } : Jvm.MethodName) jdk_68_method_71_code (2 : Nat) (Option.none : Option Jvm.ClassFile.FieldType)).before args0 about1 = true := code_word (m := ⟨11, 10⟩) (meth := k11m10) (c := k11c10) (by decide +kernel) rfl rfl rfl (by decide +kernel)
set_option maxRecDepth 65536 in
theorem w_c31 : (Jvm.Cond.code ({ cls := "java/lang/String", name := "getBytes", desc := "([BIB)V" } : Jvm.MethodName) jdk_42_method_147_code (4 : Nat) (Option.none : Option Jvm.ClassFile.FieldType)).before args0 about1 = true := code_word (m := ⟨7, 5⟩) (meth := k7m5) (c := k7c5) (by decide +kernel) rfl rfl rfl (by decide +kernel)
set_option maxRecDepth 65536 in
theorem w_c32 : (Jvm.Cond.code ({ cls := "java/lang/StringBuilder", name := "toString", desc := "()Ljava/lang/String;" } : Jvm.MethodName) jdk_67_method_42_code (1 : Nat) (Option.some (Jvm.ClassFile.FieldType.object "java/lang/String"))).before args0 about1 = true := code_word (m := ⟨12, 4⟩) (meth := k12m4) (c := k12c4) (by decide +kernel) rfl rfl rfl (by decide +kernel)
set_option maxRecDepth 65536 in
theorem w_c33 : (Jvm.Cond.code ({ cls := "java/lang/String", name := "<init>", desc := "(Ljava/lang/StringBuilder;)V" } : Jvm.MethodName) jdk_42_method_53_code (2 : Nat) (Option.none : Option Jvm.ClassFile.FieldType)).before args0 about1 = true := code_word (m := ⟨7, 2⟩) (meth := k7m2) (c := k7c2) (by decide +kernel) rfl rfl rfl (by decide +kernel)
set_option maxRecDepth 65536 in
theorem w_c34 : (Jvm.Cond.code ({ cls := "java/lang/String", name := "<init>", desc := "(Ljava/lang/AbstractStringBuilder;Ljava/lang/Void;)V" } : Jvm.MethodName) jdk_42_method_150_code (5 : Nat) (Option.none : Option Jvm.ClassFile.FieldType)).before args0 about1 = true := code_word (m := ⟨7, 7⟩) (meth := k7m7) (c := k7c7) (by decide +kernel) rfl rfl rfl (by decide +kernel)
set_option maxRecDepth 65536 in
theorem w_c35 : (Jvm.Cond.code ({ cls := "java/lang/AbstractStringBuilder", name := "getValue", desc := "()[B" } : Jvm.MethodName) jdk_68_method_64_code (1 : Nat) (Option.some (Jvm.ClassFile.FieldType.array Jvm.ClassFile.FieldType.byte))).before args0 about1 = true := code_word (m := ⟨11, 8⟩) (meth := k11m8) (c := k11c8) (by decide +kernel) rfl rfl rfl (by decide +kernel)
set_option maxRecDepth 65536 in
theorem w_c36 : (Jvm.Cond.code ({ cls := "java/lang/StringBuilder", name := "length", desc := "()I" } : Jvm.MethodName) jdk_67_method_93_code (1 : Nat) (Option.some Jvm.ClassFile.FieldType.int)).before args0 about1 = true := code_word (m := ⟨12, 5⟩) (meth := k12m5) (c := k12c5) (by decide +kernel) rfl rfl rfl (by decide +kernel)
set_option maxRecDepth 65536 in
theorem w_c37 : (Jvm.Cond.code ({ cls := "java/lang/AbstractStringBuilder", name := "length", desc := "()I" } : Jvm.MethodName) jdk_68_method_6_code (1 : Nat) (Option.some Jvm.ClassFile.FieldType.int)).before args0 about1 = true := code_word (m := ⟨11, 2⟩) (meth := k11m2) (c := k11c2) (by decide +kernel) rfl rfl rfl (by decide +kernel)
set_option maxRecDepth 65536 in
theorem w_c38 : (Jvm.Cond.code ({ cls := "java/util/Arrays", name := "copyOfRange", desc := "([BII)[B" } : Jvm.MethodName) jdk_65_method_132_code (3 : Nat) (Option.some (Jvm.ClassFile.FieldType.array Jvm.ClassFile.FieldType.byte))).before args0 about1 = true := code_word (m := ⟨17, 3⟩) (meth := k17m3) (c := k17c3) (by decide +kernel) rfl rfl rfl (by decide +kernel)
set_option maxRecDepth 65536 in
theorem w_c39 : (Jvm.Cond.code ({ cls := "com/example/catchment/catchment/JsonStringPinLaw", name := "enc", desc := "(C)I" } : Jvm.MethodName) method_3_code (1 : Nat) (Option.some Jvm.ClassFile.FieldType.int)).before args0 about1 = true := code_word (m := ⟨1, 2⟩) (meth := k1m2) (c := k1c2) (by decide +kernel) rfl rfl rfl (by decide +kernel)
set_option maxRecDepth 65536 in
theorem w_c40 : (Jvm.Cond.code ({ cls := "com/example/catchment/catchment/JsonStringPinLaw", name := "at", desc := "(Ljava/lang/String;IC)Z" } : Jvm.MethodName) method_5_code (3 : Nat) (Option.some Jvm.ClassFile.FieldType.boolean)).before args0 about1 = true := code_word (m := ⟨1, 4⟩) (meth := k1m4) (c := k1c4) (by decide +kernel) rfl rfl rfl (by decide +kernel)
set_option maxRecDepth 65536 in
theorem w_c41 : (Jvm.Cond.code ({ cls := "com/example/catchment/catchment/JsonStringPinLaw", name := "hex", desc := "(I)C" } : Jvm.MethodName) method_4_code (1 : Nat) (Option.some Jvm.ClassFile.FieldType.char)).before args0 about1 = true := code_word (m := ⟨1, 3⟩) (meth := k1m3) (c := k1c3) (by decide +kernel) rfl rfl rfl (by decide +kernel)
set_option maxRecDepth 65536 in
theorem w_c42 : (Jvm.Cond.code ({ cls := "java/util/Arrays", name := "copyOfRangeByte", desc := "([BII)[B" } : Jvm.MethodName) jdk_65_method_133_code (5 : Nat) (Option.some (Jvm.ClassFile.FieldType.array Jvm.ClassFile.FieldType.byte))).before args0 about1 = true := code_word (m := ⟨17, 4⟩) (meth := k17m4) (c := k17c4) (by decide +kernel) rfl rfl rfl (by decide +kernel)
set_option maxRecDepth 65536 in
theorem w_c43 : (Jvm.Cond.code ({ cls := "java/util/Arrays", name := "checkLength", desc := "(II)V" } : Jvm.MethodName) jdk_65_method_131_code (2 : Nat) (Option.none : Option Jvm.ClassFile.FieldType)).before args0 about1 = true := code_word (m := ⟨17, 2⟩) (meth := k17m2) (c := k17c2) (by decide +kernel) rfl rfl rfl (by decide +kernel)
set_option maxRecDepth 65536 in
theorem w_c44 : (Jvm.Cond.code ({ cls := "java/lang/StringUTF16", name := "toBytes", desc := "([CII)[B" } : Jvm.MethodName) jdk_52_method_14_code (5 : Nat) (Option.some (Jvm.ClassFile.FieldType.array Jvm.ClassFile.FieldType.byte))).before args0 about1 = true := code_word (m := ⟨8, 6⟩) (meth := k8m6) (c := k8c6) (by decide +kernel) rfl rfl rfl (by decide +kernel)
set_option maxRecDepth 65536 in
theorem w_c45 : (Jvm.Cond.code ({ cls := "java/lang/StringUTF16", name := "newBytesFor", desc := "(I)[B" } : Jvm.MethodName) jdk_52_method_2_code (1 : Nat) (Option.some (Jvm.ClassFile.FieldType.array Jvm.ClassFile.FieldType.byte))).before args0 about1 = true := code_word (m := ⟨8, 1⟩) (meth := k8m1) (c := k8c1) (by decide +kernel) rfl rfl rfl (by decide +kernel)
set_option maxRecDepth 65536 in
theorem w_c46 : (Jvm.Cond.code ({ cls := "java/lang/StringUTF16", name := "newBytesLength", desc := "(I)I" } : Jvm.MethodName) jdk_52_method_3_code (1 : Nat) (Option.some Jvm.ClassFile.FieldType.int)).before args0 about1 = true := code_word (m := ⟨8, 2⟩) (meth := k8m2) (c := k8c2) (by decide +kernel) rfl rfl rfl (by decide +kernel)
set_option maxRecDepth 65536 in
theorem w_c47 : (Jvm.Cond.code ({ cls := "java/lang/StringUTF16", name := "putChar", desc := "([BII)V" } : Jvm.MethodName) jdk_52_method_4_code (3 : Nat) (Option.none : Option Jvm.ClassFile.FieldType)).before args0 about1 = true := code_word (m := ⟨8, 3⟩) (meth := k8m3) (c := k8c3) (by decide +kernel) rfl rfl rfl (by decide +kernel)
set_option maxRecDepth 65536 in
theorem w_c48 : (Jvm.Cond.code ({ cls := "java/lang/StringUTF16", name := "getChar", desc := "([BI)C" } : Jvm.MethodName) jdk_52_method_5_code (2 : Nat) (Option.some Jvm.ClassFile.FieldType.char)).before args0 about1 = true := code_word (m := ⟨8, 4⟩) (meth := k8m4) (c := k8c4) (by decide +kernel) rfl rfl rfl (by decide +kernel)
set_option maxRecDepth 65536 in
theorem w_c49 : (Jvm.Cond.code ({ cls := "java/lang/StringUTF16", name := "charAt", desc := "([BI)C" } : Jvm.MethodName) jdk_52_method_83_code (2 : Nat) (Option.some Jvm.ClassFile.FieldType.char)).before args0 about1 = true := code_word (m := ⟨8, 11⟩) (meth := k8m11) (c := k8c11) (by decide +kernel) rfl rfl rfl (by decide +kernel)
set_option maxRecDepth 65536 in
theorem w_c50 : (Jvm.Cond.code ({ cls := "java/lang/StringUTF16", name := "checkIndex", desc := "(I[B)V" } : Jvm.MethodName) jdk_52_method_91_code (2 : Nat) (Option.none : Option Jvm.ClassFile.FieldType)).before args0 about1 = true := code_word (m := ⟨8, 13⟩) (meth := k8m13) (c := k8c13) (by decide +kernel) rfl rfl rfl (by decide +kernel)
set_option maxRecDepth 65536 in
theorem w_c51 : (Jvm.Cond.code ({ cls := "java/lang/StringUTF16", name := "length", desc := "([B)I" } : Jvm.MethodName) jdk_52_method_6_code (1 : Nat) (Option.some Jvm.ClassFile.FieldType.int)).before args0 about1 = true := code_word (m := ⟨8, 5⟩) (meth := k8m5) (c := k8c5) (by decide +kernel) rfl rfl rfl (by decide +kernel)
set_option maxRecDepth 65536 in
theorem w_c52 : (Jvm.Cond.code ({ cls := "java/lang/AbstractStringBuilder", name := "inflate", desc := "()V" } : Jvm.MethodName) jdk_68_method_11_code (2 : Nat) (Option.none : Option Jvm.ClassFile.FieldType)).before args0 about1 = true := code_word (m := ⟨11, 5⟩) (meth := k11m5) (c := k11c5) (by decide +kernel) rfl rfl rfl (by decide +kernel)
set_option maxRecDepth 65536 in
theorem w_c53 : (Jvm.Cond.code ({ cls := "java/lang/StringLatin1", name := "inflate", desc := "([BI[BII)V" } : Jvm.MethodName) jdk_43_method_50_code (5 : Nat) (Option.none : Option Jvm.ClassFile.FieldType)).before args0 about1 = true := code_word (m := ⟨13, 3⟩) (meth := k13m3) (c := k13c3) (by decide +kernel) rfl rfl rfl (by decide +kernel)
set_option maxRecDepth 65536 in
theorem w_c54 : (Jvm.Cond.code ({ cls := "java/lang/StringUTF16", name := "inflate", desc := "([BI[BII)V" } : Jvm.MethodName) jdk_52_method_86_code (6 : Nat) (Option.none : Option Jvm.ClassFile.FieldType)).before args0 about1 = true := code_word (m := ⟨8, 12⟩) (meth := k8m12) (c := k8c12) (by decide +kernel) rfl rfl rfl (by decide +kernel)
set_option maxRecDepth 65536 in
theorem w_c55 : (Jvm.Cond.code ({ cls := "java/lang/StringUTF16", name := "checkBoundsOffCount", desc := "(II[B)V" } : Jvm.MethodName) jdk_52_method_94_code (3 : Nat) (Option.none : Option Jvm.ClassFile.FieldType)).before args0 about1 = true := code_word (m := ⟨8, 14⟩) (meth := k8m14) (c := k8c14) (by decide +kernel) rfl rfl rfl (by decide +kernel)
set_option maxRecDepth 65536 in
theorem w_c56 : (Jvm.Cond.code ({ cls := "java/lang/String", name := "checkBoundsOffCount", desc := "(III)I" } : Jvm.MethodName) jdk_42_method_157_code (3 : Nat) (Option.some Jvm.ClassFile.FieldType.int)).before args0 about1 = true := code_word (m := ⟨7, 11⟩) (meth := k7m11) (c := k7c11) (by decide +kernel) rfl rfl rfl (by decide +kernel)
set_option maxRecDepth 65536 in
theorem w_c57 : (Jvm.Cond.code ({ cls := "jdk/internal/util/Preconditions", name := "checkFromIndexSize", desc := "(IIILjava/util/function/BiFunction;)I" } : Jvm.MethodName) jdk_41_method_13_code (4 : Nat) (Option.some Jvm.ClassFile.FieldType.int)).before args0 about1 = true := code_word (m := ⟨14, 2⟩) (meth := k14m2) (c := k14c2) (by decide +kernel) rfl rfl rfl (by decide +kernel)
set_option maxRecDepth 65536 in
theorem w_c58 : (Jvm.Cond.code ({ cls := "java/lang/StringUTF16", name := "putCharSB", desc := "([BII)V" } : Jvm.MethodName) jdk_52_method_71_code (3 : Nat) (Option.none : Option Jvm.ClassFile.FieldType)).before args0 about1 = true := code_word (m := ⟨8, 10⟩) (meth := k8m10) (c := k8c10) (by decide +kernel) rfl rfl rfl (by decide +kernel)
def codes1 : List Jvm.Cond := [Jvm.Cond.code x code maxLocals ret, Jvm.Cond.code ({ cls := "java/lang/String", name := "<init>", desc := "([C)V" } : Jvm.MethodName) jdk_42_method_3_code (2 : Nat) (Option.none : Option Jvm.ClassFile.FieldType), Jvm.Cond.code ({ cls := "java/lang/String", name := "<init>", desc := "([CIILjava/lang/Void;)V" } : Jvm.MethodName) jdk_42_method_149_code (6 : Nat) (Option.none : Option Jvm.ClassFile.FieldType), Jvm.Cond.code ({ cls := "java/lang/Object", name := "<init>", desc := "()V" } : Jvm.MethodName) object_method_1_code (1 : Nat) (Option.none : Option Jvm.ClassFile.FieldType), Jvm.Cond.code ({ cls := "java/lang/StringUTF16", name := "compress", desc := "([CII)[B" } : Jvm.MethodName) jdk_52_method_16_code (6 : Nat) (Option.some (Jvm.ClassFile.FieldType.array Jvm.ClassFile.FieldType.byte)), Jvm.Cond.code ({ cls := "java/lang/StringUTF16", name := "compress", desc := "([CI[BII)I" } : Jvm.MethodName) jdk_52_method_21_code (7 : Nat) (Option.some Jvm.ClassFile.FieldType.int), Jvm.Cond.code ({ cls := "java/lang/StringUTF16", name := "coderFromArrayLen", desc := "([BI)B" } : Jvm.MethodName) jdk_52_method_15_code (2 : Nat) (Option.some Jvm.ClassFile.FieldType.byte), Jvm.Cond.code ({ cls := "com/example/catchment/catchment/Json", name := "string", desc := "(Ljava/lang/String;)Ljava/lang/String;" } : Jvm.MethodName) prog_21_method_2_code (4 : Nat) (Option.some (Jvm.ClassFile.FieldType.object "java/lang/String")), Jvm.Cond.code ({ cls := "java/lang/String", name := "length", desc := "()I" } : Jvm.MethodName) jdk_42_method_54_code (1 : Nat) (Option.some Jvm.ClassFile.FieldType.int), Jvm.Cond.code ({ cls := "java/lang/String", name := "coder", desc := "()B" } : Jvm.MethodName) jdk_42_method_152_code (1 : Nat) (Option.some Jvm.ClassFile.FieldType.byte), Jvm.Cond.code ({ cls := "java/lang/StringBuilder", name := "<init>", desc := "(I)V" } : Jvm.MethodName) jdk_67_method_2_code (2 : Nat) (Option.none : Option Jvm.ClassFile.FieldType), Jvm.Cond.code ({ cls := "java/lang/AbstractStringBuilder", name := "<init>", desc := "(I)V" } : Jvm.MethodName) jdk_68_method_2_code (2 : Nat) (Option.none : Option Jvm.ClassFile.FieldType), Jvm.Cond.code ({ cls := "java/lang/StringBuilder", name := "append", desc := "(C)Ljava/lang/StringBuilder;" } : Jvm.MethodName) jdk_67_method_14_code (2 : Nat) (Option.some (Jvm.ClassFile.FieldType.object "java/lang/StringBuilder")), Jvm.Cond.code ({ cls := "java/lang/AbstractStringBuilder", name := "append", desc := "(C)Ljava/lang/AbstractStringBuilder;" } : Jvm.MethodName) jdk_68_method_31_code (2 : Nat) (Option.some (Jvm.ClassFile.FieldType.object "java/lang/AbstractStringBuilder")), Jvm.Cond.code ({ cls := "java/lang/AbstractStringBuilder", name := "ensureCapacityInternal", desc := "(I)V" } : Jvm.MethodName) jdk_68_method_9_code (3 : Nat) (Option.none : Option Jvm.ClassFile.FieldType), Jvm.Cond.code ({ cls := "java/lang/AbstractStringBuilder", name := "isLatin1", desc := "()Z" } : Jvm.MethodName) jdk_68_method_68_code (1 : Nat) (Option.some Jvm.ClassFile.FieldType.boolean), Jvm.Cond.code ({ cls := "java/lang/StringLatin1", name := "canEncode", desc := "(C)Z" } : Jvm.MethodName) jdk_43_method_3_code (1 : Nat) (Option.some Jvm.ClassFile.FieldType.boolean), Jvm.Cond.code ({ cls := "java/lang/String", name := "charAt", desc := "(I)C" } : Jvm.MethodName) jdk_42_method_56_code (2 : Nat) (Option.some Jvm.ClassFile.FieldType.char), Jvm.Cond.code ({ cls := "java/lang/String", name := "isLatin1", desc := "()Z" } : Jvm.MethodName) jdk_42_method_154_code (1 : Nat) (Option.some Jvm.ClassFile.FieldType.boolean), Jvm.Cond.code ({ cls := "java/lang/StringLatin1", name := "charAt", desc := "([BI)C" } : Jvm.MethodName) jdk_43_method_2_code (2 : Nat) (Option.some Jvm.ClassFile.FieldType.char), Jvm.Cond.code ({ cls := "java/lang/String", name := "checkIndex", desc := "(II)V" } : Jvm.MethodName) jdk_42_method_155_code (2 : Nat) (Option.none : Option Jvm.ClassFile.FieldType), Jvm.Cond.code ({ cls := "jdk/internal/util/Preconditions", name := "checkIndex", desc := "(IILjava/util/function/BiFunction;)I" } : Jvm.MethodName) jdk_41_method_11_code (3 : Nat) (Option.some Jvm.ClassFile.FieldType.int), Jvm.Cond.code ({ cls := "java/lang/StringBuilder", name := "append", desc := "(Ljava/lang/String;)Ljava/lang/StringBuilder;" } : Jvm.MethodName) jdk_67_method_7_code (2 : Nat) (Option.some (Jvm.ClassFile.FieldType.object "java/lang/StringBuilder")), Jvm.Cond.code ({ cls := "java/lang/AbstractStringBuilder", name := "append", desc := "(Ljava/lang/String;)Ljava/lang/AbstractStringBuilder;" } : Jvm.MethodName) jdk_68_method_22_code (3 : Nat) (Option.some (Jvm.ClassFile.FieldType.object "java/lang/AbstractStringBuilder")), Jvm.Cond.code ({ cls := "java/lang/AbstractStringBuilder", name := "newCapacity", desc := "(I)I" } : Jvm.MethodName) jdk_68_method_10_code (6 : Nat) (Option.some Jvm.ClassFile.FieldType.int), Jvm.Cond.code ({ cls := "jdk/internal/util/ArraysSupport", name := "newLength", desc := "(III)I" } : Jvm.MethodName) jdk_48_method_27_code (4 : Nat) (Option.some Jvm.ClassFile.FieldType.int), Jvm.Cond.code ({ cls := "java/lang/Math", name := "max", desc := "(II)I" } : Jvm.MethodName) jdk_29_method_65_code (2 : Nat) (Option.some Jvm.ClassFile.FieldType.int), Jvm.Cond.code ({ cls := "java/util/Arrays", name := "copyOf", desc := "([BI)[B" } : Jvm.MethodName) jdk_65_method_121_code (3 : Nat) (Option.some (Jvm.ClassFile.FieldType.array Jvm.ClassFile.FieldType.byte)), Jvm.Cond.code ({ cls := "java/lang/Math", name := "min", desc := "(II)I" } : Jvm.MethodName) jdk_29_method_69_code (2 : Nat) (Option.some Jvm.ClassFile.FieldType.int), Jvm.Cond.code ({ cls := "java/lang/AbstractStringBuilder", name := "putStringAt", desc := "(ILjava/lang/String;)V" } : Jvm.MethodName) jdk_68_method_73_code (3 : Nat) (Option.none : Option Jvm.ClassFile.FieldType), Jvm.Cond.code ({ cls := "java/lang/AbstractStringBuilder", name := "inflateIfNeededFor", desc := "(Ljava/lang/String;)V" } : Jvm.MethodName) jdk_68_method_71_code (2 : Nat) (Option.none : Option Jvm.ClassFile.FieldType), Jvm.Cond.code ({ cls := "java/lang/String", name := "getBytes", desc := "([BIB)V" } : Jvm.MethodName) jdk_42_method_147_code (4 : Nat) (Option.none : Option Jvm.ClassFile.FieldType), Jvm.Cond.code ({ cls := "java/lang/StringBuilder", name := "toString", desc := "()Ljava/lang/String;" } : Jvm.MethodName) jdk_67_method_42_code (1 : Nat) (Option.some (Jvm.ClassFile.FieldType.object "java/lang/String")), Jvm.Cond.code ({ cls := "java/lang/String", name := "<init>", desc := "(Ljava/lang/StringBuilder;)V" } : Jvm.MethodName) jdk_42_method_53_code (2 : Nat) (Option.none : Option Jvm.ClassFile.FieldType), Jvm.Cond.code ({ cls := "java/lang/String", name := "<init>", desc := "(Ljava/lang/AbstractStringBuilder;Ljava/lang/Void;)V" } : Jvm.MethodName) jdk_42_method_150_code (5 : Nat) (Option.none : Option Jvm.ClassFile.FieldType), Jvm.Cond.code ({ cls := "java/lang/AbstractStringBuilder", name := "getValue", desc := "()[B" } : Jvm.MethodName) jdk_68_method_64_code (1 : Nat) (Option.some (Jvm.ClassFile.FieldType.array Jvm.ClassFile.FieldType.byte)), Jvm.Cond.code ({ cls := "java/lang/StringBuilder", name := "length", desc := "()I" } : Jvm.MethodName) jdk_67_method_93_code (1 : Nat) (Option.some Jvm.ClassFile.FieldType.int), Jvm.Cond.code ({ cls := "java/lang/AbstractStringBuilder", name := "length", desc := "()I" } : Jvm.MethodName) jdk_68_method_6_code (1 : Nat) (Option.some Jvm.ClassFile.FieldType.int), Jvm.Cond.code ({ cls := "java/util/Arrays", name := "copyOfRange", desc := "([BII)[B" } : Jvm.MethodName) jdk_65_method_132_code (3 : Nat) (Option.some (Jvm.ClassFile.FieldType.array Jvm.ClassFile.FieldType.byte)), Jvm.Cond.code ({ cls := "com/example/catchment/catchment/JsonStringPinLaw", name := "enc", desc := "(C)I" } : Jvm.MethodName) method_3_code (1 : Nat) (Option.some Jvm.ClassFile.FieldType.int), Jvm.Cond.code ({ cls := "com/example/catchment/catchment/JsonStringPinLaw", name := "at", desc := "(Ljava/lang/String;IC)Z" } : Jvm.MethodName) method_5_code (3 : Nat) (Option.some Jvm.ClassFile.FieldType.boolean), Jvm.Cond.code ({ cls := "com/example/catchment/catchment/JsonStringPinLaw", name := "hex", desc := "(I)C" } : Jvm.MethodName) method_4_code (1 : Nat) (Option.some Jvm.ClassFile.FieldType.char), Jvm.Cond.code ({ cls := "java/util/Arrays", name := "copyOfRangeByte", desc := "([BII)[B" } : Jvm.MethodName) jdk_65_method_133_code (5 : Nat) (Option.some (Jvm.ClassFile.FieldType.array Jvm.ClassFile.FieldType.byte)), Jvm.Cond.code ({ cls := "java/util/Arrays", name := "checkLength", desc := "(II)V" } : Jvm.MethodName) jdk_65_method_131_code (2 : Nat) (Option.none : Option Jvm.ClassFile.FieldType), Jvm.Cond.code ({ cls := "java/lang/StringUTF16", name := "toBytes", desc := "([CII)[B" } : Jvm.MethodName) jdk_52_method_14_code (5 : Nat) (Option.some (Jvm.ClassFile.FieldType.array Jvm.ClassFile.FieldType.byte)), Jvm.Cond.code ({ cls := "java/lang/StringUTF16", name := "newBytesFor", desc := "(I)[B" } : Jvm.MethodName) jdk_52_method_2_code (1 : Nat) (Option.some (Jvm.ClassFile.FieldType.array Jvm.ClassFile.FieldType.byte)), Jvm.Cond.code ({ cls := "java/lang/StringUTF16", name := "newBytesLength", desc := "(I)I" } : Jvm.MethodName) jdk_52_method_3_code (1 : Nat) (Option.some Jvm.ClassFile.FieldType.int), Jvm.Cond.code ({ cls := "java/lang/StringUTF16", name := "putChar", desc := "([BII)V" } : Jvm.MethodName) jdk_52_method_4_code (3 : Nat) (Option.none : Option Jvm.ClassFile.FieldType), Jvm.Cond.code ({ cls := "java/lang/StringUTF16", name := "getChar", desc := "([BI)C" } : Jvm.MethodName) jdk_52_method_5_code (2 : Nat) (Option.some Jvm.ClassFile.FieldType.char), Jvm.Cond.code ({ cls := "java/lang/StringUTF16", name := "charAt", desc := "([BI)C" } : Jvm.MethodName) jdk_52_method_83_code (2 : Nat) (Option.some Jvm.ClassFile.FieldType.char), Jvm.Cond.code ({ cls := "java/lang/StringUTF16", name := "checkIndex", desc := "(I[B)V" } : Jvm.MethodName) jdk_52_method_91_code (2 : Nat) (Option.none : Option Jvm.ClassFile.FieldType), Jvm.Cond.code ({ cls := "java/lang/StringUTF16", name := "length", desc := "([B)I" } : Jvm.MethodName) jdk_52_method_6_code (1 : Nat) (Option.some Jvm.ClassFile.FieldType.int), Jvm.Cond.code ({ cls := "java/lang/AbstractStringBuilder", name := "inflate", desc := "()V" } : Jvm.MethodName) jdk_68_method_11_code (2 : Nat) (Option.none : Option Jvm.ClassFile.FieldType), Jvm.Cond.code ({ cls := "java/lang/StringLatin1", name := "inflate", desc := "([BI[BII)V" } : Jvm.MethodName) jdk_43_method_50_code (5 : Nat) (Option.none : Option Jvm.ClassFile.FieldType), Jvm.Cond.code ({ cls := "java/lang/StringUTF16", name := "inflate", desc := "([BI[BII)V" } : Jvm.MethodName) jdk_52_method_86_code (6 : Nat) (Option.none : Option Jvm.ClassFile.FieldType), Jvm.Cond.code ({ cls := "java/lang/StringUTF16", name := "checkBoundsOffCount", desc := "(II[B)V" } : Jvm.MethodName) jdk_52_method_94_code (3 : Nat) (Option.none : Option Jvm.ClassFile.FieldType), Jvm.Cond.code ({ cls := "java/lang/String", name := "checkBoundsOffCount", desc := "(III)I" } : Jvm.MethodName) jdk_42_method_157_code (3 : Nat) (Option.some Jvm.ClassFile.FieldType.int), Jvm.Cond.code ({ cls := "jdk/internal/util/Preconditions", name := "checkFromIndexSize", desc := "(IIILjava/util/function/BiFunction;)I" } : Jvm.MethodName) jdk_41_method_13_code (4 : Nat) (Option.some Jvm.ClassFile.FieldType.int), Jvm.Cond.code ({ cls := "java/lang/StringUTF16", name := "putCharSB", desc := "([BII)V" } : Jvm.MethodName) jdk_52_method_71_code (3 : Nat) (Option.none : Option Jvm.ClassFile.FieldType)]
set_option maxRecDepth 65536 in
theorem codes_eq : words1.filter isCode = codes1 := rfl
theorem w_codes : ∀ c ∈ words1.filter isCode, c.before args0 about1 = true := by
  rw [codes_eq]
  intro c hc
  simp only [codes1, List.mem_cons, List.not_mem_nil, or_false] at hc
  rcases hc with rfl | rfl | rfl | rfl | rfl | rfl | rfl | rfl | rfl | rfl | rfl | rfl | rfl | rfl | rfl | rfl | rfl | rfl | rfl | rfl | rfl | rfl | rfl | rfl | rfl | rfl | rfl | rfl | rfl | rfl | rfl | rfl | rfl | rfl | rfl | rfl | rfl | rfl | rfl | rfl | rfl | rfl | rfl | rfl | rfl | rfl | rfl | rfl | rfl | rfl | rfl | rfl | rfl | rfl | rfl | rfl | rfl | rfl | rfl
  · exact w_c0
  · exact w_c1
  · exact w_c2
  · exact w_c3
  · exact w_c4
  · exact w_c5
  · exact w_c6
  · exact w_c7
  · exact w_c8
  · exact w_c9
  · exact w_c10
  · exact w_c11
  · exact w_c12
  · exact w_c13
  · exact w_c14
  · exact w_c15
  · exact w_c16
  · exact w_c17
  · exact w_c18
  · exact w_c19
  · exact w_c20
  · exact w_c21
  · exact w_c22
  · exact w_c23
  · exact w_c24
  · exact w_c25
  · exact w_c26
  · exact w_c27
  · exact w_c28
  · exact w_c29
  · exact w_c30
  · exact w_c31
  · exact w_c32
  · exact w_c33
  · exact w_c34
  · exact w_c35
  · exact w_c36
  · exact w_c37
  · exact w_c38
  · exact w_c39
  · exact w_c40
  · exact w_c41
  · exact w_c42
  · exact w_c43
  · exact w_c44
  · exact w_c45
  · exact w_c46
  · exact w_c47
  · exact w_c48
  · exact w_c49
  · exact w_c50
  · exact w_c51
  · exact w_c52
  · exact w_c53
  · exact w_c54
  · exact w_c55
  · exact w_c56
  · exact w_c57
  · exact w_c58
set_option maxRecDepth 65536 in
theorem w_t1 : (words1.take 24).all (fun c => isCode c || c.before args0 about1) = true := by decide +kernel
set_option maxRecDepth 65536 in
theorem w_t2 : ((words1.drop 24).take 24).all (fun c => isCode c || c.before args0 about1) = true := by decide +kernel
set_option maxRecDepth 65536 in
theorem w_t3 : (((words1.drop 24).drop 24).take 24).all (fun c => isCode c || c.before args0 about1) = true := by decide +kernel
set_option maxRecDepth 65536 in
theorem w_t4 : ((((words1.drop 24).drop 24).drop 24).take 24).all (fun c => isCode c || c.before args0 about1) = true := by decide +kernel
set_option maxRecDepth 65536 in
theorem w_t5 : (((((words1.drop 24).drop 24).drop 24).drop 24).take 24).all (fun c => isCode c || c.before args0 about1) = true := by decide +kernel
set_option maxRecDepth 65536 in
theorem w_t6 : ((((((words1.drop 24).drop 24).drop 24).drop 24).drop 24).take 24).all (fun c => isCode c || c.before args0 about1) = true := by decide +kernel
set_option maxRecDepth 65536 in
theorem w_t7 : (((((((words1.drop 24).drop 24).drop 24).drop 24).drop 24).drop 24).take 24).all (fun c => isCode c || c.before args0 about1) = true := by decide +kernel
set_option maxRecDepth 65536 in
theorem w_t8 : ((((((((words1.drop 24).drop 24).drop 24).drop 24).drop 24).drop 24).drop 24).take 24).all (fun c => isCode c || c.before args0 about1) = true := by decide +kernel
set_option maxRecDepth 65536 in
theorem w_t9 : (((((((((words1.drop 24).drop 24).drop 24).drop 24).drop 24).drop 24).drop 24).drop 24).take 24).all (fun c => isCode c || c.before args0 about1) = true := by decide +kernel
set_option maxRecDepth 65536 in
theorem w_t10 : ((((((((((words1.drop 24).drop 24).drop 24).drop 24).drop 24).drop 24).drop 24).drop 24).drop 24).take 24).all (fun c => isCode c || c.before args0 about1) = true := by decide +kernel
set_option maxRecDepth 65536 in
theorem w_t11 : (((((((((((words1.drop 24).drop 24).drop 24).drop 24).drop 24).drop 24).drop 24).drop 24).drop 24).drop 24).take 24).all (fun c => isCode c || c.before args0 about1) = true := by decide +kernel
set_option maxRecDepth 65536 in
theorem w_t12 : (((((((((((words1.drop 24).drop 24).drop 24).drop 24).drop 24).drop 24).drop 24).drop 24).drop 24).drop 24).drop 24).all (fun c => isCode c || c.before args0 about1) = true := by decide +kernel
theorem w_tables : (allAtoms (Jvm.Cond.code x code maxLocals ret :: tables_1)).before args0 about1 = true := by
  rw [allAtoms_all]
  show words1.all (fun c => c.before args0 about1) = true
  refine all_split ?_ w_codes
  rw [← List.take_append_drop 24 words1, List.all_append, w_t1, ← List.take_append_drop 24 (words1.drop 24), List.all_append, w_t2, ← List.take_append_drop 24 ((words1.drop 24).drop 24), List.all_append, w_t3, ← List.take_append_drop 24 (((words1.drop 24).drop 24).drop 24), List.all_append, w_t4, ← List.take_append_drop 24 ((((words1.drop 24).drop 24).drop 24).drop 24), List.all_append, w_t5, ← List.take_append_drop 24 (((((words1.drop 24).drop 24).drop 24).drop 24).drop 24), List.all_append, w_t6, ← List.take_append_drop 24 ((((((words1.drop 24).drop 24).drop 24).drop 24).drop 24).drop 24), List.all_append, w_t7, ← List.take_append_drop 24 (((((((words1.drop 24).drop 24).drop 24).drop 24).drop 24).drop 24).drop 24), List.all_append, w_t8, ← List.take_append_drop 24 ((((((((words1.drop 24).drop 24).drop 24).drop 24).drop 24).drop 24).drop 24).drop 24), List.all_append, w_t9, ← List.take_append_drop 24 (((((((((words1.drop 24).drop 24).drop 24).drop 24).drop 24).drop 24).drop 24).drop 24).drop 24), List.all_append, w_t10, ← List.take_append_drop 24 ((((((((((words1.drop 24).drop 24).drop 24).drop 24).drop 24).drop 24).drop 24).drop 24).drop 24).drop 24), List.all_append, w_t11, w_t12]
  rfl
set_option maxRecDepth 65536 in
theorem w_rest : rest_1_c.before args0 about1 = true := by decide +kernel
set_option maxRecDepth 65536 in
theorem w_case : (Jvm.Cond.and given_1 narrow_1).before args0 about1 = true := by decide +kernel
set_option maxRecDepth 65536 in
theorem w_consts : constsHeld consts_1 about1 := Jvm.Lit.constsHeldB_iff.mp (by decide +kernel)
theorem w_applies : (headSpec (Jvm.Cond.code x code maxLocals ret :: tables_1) room_1).applies x e0.platform about1 = true :=
  (Spec.applies_iff w_frames).mpr ⟨w_running, w_runnable, w_alone, w_named, w_hears, w_ripe, w_room, w_tables⟩
theorem atStart : AtStart classFile x code maxLocals ret World_1 tables_1 room_1 Calls_1 rest_1 Pre_1 launch0 p0 e0 about1 theMethod args0 below0 :=
  ⟨lists_1, trivial, launch0.admits_env _ _ _, launch0.least_env, fairChoices_fair.cas, fairChoices_fair.clock, w_frames, w_args, w_heap, w_applies, ⟨w_consts, trivial⟩, w_rest, w_case⟩
end start1
theorem witness_1 : WitnessClaimed_1 := ⟨start1.p0, start1.e0, start1.about1, start1.theMethod, start1.args0, start1.below0, start1.atStart⟩
end Jvm.Pilot.@@N@@
