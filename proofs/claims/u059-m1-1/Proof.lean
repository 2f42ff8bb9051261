import JvmDerived
import JvmDerived.Pilot.@@N@@Statement
import JvmDerived.Pilot.@@N@@Code
set_option linter.unusedVariables false
set_option linter.unusedSimpArgs false
namespace Jvm.RoadKit
open Sem ClassFile Op Lib Jvm.Stand Jvm.Free Jvm.LawKit
section New
variable {p : Program} {l : Launch} {e : Env} {R : Room} {s : State} {m : MethodId} {args : Array Value} {below : List Frame} {meth : Method} {c : Code} {T : State} {locs : List Loc} {cells slots : Nat}
theorem retI (X : Stand p l e R s m args below meth c T locs cells slots) (hx : p.tables.exec = Jvm.exec) {pc : Nat} {Ls : Array Slot} {z : Int32} {rest : List Value} (hret : meth.sig.returnType = some .int) (hd : decode c.code pc = .ok (.ireturn, 1)) {fs : List Frame}
    (hl : ∀ (f : JFrame) (acts : List Action), f.method = m → f.locked = none → f.entered = [] → (doReturn e (T.setTop f) acts (some (.int z))).1 = T.setFrames fs) : Steps p.tables e below (T.setTop (mkF m pc Ls (.int z :: rest))) (T.setFrames fs) := by
  have hm' : T.vm.method? m = some meth := X.method'
  have hn : narrow .int (.int z) = .int z := rfl
  show Steps p.tables e below (T.setTop { method := m, pc := pc, locals := Ls, stack := _ :: rest, locked := none }) _
  jvm_step X.here [X.here.top, hx, hd, hm', hret, hn]
  first | (intro acts; rw [hl _ acts rfl rfl rfl]) | rw [hl _ _ rfl rfl rfl]
  exact Steps.refl _
end New
end Jvm.RoadKit
namespace Jvm.Pilot.@@N@@
open Jvm Jvm.ClassFile Sem Op Lib Jvm.Free Jvm.Stand Jvm.LawKit Jvm.RoadKit Bundle Jvm.Pilot.@@N@@.Jvm.D
/-- what is left of a walk: from the frame f of T the run comes to its end, where Qe holds -/
def own_Rest (p : Program) (e : Env) (below : List Frame) (Qe : Outcome → State → Prop) (T : State) (f : JFrame) : Prop :=
  ∃ s₂ o, Steps p.tables e below (T.setTop f) s₂ ∧ s₂.status = .running ∧ Ended s₂ below o ∧ Qe o s₂
abbrev own_S (p : Program) (e : Env) (below : List Frame) (T : State) (f : JFrame) (t : State) : Prop := Steps p.tables e below (T.setTop f) t
abbrev own_G (p : Program) (e : Env) (below : List Frame) (T : State) (f : JFrame) (T0 : State) (f0 : JFrame) : Prop := ∀ t, own_S p e below T f t → own_S p e below T0 f0 t
theorem own_by {p : Program} {e : Env} {below : List Frame} {Qe : Outcome → State → Prop} {T T' : State} {f f' : JFrame}
    (h : ∀ t, Steps p.tables e below (T'.setTop f') t → Steps p.tables e below (T.setTop f) t) (k : own_Rest p e below Qe T' f') : own_Rest p e below Qe T f := by
  obtain ⟨s₂, o, h1, h2⟩ := k
  exact ⟨s₂, o, h _ h1, h2⟩
theorem own_at {p : Program} {e : Env} {below : List Frame} {Qe : Outcome → State → Prop} {T : State} {f f' : JFrame}
    (h : ∀ {t}, Steps p.tables e below (T.setTop f') t → Steps p.tables e below (T.setTop f) t) (k : own_Rest p e below Qe T f') :
    ∃ s₂ o, Steps p.tables e below (T.setTop f) s₂ ∧ s₂.status = .running ∧ Ended s₂ below o ∧ Qe o s₂ := by
  obtain ⟨s₂, o, h1, h2⟩ := k
  exact ⟨s₂, o, h h1, h2⟩
theorem own_w {a0 : Array Value} {Z : State} (hw : ∀ d ∈ tables_1, d.before a0 Z = true) {d : Jvm.Cond} (i : Nat) (h : tables_1[i]? = some d) : d.before a0 Z = true := hw d (List.mem_of_getElem? h)
theorem own_cat1 {v : Value} (h : v.isRef = true) : v.category = 1 := by cases v <;> simp_all [Value.isRef, Value.category]
theorem own_catr (a : Addr) : (Value.ref a).category = 1 := rfl
theorem own_catn : Value.null.category = 1 := rfl
theorem own_c255 (x : Int32) : ¬ (x &&& (255 : Int32)).toUInt32.toUInt16.toUInt32.toInt32 < 0 ∧ ¬ (255 : Int32) < (x &&& (255 : Int32)).toUInt32.toUInt16.toUInt32.toInt32 := by
  have h1 := c_mask x 255 8 (by decide) (by decide)
  have h2 := c_i2c (x &&& (255 : Int32))
  simp only [Int32.lt_iff_toInt_lt, Int32.reduceToInt]
  omega
theorem own_narc {z : Int32} (h : ¬ z < 0 ∧ ¬ (255 : Int32) < z) : nar .char z = z := by
  have h2 := c_i2c z
  obtain ⟨h3, h4⟩ := h
  simp only [Int32.lt_iff_toInt_lt, Int32.reduceToInt] at h3 h4
  have e : (nar .char z).toInt = z.toInt := by
    show z.toUInt32.toUInt16.toUInt32.toInt32.toInt = z.toInt
    omega
  exact Int32.toInt_inj.mp e
theorem own_nrb {z : Int32} (h : z = 0 ∨ z = 1) : narrow .boolean (.int z) = .int z := by rcases h with rfl | rfl <;> rfl
theorem own_ftb {z : Int32} (h : z = 0 ∨ z = 1) : fits .boolean (.int z) = true := by rcases h with rfl | rfl <;> rfl
theorem own_eqi {t : Term} {n : Int32} {args : Array Value} {Z : State} (h : (Jvm.Cond.eq t (.int n)).value args Z none Z [] = some true) : t.eval args Z none [] Z = some (.int n) := by
  obtain ⟨x, y, h1, h2, h3, -⟩ := cmp_v (Or.inl h)
  have e : y = .int n := (Option.some.inj h2).symm
  subst e
  cases x <;> simp [Kin, Value.isRef] at h3
  rename_i z
  have : z = n := by simpa [Cond.value, h1, Term.eval] using h
  rw [h1, this]
theorem own_fld {t : Term} {n : Int32} {args : Array Value} {Z : State} {a : Addr} {C f d : String} (ev : t.eval args Z none [] Z = some (.ref a)) (h : (Jvm.Cond.eq (.field t C f d) (.int n)).value args Z none Z [] = some true) : Fld Z Z.heap a C f d (.int n) :=
  Fld.start ((fld_at ev).symm.trans (own_eqi h))
theorem own_nb {z : Int32} (h : z = 0 ∨ z = 1) : nar .boolean z = z := by rcases h with rfl | rfl <;> rfl
abbrev own_ADWUUUUUUUU (x0 : UInt64) : Array Slot := #[.val (.double x0), .second, .unset, .unset, .unset, .unset, .unset, .unset, .unset, .unset]
abbrev own_ADWJWUUUUUU (x0 : UInt64) (x2 : Int64) : Array Slot := #[.val (.double x0), .second, .val (.long x2), .second, .unset, .unset, .unset, .unset, .unset, .unset]
abbrev own_ADWJWJWUUUU (x0 : UInt64) (x2 : Int64) (x4 : Int64) : Array Slot := #[.val (.double x0), .second, .val (.long x2), .second, .val (.long x4), .second, .unset, .unset, .unset, .unset]
abbrev own_ADWJWJWJWUU (x0 : UInt64) (x2 : Int64) (x4 : Int64) (x6 : Int64) : Array Slot := #[.val (.double x0), .second, .val (.long x2), .second, .val (.long x4), .second, .val (.long x6), .second, .unset, .unset]
abbrev own_ADWJWJWJWJW (x0 : UInt64) (x2 : Int64) (x4 : Int64) (x6 : Int64) (x8 : Int64) : Array Slot := #[.val (.double x0), .second, .val (.long x2), .second, .val (.long x4), .second, .val (.long x6), .second, .val (.long x8), .second]
abbrev own_AFFFUUU (x0 : UInt32) (x1 : UInt32) (x2 : UInt32) : Array Slot := #[.val (.float x0), .val (.float x1), .val (.float x2), .unset, .unset, .unset]
abbrev own_AFFFIUU (x0 : UInt32) (x1 : UInt32) (x2 : UInt32) (x3 : Int32) : Array Slot := #[.val (.float x0), .val (.float x1), .val (.float x2), .val (.int x3), .unset, .unset]
abbrev own_AFFFIJW (x0 : UInt32) (x1 : UInt32) (x2 : UInt32) (x3 : Int32) (x4 : Int64) : Array Slot := #[.val (.float x0), .val (.float x1), .val (.float x2), .val (.int x3), .val (.long x4), .second]
abbrev own_ARIFFU (x0 : Addr) (x1 : Int32) (x2 : UInt32) (x3 : UInt32) : Array Slot := #[.val (.ref x0), .val (.int x1), .val (.float x2), .val (.float x3), .unset]
abbrev own_ARRRIUU (x0 : Addr) (x1 : Addr) (x2 : Addr) (x3 : Int32) : Array Slot := #[.val (.ref x0), .val (.ref x1), .val (.ref x2), .val (.int x3), .unset, .unset]
abbrev own_ARRRIIU (x0 : Addr) (x1 : Addr) (x2 : Addr) (x3 : Int32) (x4 : Int32) : Array Slot := #[.val (.ref x0), .val (.ref x1), .val (.ref x2), .val (.int x3), .val (.int x4), .unset]
abbrev own_ARRRIIF (x0 : Addr) (x1 : Addr) (x2 : Addr) (x3 : Int32) (x4 : Int32) (x5 : UInt32) : Array Slot := #[.val (.ref x0), .val (.ref x1), .val (.ref x2), .val (.int x3), .val (.int x4), .val (.float x5)]
abbrev own_ARUUUUU (x0 : Addr) : Array Slot := #[.val (.ref x0), .unset, .unset, .unset, .unset, .unset]
abbrev own_ARSSSSS (x0 : Addr) (x1 : Slot) (x2 : Slot) (x3 : Slot) (x4 : Slot) (x5 : Slot) : Array Slot := #[.val (.ref x0), x1, x2, x3, x4, x5]
abbrev own_ARIFFFI (x0 : Addr) (x1 : Int32) (x2 : UInt32) (x3 : UInt32) (x4 : UInt32) (x5 : Int32) : Array Slot := #[.val (.ref x0), .val (.int x1), .val (.float x2), .val (.float x3), .val (.float x4), .val (.int x5)]
abbrev own_ARISSSS (x0 : Addr) (x1 : Int32) (x2 : Slot) (x3 : Slot) (x4 : Slot) (x5 : Slot) : Array Slot := #[.val (.ref x0), .val (.int x1), x2, x3, x4, x5]
abbrev own_ARIFSSS (x0 : Addr) (x1 : Int32) (x2 : UInt32) (x3 : Slot) (x4 : Slot) (x5 : Slot) : Array Slot := #[.val (.ref x0), .val (.int x1), .val (.float x2), x3, x4, x5]
abbrev own_ARIFFSS (x0 : Addr) (x1 : Int32) (x2 : UInt32) (x3 : UInt32) (x4 : Slot) (x5 : Slot) : Array Slot := #[.val (.ref x0), .val (.int x1), .val (.float x2), .val (.float x3), x4, x5]
abbrev own_ARIFFFS (x0 : Addr) (x1 : Int32) (x2 : UInt32) (x3 : UInt32) (x4 : UInt32) (x5 : Slot) : Array Slot := #[.val (.ref x0), .val (.int x1), .val (.float x2), .val (.float x3), .val (.float x4), x5]
abbrev own_ARIRRR (x0 : Addr) (x1 : Int32) (x2 : Addr) (x3 : Addr) (x4 : Addr) : Array Slot := #[.val (.ref x0), .val (.int x1), .val (.ref x2), .val (.ref x3), .val (.ref x4)]
abbrev own_ARRIUU (x0 : Addr) (x1 : Addr) (x2 : Int32) : Array Slot := #[.val (.ref x0), .val (.ref x1), .val (.int x2), .unset, .unset]
abbrev own_ARRIRU (x0 : Addr) (x1 : Addr) (x2 : Int32) (x3 : Addr) : Array Slot := #[.val (.ref x0), .val (.ref x1), .val (.int x2), .val (.ref x3), .unset]
abbrev own_ARRIRI (x0 : Addr) (x1 : Addr) (x2 : Int32) (x3 : Addr) (x4 : Int32) : Array Slot := #[.val (.ref x0), .val (.ref x1), .val (.int x2), .val (.ref x3), .val (.int x4)]
abbrev own_AIIIIIUUUUUUUUUUUUUU (x0 : Int32) (x1 : Int32) (x2 : Int32) (x3 : Int32) (x4 : Int32) : Array Slot := #[.val (.int x0), .val (.int x1), .val (.int x2), .val (.int x3), .val (.int x4), .unset, .unset, .unset, .unset, .unset, .unset, .unset, .unset, .unset, .unset, .unset, .unset, .unset, .unset]
abbrev own_AIIIIIRUUUUUUUUUUUUU (x0 : Int32) (x1 : Int32) (x2 : Int32) (x3 : Int32) (x4 : Int32) (x5 : Addr) : Array Slot := #[.val (.int x0), .val (.int x1), .val (.int x2), .val (.int x3), .val (.int x4), .val (.ref x5), .unset, .unset, .unset, .unset, .unset, .unset, .unset, .unset, .unset, .unset, .unset, .unset, .unset]
abbrev own_AIIIIIRRUUUUUUUUUUUU (x0 : Int32) (x1 : Int32) (x2 : Int32) (x3 : Int32) (x4 : Int32) (x5 : Addr) (x6 : Addr) : Array Slot := #[.val (.int x0), .val (.int x1), .val (.int x2), .val (.int x3), .val (.int x4), .val (.ref x5), .val (.ref x6), .unset, .unset, .unset, .unset, .unset, .unset, .unset, .unset, .unset, .unset, .unset, .unset]
abbrev own_AIIIIIRRRUUUUUUUUUUU (x0 : Int32) (x1 : Int32) (x2 : Int32) (x3 : Int32) (x4 : Int32) (x5 : Addr) (x6 : Addr) (x7 : Addr) : Array Slot := #[.val (.int x0), .val (.int x1), .val (.int x2), .val (.int x3), .val (.int x4), .val (.ref x5), .val (.ref x6), .val (.ref x7), .unset, .unset, .unset, .unset, .unset, .unset, .unset, .unset, .unset, .unset, .unset]
abbrev own_AIIIIIRRRRUUUUUUUUUU (x0 : Int32) (x1 : Int32) (x2 : Int32) (x3 : Int32) (x4 : Int32) (x5 : Addr) (x6 : Addr) (x7 : Addr) (x8 : Addr) : Array Slot := #[.val (.int x0), .val (.int x1), .val (.int x2), .val (.int x3), .val (.int x4), .val (.ref x5), .val (.ref x6), .val (.ref x7), .val (.ref x8), .unset, .unset, .unset, .unset, .unset, .unset, .unset, .unset, .unset, .unset]
abbrev own_AIIIIIRRRRIUUUUUUUUU (x0 : Int32) (x1 : Int32) (x2 : Int32) (x3 : Int32) (x4 : Int32) (x5 : Addr) (x6 : Addr) (x7 : Addr) (x8 : Addr) (x9 : Int32) : Array Slot := #[.val (.int x0), .val (.int x1), .val (.int x2), .val (.int x3), .val (.int x4), .val (.ref x5), .val (.ref x6), .val (.ref x7), .val (.ref x8), .val (.int x9), .unset, .unset, .unset, .unset, .unset, .unset, .unset, .unset, .unset]
abbrev own_AIIIIIRRRRIRUUUUUUUU (x0 : Int32) (x1 : Int32) (x2 : Int32) (x3 : Int32) (x4 : Int32) (x5 : Addr) (x6 : Addr) (x7 : Addr) (x8 : Addr) (x9 : Int32) (x10 : Addr) : Array Slot := #[.val (.int x0), .val (.int x1), .val (.int x2), .val (.int x3), .val (.int x4), .val (.ref x5), .val (.ref x6), .val (.ref x7), .val (.ref x8), .val (.int x9), .val (.ref x10), .unset, .unset, .unset, .unset, .unset, .unset, .unset, .unset]
abbrev own_AIIIIIRRRRIRRUUUUUUU (x0 : Int32) (x1 : Int32) (x2 : Int32) (x3 : Int32) (x4 : Int32) (x5 : Addr) (x6 : Addr) (x7 : Addr) (x8 : Addr) (x9 : Int32) (x10 : Addr) (x11 : Addr) : Array Slot := #[.val (.int x0), .val (.int x1), .val (.int x2), .val (.int x3), .val (.int x4), .val (.ref x5), .val (.ref x6), .val (.ref x7), .val (.ref x8), .val (.int x9), .val (.ref x10), .val (.ref x11), .unset, .unset, .unset, .unset, .unset, .unset, .unset]
abbrev own_AIIIIIRRRRIRRRUUUUUU (x0 : Int32) (x1 : Int32) (x2 : Int32) (x3 : Int32) (x4 : Int32) (x5 : Addr) (x6 : Addr) (x7 : Addr) (x8 : Addr) (x9 : Int32) (x10 : Addr) (x11 : Addr) (x12 : Addr) : Array Slot := #[.val (.int x0), .val (.int x1), .val (.int x2), .val (.int x3), .val (.int x4), .val (.ref x5), .val (.ref x6), .val (.ref x7), .val (.ref x8), .val (.int x9), .val (.ref x10), .val (.ref x11), .val (.ref x12), .unset, .unset, .unset, .unset, .unset, .unset]
abbrev own_AIIIIIRRRRIRRRRUUUUU (x0 : Int32) (x1 : Int32) (x2 : Int32) (x3 : Int32) (x4 : Int32) (x5 : Addr) (x6 : Addr) (x7 : Addr) (x8 : Addr) (x9 : Int32) (x10 : Addr) (x11 : Addr) (x12 : Addr) (x13 : Addr) : Array Slot := #[.val (.int x0), .val (.int x1), .val (.int x2), .val (.int x3), .val (.int x4), .val (.ref x5), .val (.ref x6), .val (.ref x7), .val (.ref x8), .val (.int x9), .val (.ref x10), .val (.ref x11), .val (.ref x12), .val (.ref x13), .unset, .unset, .unset, .unset, .unset]
abbrev own_AIIIIIRRRRIRRRRRUUUU (x0 : Int32) (x1 : Int32) (x2 : Int32) (x3 : Int32) (x4 : Int32) (x5 : Addr) (x6 : Addr) (x7 : Addr) (x8 : Addr) (x9 : Int32) (x10 : Addr) (x11 : Addr) (x12 : Addr) (x13 : Addr) (x14 : Addr) : Array Slot := #[.val (.int x0), .val (.int x1), .val (.int x2), .val (.int x3), .val (.int x4), .val (.ref x5), .val (.ref x6), .val (.ref x7), .val (.ref x8), .val (.int x9), .val (.ref x10), .val (.ref x11), .val (.ref x12), .val (.ref x13), .val (.ref x14), .unset, .unset, .unset, .unset]
abbrev own_AIIIIIRRRRIRRRRRRUUU (x0 : Int32) (x1 : Int32) (x2 : Int32) (x3 : Int32) (x4 : Int32) (x5 : Addr) (x6 : Addr) (x7 : Addr) (x8 : Addr) (x9 : Int32) (x10 : Addr) (x11 : Addr) (x12 : Addr) (x13 : Addr) (x14 : Addr) (x15 : Addr) : Array Slot := #[.val (.int x0), .val (.int x1), .val (.int x2), .val (.int x3), .val (.int x4), .val (.ref x5), .val (.ref x6), .val (.ref x7), .val (.ref x8), .val (.int x9), .val (.ref x10), .val (.ref x11), .val (.ref x12), .val (.ref x13), .val (.ref x14), .val (.ref x15), .unset, .unset, .unset]
abbrev own_AIIIIIRRRRIRRRRRRRUU (x0 : Int32) (x1 : Int32) (x2 : Int32) (x3 : Int32) (x4 : Int32) (x5 : Addr) (x6 : Addr) (x7 : Addr) (x8 : Addr) (x9 : Int32) (x10 : Addr) (x11 : Addr) (x12 : Addr) (x13 : Addr) (x14 : Addr) (x15 : Addr) (x16 : Addr) : Array Slot := #[.val (.int x0), .val (.int x1), .val (.int x2), .val (.int x3), .val (.int x4), .val (.ref x5), .val (.ref x6), .val (.ref x7), .val (.ref x8), .val (.int x9), .val (.ref x10), .val (.ref x11), .val (.ref x12), .val (.ref x13), .val (.ref x14), .val (.ref x15), .val (.ref x16), .unset, .unset]
abbrev own_AIIIIIRRRRIRRRRRRRRU (x0 : Int32) (x1 : Int32) (x2 : Int32) (x3 : Int32) (x4 : Int32) (x5 : Addr) (x6 : Addr) (x7 : Addr) (x8 : Addr) (x9 : Int32) (x10 : Addr) (x11 : Addr) (x12 : Addr) (x13 : Addr) (x14 : Addr) (x15 : Addr) (x16 : Addr) (x17 : Addr) : Array Slot := #[.val (.int x0), .val (.int x1), .val (.int x2), .val (.int x3), .val (.int x4), .val (.ref x5), .val (.ref x6), .val (.ref x7), .val (.ref x8), .val (.int x9), .val (.ref x10), .val (.ref x11), .val (.ref x12), .val (.ref x13), .val (.ref x14), .val (.ref x15), .val (.ref x16), .val (.ref x17), .unset]
abbrev own_AIIIIIRRRRIRRRRRRRRR (x0 : Int32) (x1 : Int32) (x2 : Int32) (x3 : Int32) (x4 : Int32) (x5 : Addr) (x6 : Addr) (x7 : Addr) (x8 : Addr) (x9 : Int32) (x10 : Addr) (x11 : Addr) (x12 : Addr) (x13 : Addr) (x14 : Addr) (x15 : Addr) (x16 : Addr) (x17 : Addr) (x18 : Addr) : Array Slot := #[.val (.int x0), .val (.int x1), .val (.int x2), .val (.int x3), .val (.int x4), .val (.ref x5), .val (.ref x6), .val (.ref x7), .val (.ref x8), .val (.int x9), .val (.ref x10), .val (.ref x11), .val (.ref x12), .val (.ref x13), .val (.ref x14), .val (.ref x15), .val (.ref x16), .val (.ref x17), .val (.ref x18)]
open Jvm.Free.Fl
open Jvm.FP Jvm.FP.Core in
theorem own_d2f_fin {a : UInt64} (h : a.toNat % 2 ^ 63 < 1100 * 2 ^ 52) : FFin (Jvm.FP.Core.d2f a) := by
  obtain ⟨s, c, q, h1, h2⟩ := mag_bits h (by decide)
  have hv := val32_d2f a
  rw [h1] at hv
  have hfit := h1 ▸ val64_fits a
  have hr : round b32 (.fin s c q) = roundRatio b32 s c 1 q := rfl
  rw [hr] at hv
  have hm : mag b32 (Jvm.FP.Core.d2f a).toNat ≤ 254 * 2 ^ 23 := by
    refine mag_le good_b32 (m := 254 * 2 ^ 23) (e0 := b64.qmin) hv (by decide) (by decide) hfit.2.1 ?_
    have hu : unitsOf b32 (254 * 2 ^ 23) = 2 ^ 23 * 2 ^ 253 := by decide +kernel
    rw [hu]
    have hq : (b32.qmin - b64.qmin).toNat = 925 := by decide +kernel
    rw [hq]
    unfold inUnits
    have : (2 : Nat) ^ 52 * 2 ^ (1100 - 1) ≤ 2 ^ 23 * 2 ^ 253 * 2 ^ 925 * 1 := by decide +kernel
    omega
  rw [fin_bits32]
  rw [mag_toNat32] at hm
  omega
open Jvm.Free.Fl
theorem own_zero32 {f : UInt32} (e : ¬ Nz32 f) : f = 0 ∨ f = 0x80000000 := by
  have e := Classical.not_not.mp e
  have := congrArg UInt32.toNat e
  rw [UInt32.toNat_and] at this
  have h3 : f.toNat &&& 2147483647 = f.toNat % 2147483648 := Nat.and_two_pow_sub_one_eq_mod f.toNat 31
  have h4 : f.toNat < 4294967296 := f.toNat_lt
  have h5 : f.toNat % 2147483648 = 0 := by rw [← h3]; exact this
  rcases (by omega : f.toNat = 0 ∨ f.toNat = 2147483648) with h6 | h6
  · exact Or.inl (UInt32.toNat_inj.mp h6)
  · exact Or.inr (UInt32.toNat_inj.mp h6)
theorem own_zero64 {f : UInt64} (e : ¬ Nz64 f) : f = 0 ∨ f = 0x8000000000000000 := by
  have e := Classical.not_not.mp e
  have := congrArg UInt64.toNat e
  rw [UInt64.toNat_and] at this
  have h3 : f.toNat &&& 9223372036854775807 = f.toNat % 9223372036854775808 := Nat.and_two_pow_sub_one_eq_mod f.toNat 63
  have h4 : f.toNat < 18446744073709551616 := f.toNat_lt
  have h5 : f.toNat % 9223372036854775808 = 0 := by rw [← h3]; exact this
  rcases (by omega : f.toNat = 0 ∨ f.toNat = 9223372036854775808) with h6 | h6
  · exact Or.inl (UInt64.toNat_inj.mp h6)
  · exact Or.inr (UInt64.toNat_inj.mp h6)
theorem own_f2dnz {f : UInt32} (h : Fin32 f) (hz : Nz32 f) : Nz64 (FP.f2d f) := by
  refine Classical.byContradiction fun q => ?_
  have h1 := fin32_core.mp h
  rw [FP.f2d_core h1.notNaN] at q
  have h2 := FP.Core.d2f_f2d (a := f) (val32_no.mp h.noNaN)
  rcases own_zero64 q with e | e <;> rw [e] at h2
  · exact hz (by rw [← h2]; decide +kernel)
  · exact hz (by rw [← h2]; decide +kernel)
theorem own_nz {f : UInt32} (h : Fin32 f) (q : (0 : Int32) < cmpValue (FP.fcmp f (0 : UInt32)) .l) : Nz64 (FP.f2d f) := by
  refine own_f2dnz h (Classical.byContradiction fun e => ?_)
  rcases own_zero32 e with e2 | e2 <;> rw [e2] at q <;> revert q <;> decide +kernel
theorem own_ddiv_fin {a : UInt64} {b : UInt64} (h : a.toNat % 2 ^ 63 < 1090 * 2 ^ 52) (hb : 1030 * 2 ^ 52 ≤ b.toNat % 2 ^ 63) (hb2 : b.toNat % 2 ^ 63 < 2047 * 2 ^ 52) : (FP.Core.ddiv a b).toNat % 2 ^ 63 < 1100 * 2 ^ 52 := by
  have := FP.Core.ddiv_mag (K := 1090) (L := 1030) h hb hb2 (by decide) (by decide)
  omega
open Jvm.RoadKit
def own_sh (f : UInt32) : Prop := ∃ a : Int64, B24 a ∧ f = FP.l2f a
def own_scale (lo hi : UInt32) : UInt32 := FP.d2f (FP.ddiv (FP.dsub (FP.f2d hi) (FP.f2d lo)) (4643176031446892544 : UInt64))
theorem own_sh.fin {f : UInt32} (h : own_sh f) : Fin32 f := by obtain ⟨a, -, rfl⟩ := h; exact l2f_fin a
theorem own_sh_i2f (x : Int32) : own_sh (FP.i2f x.toInt16.toInt32) := by
  refine ⟨x.toInt16.toInt32.toInt64, ?_, i2f_w _⟩
  have h1 := Int16.toInt_lt x.toInt16; have h2 := Int16.le_toInt x.toInt16
  have e : x.toInt16.toInt32.toInt64.toInt = x.toInt16.toInt := by simp
  constructor <;> (rw [e]; omega)
open Jvm.Native.java_lang_Math.nans in
theorem own_sh_pick {g : Bool} {a b : UInt32} (ha : own_sh a) (hb : own_sh b) : own_sh (pick32 g a b) := by rcases pick32_or g a b with h | h <;> rw [h] <;> assumption
open Jvm.Native.java_lang_Math.nans in
theorem own_pick_inf {b : UInt32} (hb : own_sh b) : pick32 false 2139095040 b = b := by
  have h := FP.Core.fin_lt_inf32 (fin32_core.mp hb.fin)
  unfold pick32
  rw [show FP.fcmp 2139095040 b = some .gt from h.2.2.1]
  rfl
open Jvm.Native.java_lang_Math.nans in
theorem own_pick_ninf {b : UInt32} (hb : own_sh b) : pick32 true 4286578688 b = b := by
  have h := FP.Core.fin_lt_inf32 (fin32_core.mp hb.fin)
  unfold pick32
  rw [show FP.fcmp 4286578688 b = some .lt from h.2.2.2]
  rfl
theorem own_scale_fin {lo hi : UInt32} (h1 : own_sh lo) (h2 : own_sh hi) : Fin32 (own_scale lo hi) := by
  obtain ⟨a, ha, rfl⟩ := h1
  obtain ⟨b, hb, rfl⟩ := h2
  unfold own_scale
  rw [f2d_w ha, f2d_w hb, dsub_w (b53_of24 hb) (b53_of24 ha)]
  have hm := FP.Core.l2d_mag (b - a)
  have hd : (FP.ddiv (FP.l2d (b - a)) 4643176031446892544).toNat % 2 ^ 63 < 1100 * 2 ^ 52 := own_ddiv_fin (Nat.lt_of_lt_of_le hm (by decide)) (by decide) (by decide)
  have hn : NoNaN64 (FP.ddiv (FP.l2d (b - a)) 4643176031446892544) := ddiv_out (l2d_fin _).noNaN (by unfold Fin64; decide) (by unfold Nz64; decide)
  rw [FP.d2f_core (noNaN64_no.mp hn)]
  exact fin32_core.mpr (own_d2f_fin hd)
theorem own_255f : Fin64 4643176031446892544 := by unfold Fin64; decide
theorem own_255z : Nz64 4643176031446892544 := by unfold Nz64; decide
def own_round (d0 : UInt64) : Int64 := (if (lcmpW (((1074 : Int64) - (((d0.toInt64) &&& (9218868437227405312 : Int64)) >>> ((52 : Int32) &&& 0x3f).toInt64)) &&& (-64 : Int64)) (0 : Int64)) = (0 : Int32) then (if (lcmpW (d0.toInt64) (0 : Int64)) < (0 : Int32) then ((((-(((d0.toInt64) &&& (4503599627370495 : Int64)) ||| (4503599627370496 : Int64))) >>> ((((1074 : Int64) - (((d0.toInt64) &&& (9218868437227405312 : Int64)) >>> ((52 : Int32) &&& 0x3f).toInt64)).toInt32) &&& 0x3f).toInt64) + (1 : Int64)) >>> ((1 : Int32) &&& 0x3f).toInt64) else ((((((d0.toInt64) &&& (4503599627370495 : Int64)) ||| (4503599627370496 : Int64)) >>> ((((1074 : Int64) - (((d0.toInt64) &&& (9218868437227405312 : Int64)) >>> ((52 : Int32) &&& 0x3f).toInt64)).toInt32) &&& 0x3f).toInt64) + (1 : Int64)) >>> ((1 : Int32) &&& 0x3f).toInt64)) else (FP.d2l d0))
def own_code (f0 f1 f2 : UInt32) : Int32 := if (0 : Int32) < (cmpValue (FP.fcmp f2 (0 : UInt32)) .l) then ((if (0 : Int32) < (lcmpW (255 : Int64) (own_round (FP.ddiv (FP.dsub (FP.f2d f0) (FP.f2d f1)) (FP.f2d f2)))) then (own_round (FP.ddiv (FP.dsub (FP.f2d f0) (FP.f2d f1)) (FP.f2d f2))) else (255 : Int64)).toInt32) else (0 : Int32)
abbrev own_E := Int32 × Int32 × UInt32 × UInt32 × UInt32
abbrev own_ND (tl th ts sl sh ss cS cD cL cH cC : Addr) : Prop := tl ≠ th ∧ tl ≠ ts ∧ tl ≠ sl ∧ tl ≠ sh ∧ tl ≠ ss ∧ tl ≠ cS ∧ tl ≠ cD ∧ tl ≠ cL ∧ tl ≠ cH ∧ tl ≠ cC ∧ th ≠ ts ∧ th ≠ sl ∧ th ≠ sh ∧ th ≠ ss ∧ th ≠ cS ∧ th ≠ cD ∧ th ≠ cL ∧ th ≠ cH ∧ th ≠ cC ∧ ts ≠ sl ∧ ts ≠ sh ∧ ts ≠ ss ∧ ts ≠ cS ∧ ts ≠ cD ∧ ts ≠ cL ∧ ts ≠ cH ∧ ts ≠ cC ∧ sl ≠ sh ∧ sl ≠ ss ∧ sl ≠ cS ∧ sl ≠ cD ∧ sl ≠ cL ∧ sl ≠ cH ∧ sl ≠ cC ∧ sh ≠ ss ∧ sh ≠ cS ∧ sh ≠ cD ∧ sh ≠ cL ∧ sh ≠ cH ∧ sh ≠ cC ∧ ss ≠ cS ∧ ss ≠ cD ∧ ss ≠ cL ∧ ss ≠ cH ∧ ss ≠ cC ∧ cS ≠ cD ∧ cS ≠ cL ∧ cS ≠ cH ∧ cS ≠ cC ∧ cD ≠ cL ∧ cD ≠ cH ∧ cD ≠ cC ∧ cL ≠ cH ∧ cL ≠ cC ∧ cH ≠ cC
def own_Q (Z : State) (h : Heap) (a tl th ts sl sh ss cS cD cL cH cC : Addr) (n : Int32) (l0 l1 u0 u1 s0 s1 : UInt32) (hist : List own_E) : Prop := ∃ (ktl kth kts ksl ksh kss kcS kcD kcL kcH kcC : ClassId) (g1 g2 : List Int32) (g3 g4 g5 : List UInt32), own_ND tl th ts sl sh ss cS cD cL cH cC ∧ (hist.length + g1.length = 16 ∧ hist.length + g2.length = 16 ∧ hist.length + g3.length = 16 ∧ hist.length + g4.length = 16 ∧ hist.length + g5.length = 16) ∧ Exa Z h a "com/example/reverie/reverie/ScalarQuantizer" ∧ Fld Z h a "com/example/reverie/reverie/ScalarQuantizer" "dimension" "I" (.int (2 : Int32)) ∧ Fld Z h a "com/example/reverie/reverie/ScalarQuantizer" "lows" "[F" (.ref tl) ∧ Fld Z h a "com/example/reverie/reverie/ScalarQuantizer" "highs" "[F" (.ref th) ∧ Fld Z h a "com/example/reverie/reverie/ScalarQuantizer" "scales" "[F" (.ref ts) ∧ Fld Z h a "com/example/reverie/reverie/ScalarQuantizer" "startLows" "[F" (.ref sl) ∧ Fld Z h a "com/example/reverie/reverie/ScalarQuantizer" "startHighs" "[F" (.ref sh) ∧ Fld Z h a "com/example/reverie/reverie/ScalarQuantizer" "startScales" "[F" (.ref ss) ∧ Fld Z h a "com/example/reverie/reverie/ScalarQuantizer" "changeStarts" "[I" (.ref cS) ∧ Fld Z h a "com/example/reverie/reverie/ScalarQuantizer" "changeDimensions" "[I" (.ref cD) ∧ Fld Z h a "com/example/reverie/reverie/ScalarQuantizer" "changeLows" "[F" (.ref cL) ∧ Fld Z h a "com/example/reverie/reverie/ScalarQuantizer" "changeHighs" "[F" (.ref cH) ∧ Fld Z h a "com/example/reverie/reverie/ScalarQuantizer" "changeScales" "[F" (.ref cC) ∧ Fld Z h a "com/example/reverie/reverie/ScalarQuantizer" "encodedCount" "I" (.int n) ∧ Fld Z h a "com/example/reverie/reverie/ScalarQuantizer" "changeCount" "I" (.int (Int32.ofNat hist.length)) ∧ Arv Z h tl ktl .float (2 : Int32) [(.float l0), (.float l1)] (.float (0 : UInt32)) ∧ Arv Z h th kth .float (2 : Int32) [(.float u0), (.float u1)] (.float (0 : UInt32)) ∧ Arv Z h ts kts .float (2 : Int32) [(.float s0), (.float s1)] (.float (0 : UInt32)) ∧ Arv Z h sl ksl .float (2 : Int32) [(.float (2139095040 : UInt32)), (.float (2139095040 : UInt32))] (.float (0 : UInt32)) ∧ Arv Z h sh ksh .float (2 : Int32) [(.float (4286578688 : UInt32)), (.float (4286578688 : UInt32))] (.float (0 : UInt32)) ∧ Arv Z h ss kss .float (2 : Int32) [(.float (0 : UInt32)), (.float (0 : UInt32))] (.float (0 : UInt32)) ∧ Arv Z h cS kcS .int (16 : Int32) ((hist.map (fun z : own_E => z.1) ++ g1).map Value.int) (.int (0 : Int32)) ∧ Arv Z h cD kcD .int (16 : Int32) ((hist.map (fun z : own_E => z.2.1) ++ g2).map Value.int) (.int (0 : Int32)) ∧ Arv Z h cL kcL .float (16 : Int32) ((hist.map (fun z : own_E => z.2.2.1) ++ g3).map Value.float) (.float (0 : UInt32)) ∧ Arv Z h cH kcH .float (16 : Int32) ((hist.map (fun z : own_E => z.2.2.2.1) ++ g4).map Value.float) (.float (0 : UInt32)) ∧ Arv Z h cC kcC .float (16 : Int32) ((hist.map (fun z : own_E => z.2.2.2.2) ++ g5).map Value.float) (.float (0 : UInt32))
theorem own_setk {α : Type} (f : own_E → α) (hist : List own_E) (g : List α) (ee : own_E) (F : α → Value) (hg : hist.length + g.length = 16) (hl : hist.length < 16) : ((hist.map f ++ g).map F).set hist.length (F (f ee)) = (((hist ++ [ee]).map f ++ g.tail).map F) := by
  cases g with
  | nil => simp at hg; omega
  | cons x g => simp [List.set_append]
theorem own_tl {α : Type} (hist : List own_E) (ee : own_E) (g : List α) (hg : hist.length + g.length = 16) (hl : hist.length < 16) : (hist ++ [ee]).length + g.tail.length = 16 := by
  simp; omega
theorem own_ofto {i : Nat} (h : i < 2147483648) : (Int32.ofNat i).toNatClampNeg = i := by
  simp only [Int32.toNatClampNeg, Int32.toInt_ofNat_small h]; omega
theorem own_of16 {i : Nat} (h : i < 16) : ¬ Int32.ofNat i < 0 ∧ Int32.ofNat i < (16 : Int32) := by
  rw [Int32.lt_iff_toInt_lt, Int32.lt_iff_toInt_lt, Int32.toInt_ofNat_small (by omega)]; simp only [Int32.reduceToInt]; omega
theorem own_ofne {i : Nat} (h : i < 16) : ¬ Int32.ofNat i = (16 : Int32) := by
  intro q; have := congrArg Int32.toInt q; rw [Int32.toInt_ofNat_small (by omega)] at this; simp only [Int32.reduceToInt] at this; omega
theorem own_ofsucc (hist : List own_E) (ee : own_E) : Int32.ofNat hist.length + (1 : Int32) = Int32.ofNat (hist ++ [ee]).length := by
  rw [List.length_append, List.length_singleton, Int32.ofNat_add]; rfl
def own_one (x : Slot) : Prop := x ≠ .second ∧ ∀ old, x = .val old → old.category ≠ 2
theorem own_one0 : own_one .unset := ⟨(fun q => nomatch q), (fun _ q => nomatch q)⟩
theorem own_one1 {v : Value} (h : v.category = 1) : own_one (.val v) := ⟨(fun q => nomatch q), fun old q => by cases q; rw [h]; decide⟩
theorem own_sto {l l' : Array Slot} {i : Nat} {x : Slot} {v : Value} (hx : l[i]? = some x) (o : own_one x) (hc : v.category = 1) (hl : l.setIfInBounds i (.val v) = l') : storeLocals l i v = some l' := by
  have hi : i < l.size := (Array.getElem?_eq_some_iff.mp hx).1
  have hs : storeSelf l i v = some l' := by simp [storeSelf, setAt, hi, hc, hl]
  cases x with
  | second => exact absurd rfl o.1
  | unset => simp [storeLocals, hx, hs]
  | val old => simp [storeLocals, hx, hs, o.2 old rfl]
theorem own_selp {s : State} {args : Array Value} {K : String} {y z : MethodName} (hp : s.PrivateAt y) (hi : (Jvm.Cond.instanceMethod y).before args s = true) (hs : (Jvm.Cond.selects K z z).before args s = true) (hz : z.cls = y.cls) (hy : y.cls ≠ "java/lang/invoke/MethodHandle" ∧ y.cls ≠ "java/lang/invoke/VarHandle") : (Jvm.Cond.selects y.cls y y).before args s = true := by
  obtain ⟨c, r, m, q1, q2, q3, q4, mk, q5, q6⟩ := Cond.selects_spec hs
  exact selects_self_of_private (hz ▸ findClass_of_methodNamed q3) q5 q6 hp hi hy
theorem own_i2b2 (x : Int32) : x.toInt8.toInt32.toInt8.toInt32 = x.toInt8.toInt32 := by
  have a := c_i2b x; have b := c_i2b x.toInt8.toInt32
  exact Int32.toInt_inj.mp (by omega)
def own_out (v l u : UInt32) : Prop := (cmpValue (FP.fcmp v l) .g) < (0 : Int32) ∨ (0 : Int32) < (cmpValue (FP.fcmp v u) .l)
instance (v l u : UInt32) : Decidable (own_out v l u) := by unfold own_out; infer_instance
open Jvm.Native.java_lang_Math.nans in
def own_l (v l u : UInt32) : UInt32 := if own_out v l u then pick32 false l v else l
open Jvm.Native.java_lang_Math.nans in
def own_u (v l u : UInt32) : UInt32 := if own_out v l u then pick32 true u v else u
open Jvm.Native.java_lang_Math.nans in
def own_s (v l u s : UInt32) : UInt32 := if own_out v l u then own_scale (pick32 false l v) (pick32 true u v) else s
open Jvm.Native.java_lang_Math.nans in
def own_h (n i : Int32) (v l u : UInt32) (hist : List own_E) : List own_E := if own_out v l u then hist ++ [(n, i, pick32 false l v, pick32 true u v, own_scale (pick32 false l v) (pick32 true u v))] else hist
open Jvm.Native.java_lang_Math.nans in
theorem own_l_pos {v l u : UInt32} (h : own_out v l u) : own_l v l u = pick32 false l v := if_pos h
theorem own_l_neg {v l u : UInt32} (h : ¬ own_out v l u) : own_l v l u = l := if_neg h
open Jvm.Native.java_lang_Math.nans in
theorem own_u_pos {v l u : UInt32} (h : own_out v l u) : own_u v l u = pick32 true u v := if_pos h
theorem own_u_neg {v l u : UInt32} (h : ¬ own_out v l u) : own_u v l u = u := if_neg h
open Jvm.Native.java_lang_Math.nans in
theorem own_s_pos {v l u s : UInt32} (h : own_out v l u) : own_s v l u s = own_scale (pick32 false l v) (pick32 true u v) := if_pos h
theorem own_s_neg {v l u s : UInt32} (h : ¬ own_out v l u) : own_s v l u s = s := if_neg h
open Jvm.Native.java_lang_Math.nans in
theorem own_h_pos {n i : Int32} {v l u : UInt32} {hist : List own_E} (h : own_out v l u) : own_h n i v l u hist = hist ++ [(n, i, pick32 false l v, pick32 true u v, own_scale (pick32 false l v) (pick32 true u v))] := if_pos h
theorem own_h_neg {n i : Int32} {v l u : UInt32} {hist : List own_E} (h : ¬ own_out v l u) : own_h n i v l u hist = hist := if_neg h
theorem own_h_len {n d : Int32} {v l u : UInt32} {hist : List own_E} : (own_h n d v l u hist).length ≤ hist.length + 1 := by
  unfold own_h
  by_cases q : own_out v l u
  · rw [if_pos q]; simp
  · rw [if_neg q]; omega
def own_ok (l u s : UInt32) : Prop := (own_sh l ∧ own_sh u ∧ Fin32 s) ∨ (l = 2139095040 ∧ u = 4286578688)
theorem own_ok.in {v l u s : UInt32} (h : own_ok l u s) (hv : own_sh v) (q : ¬ own_out v l u) : own_sh l ∧ own_sh u ∧ Fin32 s := by
  rcases h with h | ⟨rfl, rfl⟩
  · exact h
  · exact absurd (Or.inl (by rw [fcmp_pinf hv.fin]; decide)) q
open Jvm.Native.java_lang_Math.nans in
theorem own_ok.pk {v l u s : UInt32} (h : own_ok l u s) (hv : own_sh v) : own_sh (pick32 false l v) ∧ own_sh (pick32 true u v) := by
  rcases h with h | ⟨rfl, rfl⟩
  · exact ⟨own_sh_pick h.1 hv, own_sh_pick h.2.1 hv⟩
  · rw [own_pick_inf hv, own_pick_ninf hv]; exact ⟨hv, hv⟩
theorem own_ok.nn {l u s : UInt32} (h : own_ok l u s) : NoNaN32 l ∧ NoNaN32 u := by
  rcases h with h | ⟨rfl, rfl⟩
  · exact ⟨h.1.fin.noNaN, h.2.1.fin.noNaN⟩
  · exact ⟨by unfold NoNaN32; decide, by unfold NoNaN32; decide⟩
def own_last (d : Int32) (hist : List own_E) : UInt32 × UInt32 × UInt32 := hist.foldl (fun a e => if e.2.1 = d then e.2.2 else a) ((2139095040 : UInt32), (4286578688 : UInt32), (0 : UInt32))
theorem own_last_nil (d : Int32) : own_last d [] = ((2139095040 : UInt32), (4286578688 : UInt32), (0 : UInt32)) := rfl
theorem own_last_yes {d : Int32} {hist : List own_E} {e : own_E} (h : e.2.1 = d) : own_last d (hist ++ [e]) = e.2.2 := by simp [own_last, h]
theorem own_last_no {d : Int32} {hist : List own_E} {e : own_E} (h : ¬ e.2.1 = d) : own_last d (hist ++ [e]) = own_last d hist := by simp [own_last, h]
theorem own_tk {hist : List own_E} {k : Nat} {e : own_E} (h : hist[k]? = some e) : hist.take (k + 1) = hist.take k ++ [e] := by
  obtain ⟨h1, rfl⟩ := List.getElem?_eq_some_iff.mp h
  rw [List.take_add_one, h]; rfl
def own_pop (n : Int32) (hist : List own_E) : List own_E := (hist.reverse.dropWhile (fun e => decide (e.1 = n))).reverse
theorem own_pop_nil (n : Int32) : own_pop n [] = [] := rfl
theorem own_pop_yes {n : Int32} {hist : List own_E} {e : own_E} (h : e.1 = n) : own_pop n (hist ++ [e]) = own_pop n hist := by simp [own_pop, h]
theorem own_pop_no {n : Int32} {hist : List own_E} {e : own_E} (h : ¬ e.1 = n) : own_pop n (hist ++ [e]) = hist ++ [e] := by simp [own_pop, h]
def own_dm (hist : List own_E) : Prop := ∀ e ∈ hist, e.2.1 = (0 : Int32) ∨ e.2.1 = (1 : Int32)
theorem own_dm.l {hist : List own_E} {e : own_E} (h : own_dm (hist ++ [e])) : own_dm hist := fun x hx => h x (List.mem_append_left _ hx)
theorem own_dm.r {hist : List own_E} {e : own_E} (h : own_dm (hist ++ [e])) : e.2.1 = (0 : Int32) ∨ e.2.1 = (1 : Int32) := h e (List.mem_append_right _ (List.mem_singleton.mpr rfl))
theorem own_snoc {hist : List own_E} {k : Nat} (h : hist.length = k + 1) : ∃ hs ee, hist = hs ++ [ee] := by
  rcases List.eq_nil_or_concat hist with rfl | ⟨a, b, q⟩
  · cases h
  · exact ⟨a, b, by rw [q]; simp⟩
theorem own_get {α : Type} (f : own_E → α) (F : α → Value) (hist : List own_E) (g : List α) (d : Value) {i : Nat} {j : Int32} {e : own_E} (hj : j = Int32.ofNat i) (h : hist[i]? = some e) (hi : i < 16) : ((hist.map f ++ g).map F).getD j.toNatClampNeg d = F (f e) := by
  subst hj
  have hl : i < hist.length := (List.getElem?_eq_some_iff.mp h).1
  rw [own_ofto (by omega), List.getD_eq_getElem?_getD, List.map_append, List.getElem?_append_left (by simpa using hl)]
  simp [h]
theorem own_get0 {α : Type} (f : own_E → α) (F : α → Value) (hist : List own_E) (x : α) (g : List α) (d : Value) {j : Int32} (hj : j = Int32.ofNat hist.length) (hi : hist.length < 16) : ((hist.map f ++ (x :: g)).map F).getD j.toNatClampNeg d = F x := by
  subst hj
  rw [own_ofto (by omega), List.getD_eq_getElem?_getD, List.map_append, List.getElem?_append_right (by simp)]
  simp
theorem own_shift {α : Type} (f : own_E → α) (hs : List own_E) (ee : own_E) (g : List α) : (hs ++ [ee]).map f ++ g = hs.map f ++ (f ee :: g) := by simp
theorem own_gsh {α : Type} {hs : List own_E} {ee : own_E} {g : List α} {x : α} (h : (hs ++ [ee]).length + g.length = 16) : hs.length + (x :: g).length = 16 := by
  simp at h ⊢; omega
theorem own_ofpred (hs : List own_E) (ee : own_E) : Int32.ofNat (hs ++ [ee]).length - (1 : Int32) = Int32.ofNat hs.length := by
  rw [← own_ofsucc hs ee]; exact Int32.add_sub_cancel _ _
theorem own_ofpos {i : Nat} (h : 0 < i) (q : i < 16) : (0 : Int32) < Int32.ofNat i := by
  rw [Int32.lt_iff_toInt_lt, Int32.toInt_ofNat_small (by omega)]; simp only [Int32.reduceToInt]; omega
theorem own_dec {i : Int32} {k : Nat} (h : i + 1 = Int32.ofNat (k + 1)) : i = Int32.ofNat k := by
  have e : Int32.ofNat (k + 1) = Int32.ofNat k + 1 := Int32.ofNat_add k 1
  rw [e] at h
  have q := congrArg (· - (1 : Int32)) h
  simpa [Int32.add_sub_cancel] using q
theorem own_dec0 {i : Int32} (h : i + 1 = Int32.ofNat 0) : i = (-1 : Int32) := by
  have q := congrArg (· - (1 : Int32)) h
  simpa [Int32.add_sub_cancel] using q
theorem own_down {i : Int32} {k : Nat} (h : i = Int32.ofNat k) : i + (-1 : Int32) + 1 = Int32.ofNat k := by
  rw [Int32.add_assoc, show ((-1 : Int32) + 1) = 0 from by decide, Int32.add_zero, h]
theorem own_up1 {i j : Int32} {k : Nat} (h : i = j - 1) (q : j = Int32.ofNat k) : i + 1 = Int32.ofNat k := by
  rw [h, Int32.sub_add_cancel, q]
def own_R (Z : State) (h : Heap) (a tl th ts sl sh ss cS cD cL cH cC : Addr) (n : Int32) (hist : List own_E) : Prop := ∃ l0 l1 u0 u1 s0 s1, own_last (0 : Int32) hist = (l0, u0, s0) ∧ own_last (1 : Int32) hist = (l1, u1, s1) ∧ own_Q Z h a tl th ts sl sh ss cS cD cL cH cC n l0 l1 u0 u1 s0 s1 hist
theorem own_nml {x : Addr} {L ws : List Addr} (n : ∀ x ∈ L, x ∉ ws) {i : Nat} (h : L[i]? = some x) : x ∉ ws := n x (List.mem_of_getElem? h)
set_option maxRecDepth 65536 in
theorem own_Q.keep {Z : State} {h h' : Heap} {a tl th ts sl sh ss cS cD cL cH cC : Addr} {n : Int32} {l0 l1 u0 u1 s0 s1 : UInt32} {hist : List own_E} {ws : List Addr} (Q : own_Q Z h a tl th ts sl sh ss cS cD cL cH cC n l0 l1 u0 u1 s0 s1 hist) (K : Keep h h' ws) (na : ∀ x ∈ [a, tl, th, ts, sl, sh, ss, cS, cD, cL, cH, cC], x ∉ ws) : own_Q Z h' a tl th ts sl sh ss cS cD cL cH cC n l0 l1 u0 u1 s0 s1 hist := by
  obtain ⟨ktl, kth, kts, ksl, ksh, kss, kcS, kcD, kcL, kcH, kcC, g1, g2, g3, g4, g5, ND, G, E_q, F_dim, F_tl, F_th, F_ts, F_sl, F_sh, F_ss, F_cS, F_cD, F_cL, F_cH, F_cC, F_ec, F_cc, A_tl, A_th, A_ts, A_sl, A_sh, A_ss, A_cS, A_cD, A_cL, A_cH, A_cC⟩ := Q
  have na0 : a ∉ ws := own_nml na (i := 0) rfl
  exact ⟨ktl, kth, kts, ksl, ksh, kss, kcS, kcD, kcL, kcH, kcC, g1, g2, g3, g4, g5, ND, G, E_q.keep K, F_dim.keep K na0, F_tl.keep K na0, F_th.keep K na0, F_ts.keep K na0, F_sl.keep K na0, F_sh.keep K na0, F_ss.keep K na0, F_cS.keep K na0, F_cD.keep K na0, F_cL.keep K na0, F_cH.keep K na0, F_cC.keep K na0, F_ec.keep K na0, F_cc.keep K na0, A_tl.keep K (own_nml na (i := 1) rfl), A_th.keep K (own_nml na (i := 2) rfl), A_ts.keep K (own_nml na (i := 3) rfl), A_sl.keep K (own_nml na (i := 4) rfl), A_sh.keep K (own_nml na (i := 5) rfl), A_ss.keep K (own_nml na (i := 6) rfl), A_cS.keep K (own_nml na (i := 7) rfl), A_cD.keep K (own_nml na (i := 8) rfl), A_cL.keep K (own_nml na (i := 9) rfl), A_cH.keep K (own_nml na (i := 10) rfl), A_cC.keep K (own_nml na (i := 11) rfl)⟩
set_option maxRecDepth 65536 in
theorem own_Q.lt {Z : State} {h : Heap} {a tl th ts sl sh ss cS cD cL cH cC : Addr} {n : Int32} {l0 l1 u0 u1 s0 s1 : UInt32} {hist : List own_E} (Q : own_Q Z h a tl th ts sl sh ss cS cD cL cH cC n l0 l1 u0 u1 s0 s1 hist) : ∀ x ∈ [a, tl, th, ts, sl, sh, ss, cS, cD, cL, cH, cC], x < h.size := by
  obtain ⟨ktl, kth, kts, ksl, ksh, kss, kcS, kcD, kcL, kcH, kcC, g1, g2, g3, g4, g5, ND, G, E_q, F_dim, F_tl, F_th, F_ts, F_sl, F_sh, F_ss, F_cS, F_cD, F_cL, F_cH, F_cC, F_ec, F_cc, A_tl, A_th, A_ts, A_sl, A_sh, A_ss, A_cS, A_cD, A_cL, A_cH, A_cC⟩ := Q
  exact allS E_q.lt (allS A_tl.lt (allS A_th.lt (allS A_ts.lt (allS A_sl.lt (allS A_sh.lt (allS A_ss.lt (allS A_cS.lt (allS A_cD.lt (allS A_cL.lt (allS A_cH.lt (allS A_cC.lt all0)))))))))))
theorem own_oflt {i j : Nat} (h : i < j) (q : j < 16) : Int32.ofNat i < Int32.ofNat j := by
  rw [Int32.lt_iff_toInt_lt, Int32.toInt_ofNat_small (by omega), Int32.toInt_ofNat_small (by omega)]; omega
theorem own_ofnlt {i j : Nat} (h : i = j) : ¬ Int32.ofNat i < Int32.ofNat j := by subst h; exact fun q => Int32.lt_irrefl q
theorem own_sti {st : List Int32} {x : Int32} (h : x ∈ st) : True := trivial
def own_dv (m c : UInt32) (b : Int32) : UInt32 := FP.d2f (FP.dadd (FP.dmul (FP.i2d (b &&& (255 : Int32))) (FP.f2d c)) (FP.f2d m))
theorem own_dvn {m c : UInt32} {b : Int32} (hm : Fin32 m) (hc : Fin32 c) : NoNaN32 (FP.d2f (FP.dadd (FP.dmul (FP.i2d (b &&& (255 : Int32))) (FP.f2d c)) (FP.f2d m))) := d2f_out (dadd_out (dmul_out (i2d_fin _) (f2d_fin hc)) (f2d_fin hm))
theorem own_ready {s : State} {args : Array Value} {own : String} {index cur : Nat} {y : MethodName} (e : Env) (hown : s.vm.findClass own = some cur) (href : (Jvm.Cond.methodRef own index y).before args s = true) (hy : y.cls ≠ "java/lang/invoke/MethodHandle" ∧ y.cls ≠ "java/lang/invoke/VarHandle") (U : State) (r : MethodId) (hW : s.WarmedH U.vm) (hn : s.methodNamed? y = some r) : namesResolved U.vm cur index r.cls ∧ U.vm.methodReady cur index r := by
  have h1 := Cond.methodRef_warmed hW hn hy href
  have hc : (s.setVm U.vm).vm.findClass own = some cur := by show U.vm.findClass own = some cur; rw [hW.alike.findClass]; exact hown
  obtain ⟨m', c', q1, q2, q3, q4⟩ := Cond.methodRef_named e hc h1
  have hn' : (s.setVm U.vm).methodNamed? y = some r := by rw [State.methodNamed?_setVm hW.alike]; exact hn
  have e1 := State.methodFound?_of_named hn' hy
  cases e1.symm.trans q1
  have e2 := findClass_of_methodNamed hn'
  cases e2.symm.trans q3
  exact ⟨q4, q2⟩
theorem own_retD {p : Program} {l : Launch} {e : Env} {R : Room} {s : State} {m : MethodId} {args : Array Value} {below : List Frame} {meth : Method} {c : Code} {T : State} {locs : List Loc} {cells slots : Nat} (X : Stand p l e R s m args below meth c T locs cells slots) (hx : p.tables.exec = Jvm.exec) {pc : Nat} {Ls : Array Slot} {z : UInt64} {rest : List Value} (hret : meth.sig.returnType = some .double) (hd : decode c.code pc = .ok (.dreturn, 1)) {fs : List Frame}
    (hl : ∀ (f : JFrame) (acts : List Action), f.method = m → f.locked = none → f.entered = [] → (doReturn e (T.setTop f) acts (some (.double z))).1 = T.setFrames fs) : Steps p.tables e below (T.setTop (mkF m pc Ls (.double z :: rest))) (T.setFrames fs) := by
  have hm' : T.vm.method? m = some meth := X.method'
  have hn : narrow .double (.double z) = .double z := rfl
  show Steps p.tables e below (T.setTop { method := m, pc := pc, locals := Ls, stack := _ :: rest, locked := none }) _
  jvm_step X.here [X.here.top, hx, hd, hm', hret, hn]
  first | (intro acts; rw [hl _ acts rfl rfl rfl]) | rw [hl _ _ rfl rfl rfl]
  exact Steps.refl _
theorem own_mref {Z s : State} {a0 args : Array Value} {own : String} {i : Nat} {y : MethodName} (hZ : Z.Warmed39 s.vm) (hi : (Jvm.Cond.instanceMethod y).before a0 Z = true) (hy : y.cls ≠ "java/lang/invoke/MethodHandle" ∧ y.cls ≠ "java/lang/invoke/VarHandle") (w : (Jvm.Cond.methodRef own i y).before a0 Z = true) : (Jvm.Cond.methodRef own i y).before args s = true := by
  obtain ⟨m, _, hn, -⟩ := Cond.instanceMethod_spec hi
  have h1 := Cond.methodRef_warmed39 hZ hn hy w
  exact h1
theorem d1_0 : decode method_2_code 0 = .ok (.iconst 2, 1) := by decide +kernel
theorem d1_1 : decode method_2_code 1 = .ok (.newarray .float, 2) := by decide +kernel
theorem d1_3 : decode method_2_code 3 = .ok (.astore_n 1, 1) := by decide +kernel
theorem d1_4 : decode method_2_code 4 = .ok (.aload_n 1, 1) := by decide +kernel
theorem d1_5 : decode method_2_code 5 = .ok (.iconst 0, 1) := by decide +kernel
theorem d1_6 : decode method_2_code 6 = .ok (.iload_n 0, 1) := by decide +kernel
theorem d1_7 : decode method_2_code 7 = .ok (.bipush 16, 2) := by decide +kernel
theorem d1_9 : decode method_2_code 9 = .ok (.ishr, 1) := by decide +kernel
theorem d1_10 : decode method_2_code 10 = .ok (.i2s, 1) := by decide +kernel
theorem d1_11 : decode method_2_code 11 = .ok (.i2f, 1) := by decide +kernel
theorem d1_12 : decode method_2_code 12 = .ok (.fastore, 1) := by decide +kernel
theorem d1_13 : decode method_2_code 13 = .ok (.aload_n 1, 1) := by decide +kernel
theorem d1_14 : decode method_2_code 14 = .ok (.iconst 1, 1) := by decide +kernel
theorem d1_15 : decode method_2_code 15 = .ok (.iload_n 0, 1) := by decide +kernel
theorem d1_16 : decode method_2_code 16 = .ok (.i2s, 1) := by decide +kernel
theorem d1_17 : decode method_2_code 17 = .ok (.i2f, 1) := by decide +kernel
theorem d1_18 : decode method_2_code 18 = .ok (.fastore, 1) := by decide +kernel
theorem d1_19 : decode method_2_code 19 = .ok (.aload_n 1, 1) := by decide +kernel
theorem d1_20 : decode method_2_code 20 = .ok (.areturn, 1) := by decide +kernel
theorem pn_1 : plainFor (⟨"com/example/reverie/reverie/ScalarQuantizerRemoveLastPinLaw", "vec", "(I)[F"⟩ : MethodName) = true := by first | exact plainFor_of_name (by first | (simp [plainName, overriddenIn]; done) | decide +kernel) | decide +kernel | exact Jvm.Free.JP.mathPlain rfl (by decide +kernel)
theorem ef_1 (m : MethodId) (p0 : Int32) : entryFrame m #[(.int p0)] 2 = mkF m 0 #[.val (.int p0), .unset] [] := by first | (simp [entryFrame, mkF, argsToLocals, Value.category]; done) | rfl
def Q1 (Z : State) (p0 : Int32) (h0 : Heap) (n0 : Nat) (v : Option Value) (h : Heap) (L : List Loc) : Prop := ∃ r kc, v = some (.ref r) ∧ h0.size ≤ r ∧ Fr n0 L ∧ Keep h0 h [] ∧ Arv Z h r kc .float (2 : Int32) [(.float (FP.i2f ((p0 >>> ((16 : Int32) &&& 31)).toInt16.toInt32))), (.float (FP.i2f (p0.toInt16.toInt32)))] (.float (0 : UInt32))
set_option maxRecDepth 65536 in
set_option maxHeartbeats 40000000 in
theorem rm1 (l : Launch) (Z : State) (a0 : Array Value) (hw : ∀ d ∈ tables_1, d.before a0 Z = true) (ws : List Jvm.Cond) (p0 : Int32) (h0 : Heap) (n0 : Nat) (Z0 : n0 ≤ h0.size) :
    MetFree l (⟨"com/example/reverie/reverie/ScalarQuantizerRemoveLastPinLaw", "vec", "(I)[F"⟩ : MethodName) (head1 (Jvm.Cond.code (⟨"com/example/reverie/reverie/ScalarQuantizerRemoveLastPinLaw", "vec", "(I)[F"⟩ : MethodName) method_2_code 2 (some (.array .float)) :: ws) ({ frames := 0, cells := 1, slots := 2, locals := 0 } : Room)) (fun a U => a = #[(.int p0)] ∧ Z.Warmed39 U.vm ∧ U.heap = h0) (fun _ _ _ _ _ => True) (fun _ U o U' => ∃ v L, o = .returned v ∧ Q1 Z p0 h0 n0 v U'.heap L ∧ FrameEnd U o U' L ({ frames := 0, cells := 1, slots := 2, locals := 0 } : Room).cells ({ frames := 0, cells := 1, slots := 2, locals := 0 } : Room).slots) := by
  refine MetFree.of_bodySF pn_1 hisR ?_
  intro p e s m args below meth c s₁ Bd hml0 hP hK
  obtain ⟨rfl, hZ, hh⟩ := hP
  have hx := Bd.exec
  have hby := Bd.bytes
  have hml : c.maxLocals = 2 := hml0
  have hown : s.vm.findClass "com/example/reverie/reverie/ScalarQuantizerRemoveLastPinLaw" = some m.cls := findClass_of_methodNamed Bd.named
  have hnm := (name_of_methodNamed Bd.named Bd.method).1
  have X0 : Stand p l e ({ frames := 0, cells := 1, slots := 2, locals := 0 } : Room) s m #[(.int p0)] below meth c s₁ [] 0 0 := Stand.of_body Bd
  have e0 : s₁.heap = h0 := by rw [← hh, Bd.state]; rfl
  have N0 := Fr.nil n0
  refine own_at (castTop (ef_1 m p0)) ?_
  have K0 := Keep.refl h0 []
  have sg1 : ∀ t, own_S p e below s₁ (mkF m 1 #[.val (.int p0), .unset] [(.int (2 : Int32))]) t → own_S p e below s₁ (mkF m 0 #[.val (.int p0), .unset] []) t := by
    intro t k
    refine XS.iconst X0.here hx rfl (hb hby d1_0) ?_
    exact k
  refine own_by sg1 ?_
  obtain ⟨T1, h1, kc1, X1, e1, E1, A1, st1⟩ := newP X0 hx hZ (own_w hw 4 rfl) e0 (g := (mkF m 1 #[.val (.int p0), .unset] [(.int (2 : Int32))])) rfl (hb hby d1_1) rfl (by decide) (cap := 2) (by decide) (by decide) (by decide) (by decide)
  obtain ⟨b1, g1⟩ : ∃ z, z = h0.size := ⟨_, rfl⟩
  rw [← g1] at A1 st1
  have g_b1 : n0 ≤ b1 := Nat.le_trans Z0 (Nat.le_of_eq g1.symm)
  have sz_b1 : h0.size ≤ b1 := Nat.le_trans K0.1 (Nat.le_of_eq g1.symm)
  have K1 := K0.ext E1
  have Z1 : n0 ≤ h1.size := Nat.le_trans Z0 E1.1
  have V1 : Arv Z h1 b1 kc1 .float (2 : Int32) [(.float (0 : UInt32)), (.float (0 : UInt32))] (.float (0 : UInt32)) := (Arv.new A1 (by decide)).pad (pad_rep [] (.float (0 : UInt32)) 2)
  refine own_by st1 ?_
  obtain ⟨k12, hk12⟩ : ∃ z : UInt32, z = (FP.i2f ((p0 >>> ((16 : Int32) &&& 31)).toInt16.toInt32)) := ⟨_, rfl⟩
  have sg12 : ∀ t, own_S p e below T1 (mkF m 12 #[.val (.int p0), .val (.ref b1)] [(.float k12), (.int (0 : Int32)), (.ref b1)]) t → own_S p e below T1 (mkF m 3 #[.val (.int p0), .unset] [(.ref b1)]) t := by
    intro t k
    rw [hk12] at k
    refine XS.astoreN X1.here hx rfl (hb hby d1_3) rfl rfl (l' := #[.val (.int p0), .val (.ref b1)]) rfl ?_
    show own_S p e below T1 (mkF m 4 #[.val (.int p0), .val (.ref b1)] []) _
    refine XS.aloadN X1.here hx rfl (hb hby d1_4) rfl rfl ?_
    show own_S p e below T1 (mkF m 5 #[.val (.int p0), .val (.ref b1)] [(.ref b1)]) _
    refine XS.iconst X1.here hx rfl (hb hby d1_5) ?_
    show own_S p e below T1 (mkF m 6 #[.val (.int p0), .val (.ref b1)] [(.int (0 : Int32)), (.ref b1)]) _
    refine XS.iloadN X1.here hx rfl (hb hby d1_6) rfl ?_
    show own_S p e below T1 (mkF m 7 #[.val (.int p0), .val (.ref b1)] [(.int p0), (.int (0 : Int32)), (.ref b1)]) _
    refine XS.bipush X1.here hx rfl (hb hby d1_7) ?_
    show own_S p e below T1 (mkF m 9 #[.val (.int p0), .val (.ref b1)] [(.int (16 : Int32)), (.int p0), (.int (0 : Int32)), (.ref b1)]) _
    refine XS.ishr X1.here hx rfl (hb hby d1_9) rfl ?_
    show own_S p e below T1 (mkF m 10 #[.val (.int p0), .val (.ref b1)] [(.int (p0 >>> ((16 : Int32) &&& 31))), (.int (0 : Int32)), (.ref b1)]) _
    refine XS.i2s X1.here hx rfl (hb hby d1_10) rfl ?_
    show own_S p e below T1 (mkF m 11 #[.val (.int p0), .val (.ref b1)] [(.int ((p0 >>> ((16 : Int32) &&& 31)).toInt16.toInt32)), (.int (0 : Int32)), (.ref b1)]) _
    refine XS.i2fS X1.here hx rfl (hb hby d1_11) rfl rfl ?_
    exact k
  refine own_by sg12 ?_
  obtain ⟨cl12, Ar12, qa12, Sa12, Na12, Ha12, Ga12⟩ := id V1
  obtain ⟨T12, h12, X12, e12, W12, st12⟩ := stF X1 hx hZ e1 Ar12 (j := (0 : Int32)) (inb_of Sa12 ⟨by decide, by decide⟩) (g := (mkF m 12 #[.val (.int p0), .val (.ref b1)] [(.float k12), (.int (0 : Int32)), (.ref b1)])) rfl rfl (hb hby d1_12)
  have V12 : Arv Z h12 b1 kc1 .float (2 : Int32) [(.float k12), (.float (0 : UInt32))] (.float (0 : UInt32)) := by
    have q := Arv.set Ar12 qa12 Sa12 Na12 Ha12 Ga12 rfl W12 0 rfl (Nat.le_of_ble_eq_true rfl)
    exact q
  have K12 : Keep h0 h12 [] := K1.wr W12 (Or.inr sz_b1)
  have Z12 : n0 ≤ h12.size := Nat.le_trans Z1 (Keep.of_wr W12).1
  have N12 := Fr.snoc X12 N0 g_b1
  refine own_by st12 ?_
  obtain ⟨k18, hk18⟩ : ∃ z : UInt32, z = (FP.i2f (p0.toInt16.toInt32)) := ⟨_, rfl⟩
  have sg18 : ∀ t, own_S p e below T12 (mkF m 18 #[.val (.int p0), .val (.ref b1)] [(.float k18), (.int (1 : Int32)), (.ref b1)]) t → own_S p e below T12 (mkF m 13 #[.val (.int p0), .val (.ref b1)] []) t := by
    intro t k
    rw [hk18] at k
    refine XS.aloadN X12.here hx rfl (hb hby d1_13) rfl rfl ?_
    show own_S p e below T12 (mkF m 14 #[.val (.int p0), .val (.ref b1)] [(.ref b1)]) _
    refine XS.iconst X12.here hx rfl (hb hby d1_14) ?_
    show own_S p e below T12 (mkF m 15 #[.val (.int p0), .val (.ref b1)] [(.int (1 : Int32)), (.ref b1)]) _
    refine XS.iloadN X12.here hx rfl (hb hby d1_15) rfl ?_
    show own_S p e below T12 (mkF m 16 #[.val (.int p0), .val (.ref b1)] [(.int p0), (.int (1 : Int32)), (.ref b1)]) _
    refine XS.i2s X12.here hx rfl (hb hby d1_16) rfl ?_
    show own_S p e below T12 (mkF m 17 #[.val (.int p0), .val (.ref b1)] [(.int (p0.toInt16.toInt32)), (.int (1 : Int32)), (.ref b1)]) _
    refine XS.i2fS X12.here hx rfl (hb hby d1_17) rfl rfl ?_
    exact k
  refine own_by sg18 ?_
  obtain ⟨cl18, Ar18, qa18, Sa18, Na18, Ha18, Ga18⟩ := id V12
  obtain ⟨T18, h18, X18, e18, W18, st18⟩ := stF X12 hx hZ e12 Ar18 (j := (1 : Int32)) (inb_of Sa18 ⟨by decide, by decide⟩) (g := (mkF m 18 #[.val (.int p0), .val (.ref b1)] [(.float k18), (.int (1 : Int32)), (.ref b1)])) rfl rfl (hb hby d1_18)
  have V18 : Arv Z h18 b1 kc1 .float (2 : Int32) [(.float k12), (.float k18)] (.float (0 : UInt32)) := by
    have q := Arv.set Ar18 qa18 Sa18 Na18 Ha18 Ga18 rfl W18 1 rfl (Nat.le_of_ble_eq_true rfl)
    exact q
  have K18 : Keep h0 h18 [] := K12.wr W18 (Or.inr sz_b1)
  have Z18 : n0 ≤ h18.size := Nat.le_trans Z12 (Keep.of_wr W18).1
  have N18 := Fr.snoc X18 N12 g_b1
  refine own_by st18 ?_
  have sg20 : ∀ t, own_S p e below T18 (mkF m 20 #[.val (.int p0), .val (.ref b1)] [(.ref b1)]) t → own_S p e below T18 (mkF m 19 #[.val (.int p0), .val (.ref b1)] []) t := by
    intro t k
    refine XS.aloadN X18.here hx rfl (hb hby d1_19) rfl rfl ?_
    exact k
  refine own_by sg20 ?_
  obtain ⟨fs, hr, hrun, hended, hW, hsame⟩ := X18.leave (v := some (.ref b1)) (fun h => by rw [Bd.returns] at h; cases h)
  refine ⟨_, _, ?_, hrun, hended, _, _, rfl, ?_, ⟨_, rfl⟩, hW, hsame.mono (by decide) (by decide)⟩
  · show Steps p.tables e below (T18.setTop (mkF m 20 #[.val (.int p0), .val (.ref b1)] [(.ref b1)])) _
    jvm_step X18.here [X18.here.top, hx, (hb hby d1_20), X18.method', Bd.returns, Value.isRef, FieldType.isReference]
    first | (intro acts; rw [hr _ acts rfl rfl rfl]) | rw [hr _ _ rfl rfl rfl]
    exact Steps.refl _
  · show Q1 Z p0 h0 n0 _ T18.heap _
    rw [e18]
    exact ⟨_, _, rfl, sz_b1, N18, K18, (by rw [← hk12, ← hk18]; exact V18)⟩
theorem d4_0 : decode jdk_65_method_115_code 0 = .ok (.iconst 0, 1) := by decide +kernel
theorem d4_1 : decode jdk_65_method_115_code 1 = .ok (.istore_n 2, 1) := by decide +kernel
theorem d4_2 : decode jdk_65_method_115_code 2 = .ok (.aload_n 0, 1) := by decide +kernel
theorem d4_3 : decode jdk_65_method_115_code 3 = .ok (.arraylength, 1) := by decide +kernel
theorem d4_4 : decode jdk_65_method_115_code 4 = .ok (.istore_n 3, 1) := by decide +kernel
theorem d4_5 : decode jdk_65_method_115_code 5 = .ok (.iload_n 2, 1) := by decide +kernel
theorem d4_6 : decode jdk_65_method_115_code 6 = .ok (.iload_n 3, 1) := by decide +kernel
theorem d4_7 : decode jdk_65_method_115_code 7 = .ok (.if_icmp .ge 13, 3) := by decide +kernel
theorem d4_10 : decode jdk_65_method_115_code 10 = .ok (.aload_n 0, 1) := by decide +kernel
theorem d4_11 : decode jdk_65_method_115_code 11 = .ok (.iload_n 2, 1) := by decide +kernel
theorem d4_12 : decode jdk_65_method_115_code 12 = .ok (.fload_n 1, 1) := by decide +kernel
theorem d4_13 : decode jdk_65_method_115_code 13 = .ok (.fastore, 1) := by decide +kernel
theorem d4_14 : decode jdk_65_method_115_code 14 = .ok (.iinc 2 1, 3) := by decide +kernel
theorem d4_17 : decode jdk_65_method_115_code 17 = .ok (.goto (-12), 3) := by decide +kernel
theorem d4_20 : decode jdk_65_method_115_code 20 = .ok (.return_, 1) := by decide +kernel
theorem pn_4 : plainFor (⟨"java/util/Arrays", "fill", "([FF)V"⟩ : MethodName) = true := by first | exact plainFor_of_name (by first | (simp [plainName, overriddenIn]; done) | decide +kernel) | decide +kernel | exact Jvm.Free.JP.mathPlain rfl (by decide +kernel)
theorem ef_4 (m : MethodId) (a1 : Addr) (f0 : UInt32) : entryFrame m #[(.ref a1), (.float f0)] 4 = mkF m 0 #[.val (.ref a1), .val (.float f0), .unset, .unset] [] := by first | (simp [entryFrame, mkF, argsToLocals, Value.category]; done) | rfl
def Q4 (Z : State) (a1 : Addr) (f0 : UInt32) (kc : ClassId) (h0 : Heap) (n0 : Nat) (v : Option Value) (h : Heap) (L : List Loc) : Prop := v = none ∧ Fr n0 L ∧ Keep h0 h [a1] ∧ Arv Z h a1 kc .float (2 : Int32) [(.float f0), (.float f0)] (.float (0 : UInt32))
set_option maxRecDepth 65536 in
set_option maxHeartbeats 40000000 in
theorem rm4 (l : Launch) (Z : State) (a0 : Array Value) (hw : ∀ d ∈ tables_1, d.before a0 Z = true) (ws : List Jvm.Cond) (a1 : Addr) (f0 : UInt32) (kc : ClassId) (h0 : Heap) (n0 : Nat) (Z0 : n0 ≤ h0.size) (A1 : Arv Z h0 a1 kc .float (2 : Int32) [(.float (0 : UInt32)), (.float (0 : UInt32))] (.float (0 : UInt32))) (g_a1 : n0 ≤ a1) :
    MetFree l (⟨"java/util/Arrays", "fill", "([FF)V"⟩ : MethodName) (head1 (Jvm.Cond.code (⟨"java/util/Arrays", "fill", "([FF)V"⟩ : MethodName) jdk_65_method_115_code 4 none :: ws) ({ frames := 0, cells := 0, slots := 0, locals := 0 } : Room)) (fun a U => a = #[(.ref a1), (.float f0)] ∧ Z.Warmed39 U.vm ∧ U.heap = h0) (fun _ _ _ _ _ => True) (fun _ U o U' => ∃ v L, o = .returned v ∧ Q4 Z a1 f0 kc h0 n0 v U'.heap L ∧ FrameEnd U o U' L ({ frames := 0, cells := 0, slots := 0, locals := 0 } : Room).cells ({ frames := 0, cells := 0, slots := 0, locals := 0 } : Room).slots) := by
  refine MetFree.of_bodySF pn_4 hisR ?_
  intro p e s m args below meth c s₁ Bd hml0 hP hK
  obtain ⟨rfl, hZ, hh⟩ := hP
  have hx := Bd.exec
  have hby := Bd.bytes
  have hml : c.maxLocals = 4 := hml0
  have hown : s.vm.findClass "java/util/Arrays" = some m.cls := findClass_of_methodNamed Bd.named
  have hnm := (name_of_methodNamed Bd.named Bd.method).1
  have X0 : Stand p l e ({ frames := 0, cells := 0, slots := 0, locals := 0 } : Room) s m #[(.ref a1), (.float f0)] below meth c s₁ [] 0 0 := Stand.of_body Bd
  have e0 : s₁.heap = h0 := by rw [← hh, Bd.state]; rfl
  have N0 := Fr.nil n0
  refine own_at (castTop (ef_4 m a1 f0)) ?_
  have K0 := Keep.refl h0 [a1]
  have sg3 : ∀ t, own_S p e below s₁ (mkF m 3 #[.val (.ref a1), .val (.float f0), .val (.int (0 : Int32)), .unset] [(.ref a1)]) t → own_S p e below s₁ (mkF m 0 #[.val (.ref a1), .val (.float f0), .unset, .unset] []) t := by
    intro t k
    refine XS.iconst X0.here hx rfl (hb hby d4_0) ?_
    show own_S p e below s₁ (mkF m 1 #[.val (.ref a1), .val (.float f0), .unset, .unset] [(.int (0 : Int32))]) _
    refine XS.istoreN X0.here hx rfl (hb hby d4_1) rfl (l' := #[.val (.ref a1), .val (.float f0), .val (.int (0 : Int32)), .unset]) rfl ?_
    show own_S p e below s₁ (mkF m 2 #[.val (.ref a1), .val (.float f0), .val (.int (0 : Int32)), .unset] []) _
    refine XS.aloadN X0.here hx rfl (hb hby d4_2) rfl rfl ?_
    exact k
  refine own_by sg3 ?_
  obtain ⟨cl3, Ar3, qa3, Sa3, Na3, Ha3, Ga3⟩ := id A1
  have sg13 : ∀ t, own_S p e below s₁ (mkF m 13 #[.val (.ref a1), .val (.float f0), .val (.int (0 : Int32)), .val (.int (2 : Int32))] [(.float f0), (.int (0 : Int32)), (.ref a1)]) t → own_S p e below s₁ (mkF m 3 #[.val (.ref a1), .val (.float f0), .val (.int (0 : Int32)), .unset] [(.ref a1)]) t := by
    intro t k
    refine X0.arraylength hx (by rw [e0]; exact Ar3.1) (State.isArrayOf_alike hZ.alike Ar3.2.1) (g := (mkF m 3 #[.val (.ref a1), .val (.float f0), .val (.int (0 : Int32)), .unset] [(.ref a1)])) rfl rfl (hb hby d4_3) _ ?_
    rw [len_of Sa3 Na3]
    show own_S p e below s₁ (mkF m 4 #[.val (.ref a1), .val (.float f0), .val (.int (0 : Int32)), .unset] [(.int (2 : Int32))]) _
    refine XS.istoreN X0.here hx rfl (hb hby d4_4) rfl (l' := #[.val (.ref a1), .val (.float f0), .val (.int (0 : Int32)), .val (.int (2 : Int32))]) rfl ?_
    show own_S p e below s₁ (mkF m 5 #[.val (.ref a1), .val (.float f0), .val (.int (0 : Int32)), .val (.int (2 : Int32))] []) _
    refine XS.iloadN X0.here hx rfl (hb hby d4_5) rfl ?_
    show own_S p e below s₁ (mkF m 6 #[.val (.ref a1), .val (.float f0), .val (.int (0 : Int32)), .val (.int (2 : Int32))] [(.int (0 : Int32))]) _
    refine XS.iloadN X0.here hx rfl (hb hby d4_6) rfl ?_
    show own_S p e below s₁ (mkF m 7 #[.val (.ref a1), .val (.float f0), .val (.int (0 : Int32)), .val (.int (2 : Int32))] [(.int (2 : Int32)), (.int (0 : Int32))]) _
    refine XS.icmpNo X0.here hx rfl (hb hby d4_7) rfl (tlt (by decide : (0 : Int32) < (2 : Int32))).2.1 ?_
    show own_S p e below s₁ (mkF m 10 #[.val (.ref a1), .val (.float f0), .val (.int (0 : Int32)), .val (.int (2 : Int32))] []) _
    refine XS.aloadN X0.here hx rfl (hb hby d4_10) rfl rfl ?_
    show own_S p e below s₁ (mkF m 11 #[.val (.ref a1), .val (.float f0), .val (.int (0 : Int32)), .val (.int (2 : Int32))] [(.ref a1)]) _
    refine XS.iloadN X0.here hx rfl (hb hby d4_11) rfl ?_
    show own_S p e below s₁ (mkF m 12 #[.val (.ref a1), .val (.float f0), .val (.int (0 : Int32)), .val (.int (2 : Int32))] [(.int (0 : Int32)), (.ref a1)]) _
    refine XS.floadN X0.here hx rfl (hb hby d4_12) rfl ?_
    exact k
  refine own_by sg13 ?_
  obtain ⟨cl13, Ar13, qa13, Sa13, Na13, Ha13, Ga13⟩ := id A1
  obtain ⟨T13, h13, X13, e13, W13, st13⟩ := stF X0 hx hZ e0 Ar13 (j := (0 : Int32)) (inb_of Sa13 ⟨by decide, by decide⟩) (g := (mkF m 13 #[.val (.ref a1), .val (.float f0), .val (.int (0 : Int32)), .val (.int (2 : Int32))] [(.float f0), (.int (0 : Int32)), (.ref a1)])) rfl rfl (hb hby d4_13)
  have V13 : Arv Z h13 a1 kc .float (2 : Int32) [(.float f0), (.float (0 : UInt32))] (.float (0 : UInt32)) := by
    have q := Arv.set Ar13 qa13 Sa13 Na13 Ha13 Ga13 rfl W13 0 rfl (Nat.le_of_ble_eq_true rfl)
    exact q
  have K13 : Keep h0 h13 [a1] := K0.wr W13 (Or.inl (List.mem_of_getElem? (i := 0) rfl))
  have Z13 : n0 ≤ h13.size := Nat.le_trans Z0 (Keep.of_wr W13).1
  have N13 := Fr.snoc X13 N0 g_a1
  refine own_by st13 ?_
  have sg13_2 : ∀ t, own_S p e below T13 (mkF m 13 #[.val (.ref a1), .val (.float f0), .val (.int (1 : Int32)), .val (.int (2 : Int32))] [(.float f0), (.int (1 : Int32)), (.ref a1)]) t → own_S p e below T13 (mkF m 14 #[.val (.ref a1), .val (.float f0), .val (.int (0 : Int32)), .val (.int (2 : Int32))] []) t := by
    intro t k
    refine XS.iinc X13.here hx rfl (hb hby d4_14) rfl (l' := #[.val (.ref a1), .val (.float f0), .val (.int (1 : Int32)), .val (.int (2 : Int32))]) rfl ?_
    show own_S p e below T13 (mkF m 17 #[.val (.ref a1), .val (.float f0), .val (.int (1 : Int32)), .val (.int (2 : Int32))] []) _
    refine XS.goto X13.here hx rfl (pc0 := 17) (pc' := 5) rfl (hb hby d4_17) (by decide) (by decide) ?_
    show own_S p e below T13 (mkF m 5 #[.val (.ref a1), .val (.float f0), .val (.int (1 : Int32)), .val (.int (2 : Int32))] []) _
    refine XS.iloadN X13.here hx rfl (hb hby d4_5) rfl ?_
    show own_S p e below T13 (mkF m 6 #[.val (.ref a1), .val (.float f0), .val (.int (1 : Int32)), .val (.int (2 : Int32))] [(.int (1 : Int32))]) _
    refine XS.iloadN X13.here hx rfl (hb hby d4_6) rfl ?_
    show own_S p e below T13 (mkF m 7 #[.val (.ref a1), .val (.float f0), .val (.int (1 : Int32)), .val (.int (2 : Int32))] [(.int (2 : Int32)), (.int (1 : Int32))]) _
    refine XS.icmpNo X13.here hx rfl (hb hby d4_7) rfl (tlt (by decide : (1 : Int32) < (2 : Int32))).2.1 ?_
    show own_S p e below T13 (mkF m 10 #[.val (.ref a1), .val (.float f0), .val (.int (1 : Int32)), .val (.int (2 : Int32))] []) _
    refine XS.aloadN X13.here hx rfl (hb hby d4_10) rfl rfl ?_
    show own_S p e below T13 (mkF m 11 #[.val (.ref a1), .val (.float f0), .val (.int (1 : Int32)), .val (.int (2 : Int32))] [(.ref a1)]) _
    refine XS.iloadN X13.here hx rfl (hb hby d4_11) rfl ?_
    show own_S p e below T13 (mkF m 12 #[.val (.ref a1), .val (.float f0), .val (.int (1 : Int32)), .val (.int (2 : Int32))] [(.int (1 : Int32)), (.ref a1)]) _
    refine XS.floadN X13.here hx rfl (hb hby d4_12) rfl ?_
    exact k
  refine own_by sg13_2 ?_
  obtain ⟨cl13_2, Ar13_2, qa13_2, Sa13_2, Na13_2, Ha13_2, Ga13_2⟩ := id V13
  obtain ⟨T13_2, h13_2, X13_2, e13_2, W13_2, st13_2⟩ := stF X13 hx hZ e13 Ar13_2 (j := (1 : Int32)) (inb_of Sa13_2 ⟨by decide, by decide⟩) (g := (mkF m 13 #[.val (.ref a1), .val (.float f0), .val (.int (1 : Int32)), .val (.int (2 : Int32))] [(.float f0), (.int (1 : Int32)), (.ref a1)])) rfl rfl (hb hby d4_13)
  have V13_2 : Arv Z h13_2 a1 kc .float (2 : Int32) [(.float f0), (.float f0)] (.float (0 : UInt32)) := by
    have q := Arv.set Ar13_2 qa13_2 Sa13_2 Na13_2 Ha13_2 Ga13_2 rfl W13_2 1 rfl (Nat.le_of_ble_eq_true rfl)
    exact q
  have K13_2 : Keep h0 h13_2 [a1] := K13.wr W13_2 (Or.inl (List.mem_of_getElem? (i := 0) rfl))
  have Z13_2 : n0 ≤ h13_2.size := Nat.le_trans Z13 (Keep.of_wr W13_2).1
  have N13_2 := Fr.snoc X13_2 N13 g_a1
  refine own_by st13_2 ?_
  have sg20 : ∀ t, own_S p e below T13_2 (mkF m 20 #[.val (.ref a1), .val (.float f0), .val (.int (2 : Int32)), .val (.int (2 : Int32))] []) t → own_S p e below T13_2 (mkF m 14 #[.val (.ref a1), .val (.float f0), .val (.int (1 : Int32)), .val (.int (2 : Int32))] []) t := by
    intro t k
    refine XS.iinc X13_2.here hx rfl (hb hby d4_14) rfl (l' := #[.val (.ref a1), .val (.float f0), .val (.int (2 : Int32)), .val (.int (2 : Int32))]) rfl ?_
    show own_S p e below T13_2 (mkF m 17 #[.val (.ref a1), .val (.float f0), .val (.int (2 : Int32)), .val (.int (2 : Int32))] []) _
    refine XS.goto X13_2.here hx rfl (pc0 := 17) (pc' := 5) rfl (hb hby d4_17) (by decide) (by decide) ?_
    show own_S p e below T13_2 (mkF m 5 #[.val (.ref a1), .val (.float f0), .val (.int (2 : Int32)), .val (.int (2 : Int32))] []) _
    refine XS.iloadN X13_2.here hx rfl (hb hby d4_5) rfl ?_
    show own_S p e below T13_2 (mkF m 6 #[.val (.ref a1), .val (.float f0), .val (.int (2 : Int32)), .val (.int (2 : Int32))] [(.int (2 : Int32))]) _
    refine XS.iloadN X13_2.here hx rfl (hb hby d4_6) rfl ?_
    show own_S p e below T13_2 (mkF m 7 #[.val (.ref a1), .val (.float f0), .val (.int (2 : Int32)), .val (.int (2 : Int32))] [(.int (2 : Int32)), (.int (2 : Int32))]) _
    refine XS.icmpYes X13_2.here hx rfl (pc0 := 7) (pc' := 20) rfl (hb hby d4_7) rfl (flt (by decide : ¬ ((2 : Int32) < (2 : Int32)))).2.1 (by decide) (by decide) ?_
    exact k
  refine own_by sg20 ?_
  obtain ⟨fs, hr, hrun, hended, hW, hsame⟩ := X13_2.leave (v := none) (fun _ => rfl)
  refine ⟨_, _, ?_, hrun, hended, _, _, rfl, ?_, ⟨_, rfl⟩, hW, hsame.mono (by decide) (by decide)⟩
  · exact X13_2.returnOut hx Bd.returns (hb hby d4_20) hr
  · show Q4 Z a1 f0 kc h0 n0 _ T13_2.heap _
    rw [e13_2]
    exact ⟨rfl, N13_2, K13_2, V13_2⟩
theorem d3_0 : decode prog_33_method_12_code 0 = .ok (.iload_n 0, 1) := by decide +kernel
theorem d3_1 : decode prog_33_method_12_code 1 = .ok (.newarray .float, 2) := by decide +kernel
theorem d3_3 : decode prog_33_method_12_code 3 = .ok (.astore_n 2, 1) := by decide +kernel
theorem d3_4 : decode prog_33_method_12_code 4 = .ok (.aload_n 2, 1) := by decide +kernel
theorem d3_5 : decode prog_33_method_12_code 5 = .ok (.fload_n 1, 1) := by decide +kernel
theorem d3_6 : decode prog_33_method_12_code 6 = .ok (.invokestatic 129, 3) := by decide +kernel
theorem d3_9 : decode prog_33_method_12_code 9 = .ok (.aload_n 2, 1) := by decide +kernel
theorem d3_10 : decode prog_33_method_12_code 10 = .ok (.areturn, 1) := by decide +kernel
theorem pn_3 : plainFor (⟨"com/example/reverie/reverie/ScalarQuantizer", "emptyRanges", "(IF)[F"⟩ : MethodName) = true := by first | exact plainFor_of_name (by first | (simp [plainName, overriddenIn]; done) | decide +kernel) | decide +kernel | exact Jvm.Free.JP.mathPlain rfl (by decide +kernel)
theorem pd_3_0 : parseMethodDescriptor "([FF)V" = some ⟨[(.array .float), .float], none⟩ := by decide +kernel
theorem ef_3 (m : MethodId) (f0 : UInt32) : entryFrame m #[(.int (2 : Int32)), (.float f0)] 3 = mkF m 0 #[.val (.int (2 : Int32)), .val (.float f0), .unset] [] := by first | (simp [entryFrame, mkF, argsToLocals, Value.category]; done) | rfl
def Q3 (Z : State) (f0 : UInt32) (h0 : Heap) (n0 : Nat) (v : Option Value) (h : Heap) (L : List Loc) : Prop := ∃ r kc, v = some (.ref r) ∧ h0.size ≤ r ∧ Fr n0 L ∧ Keep h0 h [] ∧ Exa Z h r "[F" ∧ Arv Z h r kc .float (2 : Int32) [(.float f0), (.float f0)] (.float (0 : UInt32))
set_option maxRecDepth 65536 in
set_option maxHeartbeats 40000000 in
theorem rm3 (l : Launch) (Z : State) (a0 : Array Value) (hw : ∀ d ∈ tables_1, d.before a0 Z = true) (ws : List Jvm.Cond) (f0 : UInt32) (h0 : Heap) (n0 : Nat) (Z0 : n0 ≤ h0.size) :
    MetFree l (⟨"com/example/reverie/reverie/ScalarQuantizer", "emptyRanges", "(IF)[F"⟩ : MethodName) (head1 (Jvm.Cond.code (⟨"com/example/reverie/reverie/ScalarQuantizer", "emptyRanges", "(IF)[F"⟩ : MethodName) prog_33_method_12_code 3 (some (.array .float)) :: ws) ({ frames := 1, cells := 1, slots := 2, locals := 15 } : Room)) (fun a U => a = #[(.int (2 : Int32)), (.float f0)] ∧ Z.Warmed39 U.vm ∧ U.heap = h0) (fun _ _ _ _ _ => True) (fun _ U o U' => ∃ v L, o = .returned v ∧ Q3 Z f0 h0 n0 v U'.heap L ∧ FrameEnd U o U' L ({ frames := 1, cells := 1, slots := 2, locals := 15 } : Room).cells ({ frames := 1, cells := 1, slots := 2, locals := 15 } : Room).slots) := by
  refine MetFree.of_bodySF pn_3 hisR ?_
  intro p e s m args below meth c s₁ Bd hml0 hP hK
  obtain ⟨rfl, hZ, hh⟩ := hP
  have hx := Bd.exec
  have hby := Bd.bytes
  have hml : c.maxLocals = 3 := hml0
  have hown : s.vm.findClass "com/example/reverie/reverie/ScalarQuantizer" = some m.cls := findClass_of_methodNamed Bd.named
  have hnm := (name_of_methodNamed Bd.named Bd.method).1
  have X0 : Stand p l e ({ frames := 1, cells := 1, slots := 2, locals := 15 } : Room) s m #[(.int (2 : Int32)), (.float f0)] below meth c s₁ [] 0 0 := Stand.of_body Bd
  have e0 : s₁.heap = h0 := by rw [← hh, Bd.state]; rfl
  have N0 := Fr.nil n0
  refine own_at (castTop (ef_3 m f0)) ?_
  have K0 := Keep.refl h0 []
  have sg1 : ∀ t, own_S p e below s₁ (mkF m 1 #[.val (.int (2 : Int32)), .val (.float f0), .unset] [(.int (2 : Int32))]) t → own_S p e below s₁ (mkF m 0 #[.val (.int (2 : Int32)), .val (.float f0), .unset] []) t := by
    intro t k
    refine XS.iloadN X0.here hx rfl (hb hby d3_0) rfl ?_
    exact k
  refine own_by sg1 ?_
  obtain ⟨T1, h1, kc1, X1, e1, E1, A1, Ex1, st1⟩ := newPE X0 hx hZ (own_w hw 4 rfl) e0 (g := (mkF m 1 #[.val (.int (2 : Int32)), .val (.float f0), .unset] [(.int (2 : Int32))])) rfl (hb hby d3_1) rfl (by decide) (cap := 2) (by decide) (by decide) (by decide) (by decide) (ad := "[F") (by decide)
  obtain ⟨b1, g1⟩ : ∃ z, z = h0.size := ⟨_, rfl⟩
  rw [← g1] at A1 st1 Ex1
  have g_b1 : n0 ≤ b1 := Nat.le_trans Z0 (Nat.le_of_eq g1.symm)
  have sz_b1 : h0.size ≤ b1 := Nat.le_trans K0.1 (Nat.le_of_eq g1.symm)
  have K1 := K0.ext E1
  have Z1 : n0 ≤ h1.size := Nat.le_trans Z0 E1.1
  have V1 : Arv Z h1 b1 kc1 .float (2 : Int32) [(.float (0 : UInt32)), (.float (0 : UInt32))] (.float (0 : UInt32)) := (Arv.new A1 (by decide)).pad (pad_rep [] (.float (0 : UInt32)) 2)
  refine own_by st1 ?_
  have sg6 : ∀ t, own_S p e below T1 (mkF m 6 #[.val (.int (2 : Int32)), .val (.float f0), .val (.ref b1)] [(.float f0), (.ref b1)]) t → own_S p e below T1 (mkF m 3 #[.val (.int (2 : Int32)), .val (.float f0), .unset] [(.ref b1)]) t := by
    intro t k
    refine XS.astoreN X1.here hx rfl (hb hby d3_3) rfl rfl (l' := #[.val (.int (2 : Int32)), .val (.float f0), .val (.ref b1)]) rfl ?_
    show own_S p e below T1 (mkF m 4 #[.val (.int (2 : Int32)), .val (.float f0), .val (.ref b1)] []) _
    refine XS.aloadN X1.here hx rfl (hb hby d3_4) rfl rfl ?_
    show own_S p e below T1 (mkF m 5 #[.val (.int (2 : Int32)), .val (.float f0), .val (.ref b1)] [(.ref b1)]) _
    refine XS.floadN X1.here hx rfl (hb hby d3_5) rfl ?_
    exact k
  refine own_by sg6 ?_
  obtain ⟨_, _, ⟨T6, L6, k6, n6⟩, -, X6, ⟨Lc6, hQ6, l6, y6, z6⟩, st6⟩ := Jvm.LawKit.callS X1 hx (y := (⟨"java/util/Arrays", "fill", "([FF)V"⟩ : MethodName)) hown (mvT hZ (own_w hw 16 rfl)) (mvT hZ (own_w hw 17 rfl)) (mvT hZ (own_w hw 18 rfl)) (mvT hZ (own_w hw 19 rfl)) (by decide) (backOf (W := 0) (rm4 l Z a0 hw [] b1 f0 kc1 h1 n0 Z1 V1 g_b1) hZ (own_w hw 19 rfl) (own_w hw 18 rfl) (by decide) (by decide)) (g := (mkF m 6 #[.val (.int (2 : Int32)), .val (.float f0), .val (.ref b1)] [(.float f0), (.ref b1)])) rfl (by rw [hml]; rfl) (argsL := [(.ref b1), (.float f0)]) (rest := []) (lenOf pd_3_0 rfl) rfl (by show 2 * 0 + _ ≤ _; exact Nat.le_of_eq rfl) (hb hby d3_6) (fun _ _ => ⟨rfl, e1, (by decide : 1 + 0 ≤ _), (by decide : 2 + 0 ≤ _)⟩)
  dsimp only [Pt.U, Pt.locs, Pt.cells, Pt.slots] at X6 l6 y6 z6 st6 hQ6
  subst l6 y6 z6
  obtain ⟨rfl, N6q, Kq6, Aq6⟩ := hQ6
  have N6 := Fr.app N0 N6q
  have K6 : Keep h0 T6.heap [] := K1.trans Kq6 (fun x hx => by cases List.mem_singleton.mp hx; exact (Or.inr sz_b1))
  have Z6 : n0 ≤ T6.heap.size := Nat.le_trans Z1 Kq6.1
  refine own_by st6 ?_
  have sg10 : ∀ t, own_S p e below T6 (mkF m 10 #[.val (.int (2 : Int32)), .val (.float f0), .val (.ref b1)] [(.ref b1)]) t → own_S p e below T6 (mkF m 9 #[.val (.int (2 : Int32)), .val (.float f0), .val (.ref b1)] []) t := by
    intro t k
    refine XS.aloadN X6.here hx rfl (hb hby d3_9) rfl rfl ?_
    exact k
  refine own_by sg10 ?_
  obtain ⟨fs, hr, hrun, hended, hW, hsame⟩ := X6.leave (v := some (.ref b1)) (fun h => by rw [Bd.returns] at h; cases h)
  refine ⟨_, _, ?_, hrun, hended, _, _, rfl, ?_, ⟨_, rfl⟩, hW, hsame.mono (by decide) (by decide)⟩
  · show Steps p.tables e below (T6.setTop (mkF m 10 #[.val (.int (2 : Int32)), .val (.float f0), .val (.ref b1)] [(.ref b1)])) _
    jvm_step X6.here [X6.here.top, hx, (hb hby d3_10), X6.method', Bd.returns, Value.isRef, FieldType.isReference]
    first | (intro acts; rw [hr _ acts rfl rfl rfl]) | rw [hr _ _ rfl rfl rfl]
    exact Steps.refl _
  · show Q3 Z f0 h0 n0 _ T6.heap _
    exact ⟨_, _, rfl, sz_b1, N6, K6, (Ex1.keep Kq6), Aq6⟩
theorem d11_0 : decode prog_33_method_14_code 0 = .ok (.fload_n 1, 1) := by decide +kernel
theorem d11_1 : decode prog_33_method_14_code 1 = .ok (.f2d, 1) := by decide +kernel
theorem d11_2 : decode prog_33_method_14_code 2 = .ok (.fload_n 0, 1) := by decide +kernel
theorem d11_3 : decode prog_33_method_14_code 3 = .ok (.f2d, 1) := by decide +kernel
theorem d11_4 : decode prog_33_method_14_code 4 = .ok (.dsub, 1) := by decide +kernel
theorem d11_5 : decode prog_33_method_14_code 5 = .ok (.ldc2_w 132, 3) := by decide +kernel
theorem d11_8 : decode prog_33_method_14_code 8 = .ok (.ddiv, 1) := by decide +kernel
theorem d11_9 : decode prog_33_method_14_code 9 = .ok (.d2f, 1) := by decide +kernel
theorem d11_10 : decode prog_33_method_14_code 10 = .ok (.freturn, 1) := by decide +kernel
theorem pn_11 : plainFor (⟨"com/example/reverie/reverie/ScalarQuantizer", "scale", "(FF)F"⟩ : MethodName) = true := by first | exact plainFor_of_name (by first | (simp [plainName, overriddenIn]; done) | decide +kernel) | decide +kernel | exact Jvm.Free.JP.mathPlain rfl (by decide +kernel)
theorem ef_11 (m : MethodId) (f0 : UInt32) (f1 : UInt32) : entryFrame m #[(.float f0), (.float f1)] 2 = mkF m 0 #[.val (.float f0), .val (.float f1)] [] := by first | (simp [entryFrame, mkF, argsToLocals, Value.category]; done) | rfl
def Q11 (Z : State) (f0 : UInt32) (f1 : UInt32) (h0 : Heap) (n0 : Nat) (v : Option Value) (h : Heap) (L : List Loc) : Prop := v = some (.float (own_scale f0 f1)) ∧ Fr n0 L ∧ h = h0
set_option maxRecDepth 65536 in
set_option maxHeartbeats 40000000 in
theorem rm11 (l : Launch) (Z : State) (a0 : Array Value) (hw : ∀ d ∈ tables_1, d.before a0 Z = true) (ws : List Jvm.Cond) (f0 : UInt32) (f1 : UInt32) (h0 : Heap) (n0 : Nat) (Z0 : n0 ≤ h0.size) (hf0 : Fin32 f0) (hf1 : Fin32 f1) :
    MetFree l (⟨"com/example/reverie/reverie/ScalarQuantizer", "scale", "(FF)F"⟩ : MethodName) (head1 (Jvm.Cond.code (⟨"com/example/reverie/reverie/ScalarQuantizer", "scale", "(FF)F"⟩ : MethodName) prog_33_method_14_code 2 (some .float) :: ws) ({ frames := 0, cells := 0, slots := 0, locals := 0 } : Room)) (fun a U => a = #[(.float f0), (.float f1)] ∧ Z.Warmed39 U.vm ∧ U.heap = h0) (fun _ _ _ _ _ => True) (fun _ U o U' => ∃ v L, o = .returned v ∧ Q11 Z f0 f1 h0 n0 v U'.heap L ∧ FrameEnd U o U' L ({ frames := 0, cells := 0, slots := 0, locals := 0 } : Room).cells ({ frames := 0, cells := 0, slots := 0, locals := 0 } : Room).slots) := by
  refine MetFree.of_bodySF pn_11 hisR ?_
  intro p e s m args below meth c s₁ Bd hml0 hP hK
  obtain ⟨rfl, hZ, hh⟩ := hP
  have hx := Bd.exec
  have hby := Bd.bytes
  have hml : c.maxLocals = 2 := hml0
  have hown : s.vm.findClass "com/example/reverie/reverie/ScalarQuantizer" = some m.cls := findClass_of_methodNamed Bd.named
  have hnm := (name_of_methodNamed Bd.named Bd.method).1
  have X0 : Stand p l e ({ frames := 0, cells := 0, slots := 0, locals := 0 } : Room) s m #[(.float f0), (.float f1)] below meth c s₁ [] 0 0 := Stand.of_body Bd
  have e0 : s₁.heap = h0 := by rw [← hh, Bd.state]; rfl
  have N0 := Fr.nil n0
  refine own_at (castTop (ef_11 m f0 f1)) ?_
  have sg10 : ∀ t, own_S p e below s₁ (mkF m 10 #[.val (.float f0), .val (.float f1)] [(.float (FP.d2f (FP.ddiv (FP.dsub (FP.f2d f1) (FP.f2d f0)) (4643176031446892544 : UInt64))))]) t → own_S p e below s₁ (mkF m 0 #[.val (.float f0), .val (.float f1)] []) t := by
    intro t k
    refine XS.floadN X0.here hx rfl (hb hby d11_0) rfl ?_
    show own_S p e below s₁ (mkF m 1 #[.val (.float f0), .val (.float f1)] [(.float f1)]) _
    refine XS.f2dS X0.here hx rfl (hb hby d11_1) rfl (f2d_fin hf1).noNaN rfl ?_
    show own_S p e below s₁ (mkF m 2 #[.val (.float f0), .val (.float f1)] [(.double (FP.f2d f1))]) _
    refine XS.floadN X0.here hx rfl (hb hby d11_2) rfl ?_
    show own_S p e below s₁ (mkF m 3 #[.val (.float f0), .val (.float f1)] [(.float f0), (.double (FP.f2d f1))]) _
    refine XS.f2dS X0.here hx rfl (hb hby d11_3) rfl (f2d_fin hf0).noNaN rfl ?_
    show own_S p e below s₁ (mkF m 4 #[.val (.float f0), .val (.float f1)] [(.double (FP.f2d f0)), (.double (FP.f2d f1))]) _
    refine XS.dsubS X0.here hx rfl (hb hby d11_4) rfl (dsub_out (f2d_fin hf1).noNaN (f2d_fin hf0)) rfl ?_
    show own_S p e below s₁ (mkF m 5 #[.val (.float f0), .val (.float f1)] [(.double (FP.dsub (FP.f2d f1) (FP.f2d f0)))]) _
    refine X0.ldc2DoubleC hx hown (mvT hZ (own_w hw 80 rfl)) (g := (mkF m 5 #[.val (.float f0), .val (.float f1)] [(.double (FP.dsub (FP.f2d f1) (FP.f2d f0)))])) rfl (hb hby d11_5) _ ?_
    show own_S p e below s₁ (mkF m 8 #[.val (.float f0), .val (.float f1)] [(.double (4643176031446892544 : UInt64)), (.double (FP.dsub (FP.f2d f1) (FP.f2d f0)))]) _
    refine XS.ddivS X0.here hx rfl (hb hby d11_8) rfl (ddiv_out (dsub_out (f2d_fin hf1).noNaN (f2d_fin hf0)) own_255f own_255z) rfl ?_
    show own_S p e below s₁ (mkF m 9 #[.val (.float f0), .val (.float f1)] [(.double (FP.ddiv (FP.dsub (FP.f2d f1) (FP.f2d f0)) (4643176031446892544 : UInt64)))]) _
    refine XS.d2fS X0.here hx rfl (hb hby d11_9) rfl (d2f_out (ddiv_out (dsub_out (f2d_fin hf1).noNaN (f2d_fin hf0)) own_255f own_255z)) rfl ?_
    exact k
  refine own_by sg10 ?_
  obtain ⟨fs, hr, hrun, hended, hW, hsame⟩ := X0.leave (v := some (.float (FP.d2f (FP.ddiv (FP.dsub (FP.f2d f1) (FP.f2d f0)) (4643176031446892544 : UInt64))))) (fun h => by rw [Bd.returns] at h; cases h)
  refine ⟨_, _, ?_, hrun, hended, _, _, rfl, ?_, ⟨_, rfl⟩, hW, hsame.mono (by decide) (by decide)⟩
  · exact retF X0 hx Bd.returns (hb hby d11_10) hr
  · show Q11 Z f0 f1 h0 n0 _ s₁.heap _
    rw [e0]
    exact ⟨rfl, N0, rfl⟩
theorem d13_0 : decode jdk_29_method_22_code 0 = .ok (.dload_n 0, 1) := by decide +kernel
theorem d13_1 : decode jdk_29_method_22_code 1 = .ok (.invokestatic 79, 3) := by decide +kernel
theorem d13_4 : decode jdk_29_method_22_code 4 = .ok (.lstore_n 2, 1) := by decide +kernel
theorem d13_5 : decode jdk_29_method_22_code 5 = .ok (.lload_n 2, 1) := by decide +kernel
theorem d13_6 : decode jdk_29_method_22_code 6 = .ok (.ldc2_w 87, 3) := by decide +kernel
theorem d13_9 : decode jdk_29_method_22_code 9 = .ok (.land, 1) := by decide +kernel
theorem d13_10 : decode jdk_29_method_22_code 10 = .ok (.bipush 52, 2) := by decide +kernel
theorem d13_12 : decode jdk_29_method_22_code 12 = .ok (.lshr, 1) := by decide +kernel
theorem d13_13 : decode jdk_29_method_22_code 13 = .ok (.lstore 4, 2) := by decide +kernel
theorem d13_15 : decode jdk_29_method_22_code 15 = .ok (.ldc2_w 89, 3) := by decide +kernel
theorem d13_18 : decode jdk_29_method_22_code 18 = .ok (.lload 4, 2) := by decide +kernel
theorem d13_20 : decode jdk_29_method_22_code 20 = .ok (.lsub, 1) := by decide +kernel
theorem d13_21 : decode jdk_29_method_22_code 21 = .ok (.lstore 6, 2) := by decide +kernel
theorem d13_23 : decode jdk_29_method_22_code 23 = .ok (.lload 6, 2) := by decide +kernel
theorem d13_25 : decode jdk_29_method_22_code 25 = .ok (.ldc2_w 91, 3) := by decide +kernel
theorem d13_28 : decode jdk_29_method_22_code 28 = .ok (.land, 1) := by decide +kernel
theorem d13_29 : decode jdk_29_method_22_code 29 = .ok (.lconst 0, 1) := by decide +kernel
theorem d13_30 : decode jdk_29_method_22_code 30 = .ok (.lcmp, 1) := by decide +kernel
theorem d13_31 : decode jdk_29_method_22_code 31 = .ok (.ifCond .ne 36, 3) := by decide +kernel
theorem d13_34 : decode jdk_29_method_22_code 34 = .ok (.lload_n 2, 1) := by decide +kernel
theorem d13_35 : decode jdk_29_method_22_code 35 = .ok (.ldc2_w 93, 3) := by decide +kernel
theorem d13_38 : decode jdk_29_method_22_code 38 = .ok (.land, 1) := by decide +kernel
theorem d13_39 : decode jdk_29_method_22_code 39 = .ok (.ldc2_w 95, 3) := by decide +kernel
theorem d13_42 : decode jdk_29_method_22_code 42 = .ok (.lor, 1) := by decide +kernel
theorem d13_43 : decode jdk_29_method_22_code 43 = .ok (.lstore 8, 2) := by decide +kernel
theorem d13_45 : decode jdk_29_method_22_code 45 = .ok (.lload_n 2, 1) := by decide +kernel
theorem d13_46 : decode jdk_29_method_22_code 46 = .ok (.lconst 0, 1) := by decide +kernel
theorem d13_47 : decode jdk_29_method_22_code 47 = .ok (.lcmp, 1) := by decide +kernel
theorem d13_48 : decode jdk_29_method_22_code 48 = .ok (.ifCond .ge 8, 3) := by decide +kernel
theorem d13_51 : decode jdk_29_method_22_code 51 = .ok (.lload 8, 2) := by decide +kernel
theorem d13_53 : decode jdk_29_method_22_code 53 = .ok (.lneg, 1) := by decide +kernel
theorem d13_54 : decode jdk_29_method_22_code 54 = .ok (.lstore 8, 2) := by decide +kernel
theorem d13_56 : decode jdk_29_method_22_code 56 = .ok (.lload 8, 2) := by decide +kernel
theorem d13_58 : decode jdk_29_method_22_code 58 = .ok (.lload 6, 2) := by decide +kernel
theorem d13_60 : decode jdk_29_method_22_code 60 = .ok (.l2i, 1) := by decide +kernel
theorem d13_61 : decode jdk_29_method_22_code 61 = .ok (.lshr, 1) := by decide +kernel
theorem d13_62 : decode jdk_29_method_22_code 62 = .ok (.lconst 1, 1) := by decide +kernel
theorem d13_63 : decode jdk_29_method_22_code 63 = .ok (.ladd, 1) := by decide +kernel
theorem d13_64 : decode jdk_29_method_22_code 64 = .ok (.iconst 1, 1) := by decide +kernel
theorem d13_65 : decode jdk_29_method_22_code 65 = .ok (.lshr, 1) := by decide +kernel
theorem d13_66 : decode jdk_29_method_22_code 66 = .ok (.lreturn, 1) := by decide +kernel
theorem d13_67 : decode jdk_29_method_22_code 67 = .ok (.dload_n 0, 1) := by decide +kernel
theorem d13_68 : decode jdk_29_method_22_code 68 = .ok (.d2l, 1) := by decide +kernel
theorem d13_69 : decode jdk_29_method_22_code 69 = .ok (.lreturn, 1) := by decide +kernel
theorem pn_13 : plainFor (⟨"java/lang/Math", "round", "(D)J"⟩ : MethodName) = true := by first | exact plainFor_of_name (by first | (simp [plainName, overriddenIn]; done) | decide +kernel) | decide +kernel | exact Jvm.Free.JP.mathPlain rfl (by decide +kernel)
theorem ef_13 (m : MethodId) (d0 : UInt64) : entryFrame m #[(.double d0)] 10 = mkF m 0 #[.val (.double d0), .second, .unset, .unset, .unset, .unset, .unset, .unset, .unset, .unset] [] := by first | (simp [entryFrame, mkF, argsToLocals, Value.category]; done) | rfl
def Q13 (Z : State) (d0 : UInt64) (h0 : Heap) (n0 : Nat) (v : Option Value) (h : Heap) (L : List Loc) : Prop := v = some (.long (own_round d0)) ∧ Fr n0 L ∧ h = h0
set_option maxRecDepth 65536 in
set_option maxHeartbeats 40000000 in
theorem rm13 (l : Launch) (Z : State) (a0 : Array Value) (hw : ∀ d ∈ tables_1, d.before a0 Z = true) (ws : List Jvm.Cond) (d0 : UInt64) (h0 : Heap) (n0 : Nat) (Z0 : n0 ≤ h0.size) :
    MetFree l (⟨"java/lang/Math", "round", "(D)J"⟩ : MethodName) (head1 (Jvm.Cond.code (⟨"java/lang/Math", "round", "(D)J"⟩ : MethodName) jdk_29_method_22_code 10 (some .long) :: ws) ({ frames := 1, cells := 0, slots := 0, locals := 30 } : Room)) (fun a U => a = #[(.double d0)] ∧ Z.Warmed39 U.vm ∧ U.heap = h0) (fun _ _ _ _ _ => True) (fun _ U o U' => ∃ v L, o = .returned v ∧ Q13 Z d0 h0 n0 v U'.heap L ∧ FrameEnd U o U' L ({ frames := 1, cells := 0, slots := 0, locals := 30 } : Room).cells ({ frames := 1, cells := 0, slots := 0, locals := 30 } : Room).slots) := by
  refine MetFree.of_bodySF pn_13 hisR ?_
  intro p e s m args below meth c s₁ Bd hml0 hP hK
  obtain ⟨rfl, hZ, hh⟩ := hP
  have hx := Bd.exec
  have hby := Bd.bytes
  have hml : c.maxLocals = 10 := hml0
  have hown : s.vm.findClass "java/lang/Math" = some m.cls := findClass_of_methodNamed Bd.named
  have hnm := (name_of_methodNamed Bd.named Bd.method).1
  have X0 : Stand p l e ({ frames := 1, cells := 0, slots := 0, locals := 30 } : Room) s m #[(.double d0)] below meth c s₁ [] 0 0 := Stand.of_body Bd
  have e0 : s₁.heap = h0 := by rw [← hh, Bd.state]; rfl
  have N0 := Fr.nil n0
  refine own_at (castTop (ef_13 m d0)) ?_
  have sg1 : ∀ t, own_S p e below s₁ (mkF m 1 (own_ADWUUUUUUUU d0) [(.double d0)]) t → own_S p e below s₁ (mkF m 0 (own_ADWUUUUUUUU d0) []) t := by
    intro t k
    refine XS.dloadN X0.here hx rfl (hb hby d13_0) rfl ?_
    exact k
  refine own_by sg1 ?_
  obtain ⟨vm1, X1, st1⟩ := X0.doubleToRawLongBits hx hown (mvT hZ (own_w hw 91 rfl)) (mvT hZ (own_w hw 94 rfl)) (mvT hZ (own_w hw 92 rfl)) (mvT hZ (own_w hw 93 rfl)) (g := (mkF m 1 (own_ADWUUUUUUUU d0) [(.double d0)])) rfl (by rw [hml]; rfl) (rest := []) (b := d0) rfl (hb hby d13_1) (by decide) (by show 2 * 0 + 0 + _ ≤ _; decide)
  obtain ⟨T1, hT1⟩ : ∃ U, U = s₁.setVm vm1 := ⟨_, rfl⟩
  rw [← hT1] at X1 st1
  have e1 : T1.heap = h0 := by rw [hT1]; exact e0
  refine own_by st1 ?_
  have sg31 : ∀ t, own_S p e below T1 (mkF m 31 (own_ADWJWJWJWUU d0 (d0.toInt64) (((d0.toInt64) &&& (9218868437227405312 : Int64)) >>> ((52 : Int32) &&& 0x3f).toInt64) ((1074 : Int64) - (((d0.toInt64) &&& (9218868437227405312 : Int64)) >>> ((52 : Int32) &&& 0x3f).toInt64))) [(.int (lcmpW (((1074 : Int64) - (((d0.toInt64) &&& (9218868437227405312 : Int64)) >>> ((52 : Int32) &&& 0x3f).toInt64)) &&& (-64 : Int64)) (0 : Int64)))]) t → own_S p e below T1 (mkF m 4 (own_ADWUUUUUUUU d0) [(.long (d0.toInt64))]) t := by
    intro t k
    refine XS.lstoreN X1.here hx rfl (hb hby d13_4) rfl (l' := (own_ADWJWUUUUUU d0 (d0.toInt64))) rfl ?_
    show own_S p e below T1 (mkF m 5 (own_ADWJWUUUUUU d0 (d0.toInt64)) []) _
    refine XS.lloadN X1.here hx rfl (hb hby d13_5) rfl ?_
    show own_S p e below T1 (mkF m 6 (own_ADWJWUUUUUU d0 (d0.toInt64)) [(.long (d0.toInt64))]) _
    refine X1.ldc2Long hx hown (mvT hZ (own_w hw 95 rfl)) (g := (mkF m 6 (own_ADWJWUUUUUU d0 (d0.toInt64)) [(.long (d0.toInt64))])) rfl (hb hby d13_6) _ ?_
    show own_S p e below T1 (mkF m 9 (own_ADWJWUUUUUU d0 (d0.toInt64)) [(.long (9218868437227405312 : Int64)), (.long (d0.toInt64))]) _
    refine XS.land X1.here hx rfl (hb hby d13_9) rfl ?_
    show own_S p e below T1 (mkF m 10 (own_ADWJWUUUUUU d0 (d0.toInt64)) [(.long ((d0.toInt64) &&& (9218868437227405312 : Int64)))]) _
    refine XS.bipush X1.here hx rfl (hb hby d13_10) ?_
    show own_S p e below T1 (mkF m 12 (own_ADWJWUUUUUU d0 (d0.toInt64)) [(.int (52 : Int32)), (.long ((d0.toInt64) &&& (9218868437227405312 : Int64)))]) _
    refine XS.lshr X1.here hx rfl (hb hby d13_12) rfl ?_
    show own_S p e below T1 (mkF m 13 (own_ADWJWUUUUUU d0 (d0.toInt64)) [(.long (((d0.toInt64) &&& (9218868437227405312 : Int64)) >>> ((52 : Int32) &&& 0x3f).toInt64))]) _
    refine XS.lstore X1.here hx rfl (hb hby d13_13) rfl (l' := (own_ADWJWJWUUUU d0 (d0.toInt64) (((d0.toInt64) &&& (9218868437227405312 : Int64)) >>> ((52 : Int32) &&& 0x3f).toInt64))) rfl ?_
    show own_S p e below T1 (mkF m 15 (own_ADWJWJWUUUU d0 (d0.toInt64) (((d0.toInt64) &&& (9218868437227405312 : Int64)) >>> ((52 : Int32) &&& 0x3f).toInt64)) []) _
    refine X1.ldc2Long hx hown (mvT hZ (own_w hw 96 rfl)) (g := (mkF m 15 (own_ADWJWJWUUUU d0 (d0.toInt64) (((d0.toInt64) &&& (9218868437227405312 : Int64)) >>> ((52 : Int32) &&& 0x3f).toInt64)) [])) rfl (hb hby d13_15) _ ?_
    show own_S p e below T1 (mkF m 18 (own_ADWJWJWUUUU d0 (d0.toInt64) (((d0.toInt64) &&& (9218868437227405312 : Int64)) >>> ((52 : Int32) &&& 0x3f).toInt64)) [(.long (1074 : Int64))]) _
    refine XS.lload X1.here hx rfl (hb hby d13_18) rfl ?_
    show own_S p e below T1 (mkF m 20 (own_ADWJWJWUUUU d0 (d0.toInt64) (((d0.toInt64) &&& (9218868437227405312 : Int64)) >>> ((52 : Int32) &&& 0x3f).toInt64)) [(.long (((d0.toInt64) &&& (9218868437227405312 : Int64)) >>> ((52 : Int32) &&& 0x3f).toInt64)), (.long (1074 : Int64))]) _
    refine XS.lsub X1.here hx rfl (hb hby d13_20) rfl ?_
    show own_S p e below T1 (mkF m 21 (own_ADWJWJWUUUU d0 (d0.toInt64) (((d0.toInt64) &&& (9218868437227405312 : Int64)) >>> ((52 : Int32) &&& 0x3f).toInt64)) [(.long ((1074 : Int64) - (((d0.toInt64) &&& (9218868437227405312 : Int64)) >>> ((52 : Int32) &&& 0x3f).toInt64)))]) _
    refine XS.lstore X1.here hx rfl (hb hby d13_21) rfl (l' := (own_ADWJWJWJWUU d0 (d0.toInt64) (((d0.toInt64) &&& (9218868437227405312 : Int64)) >>> ((52 : Int32) &&& 0x3f).toInt64) ((1074 : Int64) - (((d0.toInt64) &&& (9218868437227405312 : Int64)) >>> ((52 : Int32) &&& 0x3f).toInt64)))) rfl ?_
    show own_S p e below T1 (mkF m 23 (own_ADWJWJWJWUU d0 (d0.toInt64) (((d0.toInt64) &&& (9218868437227405312 : Int64)) >>> ((52 : Int32) &&& 0x3f).toInt64) ((1074 : Int64) - (((d0.toInt64) &&& (9218868437227405312 : Int64)) >>> ((52 : Int32) &&& 0x3f).toInt64))) []) _
    refine XS.lload X1.here hx rfl (hb hby d13_23) rfl ?_
    show own_S p e below T1 (mkF m 25 (own_ADWJWJWJWUU d0 (d0.toInt64) (((d0.toInt64) &&& (9218868437227405312 : Int64)) >>> ((52 : Int32) &&& 0x3f).toInt64) ((1074 : Int64) - (((d0.toInt64) &&& (9218868437227405312 : Int64)) >>> ((52 : Int32) &&& 0x3f).toInt64))) [(.long ((1074 : Int64) - (((d0.toInt64) &&& (9218868437227405312 : Int64)) >>> ((52 : Int32) &&& 0x3f).toInt64)))]) _
    refine X1.ldc2Long hx hown (mvT hZ (own_w hw 97 rfl)) (g := (mkF m 25 (own_ADWJWJWJWUU d0 (d0.toInt64) (((d0.toInt64) &&& (9218868437227405312 : Int64)) >>> ((52 : Int32) &&& 0x3f).toInt64) ((1074 : Int64) - (((d0.toInt64) &&& (9218868437227405312 : Int64)) >>> ((52 : Int32) &&& 0x3f).toInt64))) [(.long ((1074 : Int64) - (((d0.toInt64) &&& (9218868437227405312 : Int64)) >>> ((52 : Int32) &&& 0x3f).toInt64)))])) rfl (hb hby d13_25) _ ?_
    show own_S p e below T1 (mkF m 28 (own_ADWJWJWJWUU d0 (d0.toInt64) (((d0.toInt64) &&& (9218868437227405312 : Int64)) >>> ((52 : Int32) &&& 0x3f).toInt64) ((1074 : Int64) - (((d0.toInt64) &&& (9218868437227405312 : Int64)) >>> ((52 : Int32) &&& 0x3f).toInt64))) [(.long (-64 : Int64)), (.long ((1074 : Int64) - (((d0.toInt64) &&& (9218868437227405312 : Int64)) >>> ((52 : Int32) &&& 0x3f).toInt64)))]) _
    refine XS.land X1.here hx rfl (hb hby d13_28) rfl ?_
    show own_S p e below T1 (mkF m 29 (own_ADWJWJWJWUU d0 (d0.toInt64) (((d0.toInt64) &&& (9218868437227405312 : Int64)) >>> ((52 : Int32) &&& 0x3f).toInt64) ((1074 : Int64) - (((d0.toInt64) &&& (9218868437227405312 : Int64)) >>> ((52 : Int32) &&& 0x3f).toInt64))) [(.long (((1074 : Int64) - (((d0.toInt64) &&& (9218868437227405312 : Int64)) >>> ((52 : Int32) &&& 0x3f).toInt64)) &&& (-64 : Int64)))]) _
    refine XS.lconst X1.here hx rfl (hb hby d13_29) ?_
    show own_S p e below T1 (mkF m 30 (own_ADWJWJWJWUU d0 (d0.toInt64) (((d0.toInt64) &&& (9218868437227405312 : Int64)) >>> ((52 : Int32) &&& 0x3f).toInt64) ((1074 : Int64) - (((d0.toInt64) &&& (9218868437227405312 : Int64)) >>> ((52 : Int32) &&& 0x3f).toInt64))) [(.long (0 : Int64)), (.long (((1074 : Int64) - (((d0.toInt64) &&& (9218868437227405312 : Int64)) >>> ((52 : Int32) &&& 0x3f).toInt64)) &&& (-64 : Int64)))]) _
    refine XS.lcmp X1.here hx rfl (hb hby d13_30) rfl ?_
    exact k
  refine own_by sg31 ?_
  by_cases hc31 : (lcmpW (((1074 : Int64) - (((d0.toInt64) &&& (9218868437227405312 : Int64)) >>> ((52 : Int32) &&& 0x3f).toInt64)) &&& (-64 : Int64)) (0 : Int64)) = (0 : Int32)
  · have sg48 : ∀ t, own_S p e below T1 (mkF m 48 (own_ADWJWJWJWJW d0 (d0.toInt64) (((d0.toInt64) &&& (9218868437227405312 : Int64)) >>> ((52 : Int32) &&& 0x3f).toInt64) ((1074 : Int64) - (((d0.toInt64) &&& (9218868437227405312 : Int64)) >>> ((52 : Int32) &&& 0x3f).toInt64)) (((d0.toInt64) &&& (4503599627370495 : Int64)) ||| (4503599627370496 : Int64))) [(.int (lcmpW (d0.toInt64) (0 : Int64)))]) t → own_S p e below T1 (mkF m 31 (own_ADWJWJWJWUU d0 (d0.toInt64) (((d0.toInt64) &&& (9218868437227405312 : Int64)) >>> ((52 : Int32) &&& 0x3f).toInt64) ((1074 : Int64) - (((d0.toInt64) &&& (9218868437227405312 : Int64)) >>> ((52 : Int32) &&& 0x3f).toInt64))) [(.int (lcmpW (((1074 : Int64) - (((d0.toInt64) &&& (9218868437227405312 : Int64)) >>> ((52 : Int32) &&& 0x3f).toInt64)) &&& (-64 : Int64)) (0 : Int64)))]) t := by
      intro t k
      refine XS.ifNo X1.here hx rfl (hb hby d13_31) rfl ((if0 _ _).trans (teq hc31).2) ?_
      show own_S p e below T1 (mkF m 34 (own_ADWJWJWJWUU d0 (d0.toInt64) (((d0.toInt64) &&& (9218868437227405312 : Int64)) >>> ((52 : Int32) &&& 0x3f).toInt64) ((1074 : Int64) - (((d0.toInt64) &&& (9218868437227405312 : Int64)) >>> ((52 : Int32) &&& 0x3f).toInt64))) []) _
      refine XS.lloadN X1.here hx rfl (hb hby d13_34) rfl ?_
      show own_S p e below T1 (mkF m 35 (own_ADWJWJWJWUU d0 (d0.toInt64) (((d0.toInt64) &&& (9218868437227405312 : Int64)) >>> ((52 : Int32) &&& 0x3f).toInt64) ((1074 : Int64) - (((d0.toInt64) &&& (9218868437227405312 : Int64)) >>> ((52 : Int32) &&& 0x3f).toInt64))) [(.long (d0.toInt64))]) _
      refine X1.ldc2Long hx hown (mvT hZ (own_w hw 98 rfl)) (g := (mkF m 35 (own_ADWJWJWJWUU d0 (d0.toInt64) (((d0.toInt64) &&& (9218868437227405312 : Int64)) >>> ((52 : Int32) &&& 0x3f).toInt64) ((1074 : Int64) - (((d0.toInt64) &&& (9218868437227405312 : Int64)) >>> ((52 : Int32) &&& 0x3f).toInt64))) [(.long (d0.toInt64))])) rfl (hb hby d13_35) _ ?_
      show own_S p e below T1 (mkF m 38 (own_ADWJWJWJWUU d0 (d0.toInt64) (((d0.toInt64) &&& (9218868437227405312 : Int64)) >>> ((52 : Int32) &&& 0x3f).toInt64) ((1074 : Int64) - (((d0.toInt64) &&& (9218868437227405312 : Int64)) >>> ((52 : Int32) &&& 0x3f).toInt64))) [(.long (4503599627370495 : Int64)), (.long (d0.toInt64))]) _
      refine XS.land X1.here hx rfl (hb hby d13_38) rfl ?_
      show own_S p e below T1 (mkF m 39 (own_ADWJWJWJWUU d0 (d0.toInt64) (((d0.toInt64) &&& (9218868437227405312 : Int64)) >>> ((52 : Int32) &&& 0x3f).toInt64) ((1074 : Int64) - (((d0.toInt64) &&& (9218868437227405312 : Int64)) >>> ((52 : Int32) &&& 0x3f).toInt64))) [(.long ((d0.toInt64) &&& (4503599627370495 : Int64)))]) _
      refine X1.ldc2Long hx hown (mvT hZ (own_w hw 99 rfl)) (g := (mkF m 39 (own_ADWJWJWJWUU d0 (d0.toInt64) (((d0.toInt64) &&& (9218868437227405312 : Int64)) >>> ((52 : Int32) &&& 0x3f).toInt64) ((1074 : Int64) - (((d0.toInt64) &&& (9218868437227405312 : Int64)) >>> ((52 : Int32) &&& 0x3f).toInt64))) [(.long ((d0.toInt64) &&& (4503599627370495 : Int64)))])) rfl (hb hby d13_39) _ ?_
      show own_S p e below T1 (mkF m 42 (own_ADWJWJWJWUU d0 (d0.toInt64) (((d0.toInt64) &&& (9218868437227405312 : Int64)) >>> ((52 : Int32) &&& 0x3f).toInt64) ((1074 : Int64) - (((d0.toInt64) &&& (9218868437227405312 : Int64)) >>> ((52 : Int32) &&& 0x3f).toInt64))) [(.long (4503599627370496 : Int64)), (.long ((d0.toInt64) &&& (4503599627370495 : Int64)))]) _
      refine XS.lor X1.here hx rfl (hb hby d13_42) rfl ?_
      show own_S p e below T1 (mkF m 43 (own_ADWJWJWJWUU d0 (d0.toInt64) (((d0.toInt64) &&& (9218868437227405312 : Int64)) >>> ((52 : Int32) &&& 0x3f).toInt64) ((1074 : Int64) - (((d0.toInt64) &&& (9218868437227405312 : Int64)) >>> ((52 : Int32) &&& 0x3f).toInt64))) [(.long (((d0.toInt64) &&& (4503599627370495 : Int64)) ||| (4503599627370496 : Int64)))]) _
      refine XS.lstore X1.here hx rfl (hb hby d13_43) rfl (l' := (own_ADWJWJWJWJW d0 (d0.toInt64) (((d0.toInt64) &&& (9218868437227405312 : Int64)) >>> ((52 : Int32) &&& 0x3f).toInt64) ((1074 : Int64) - (((d0.toInt64) &&& (9218868437227405312 : Int64)) >>> ((52 : Int32) &&& 0x3f).toInt64)) (((d0.toInt64) &&& (4503599627370495 : Int64)) ||| (4503599627370496 : Int64)))) rfl ?_
      show own_S p e below T1 (mkF m 45 (own_ADWJWJWJWJW d0 (d0.toInt64) (((d0.toInt64) &&& (9218868437227405312 : Int64)) >>> ((52 : Int32) &&& 0x3f).toInt64) ((1074 : Int64) - (((d0.toInt64) &&& (9218868437227405312 : Int64)) >>> ((52 : Int32) &&& 0x3f).toInt64)) (((d0.toInt64) &&& (4503599627370495 : Int64)) ||| (4503599627370496 : Int64))) []) _
      refine XS.lloadN X1.here hx rfl (hb hby d13_45) rfl ?_
      show own_S p e below T1 (mkF m 46 (own_ADWJWJWJWJW d0 (d0.toInt64) (((d0.toInt64) &&& (9218868437227405312 : Int64)) >>> ((52 : Int32) &&& 0x3f).toInt64) ((1074 : Int64) - (((d0.toInt64) &&& (9218868437227405312 : Int64)) >>> ((52 : Int32) &&& 0x3f).toInt64)) (((d0.toInt64) &&& (4503599627370495 : Int64)) ||| (4503599627370496 : Int64))) [(.long (d0.toInt64))]) _
      refine XS.lconst X1.here hx rfl (hb hby d13_46) ?_
      show own_S p e below T1 (mkF m 47 (own_ADWJWJWJWJW d0 (d0.toInt64) (((d0.toInt64) &&& (9218868437227405312 : Int64)) >>> ((52 : Int32) &&& 0x3f).toInt64) ((1074 : Int64) - (((d0.toInt64) &&& (9218868437227405312 : Int64)) >>> ((52 : Int32) &&& 0x3f).toInt64)) (((d0.toInt64) &&& (4503599627370495 : Int64)) ||| (4503599627370496 : Int64))) [(.long (0 : Int64)), (.long (d0.toInt64))]) _
      refine XS.lcmp X1.here hx rfl (hb hby d13_47) rfl ?_
      exact k
    refine own_by sg48 ?_
    by_cases hc48 : (lcmpW (d0.toInt64) (0 : Int64)) < (0 : Int32)
    · have sg66 : ∀ t, own_S p e below T1 (mkF m 66 (own_ADWJWJWJWJW d0 (d0.toInt64) (((d0.toInt64) &&& (9218868437227405312 : Int64)) >>> ((52 : Int32) &&& 0x3f).toInt64) ((1074 : Int64) - (((d0.toInt64) &&& (9218868437227405312 : Int64)) >>> ((52 : Int32) &&& 0x3f).toInt64)) (-(((d0.toInt64) &&& (4503599627370495 : Int64)) ||| (4503599627370496 : Int64)))) [(.long ((((-(((d0.toInt64) &&& (4503599627370495 : Int64)) ||| (4503599627370496 : Int64))) >>> ((((1074 : Int64) - (((d0.toInt64) &&& (9218868437227405312 : Int64)) >>> ((52 : Int32) &&& 0x3f).toInt64)).toInt32) &&& 0x3f).toInt64) + (1 : Int64)) >>> ((1 : Int32) &&& 0x3f).toInt64))]) t → own_S p e below T1 (mkF m 48 (own_ADWJWJWJWJW d0 (d0.toInt64) (((d0.toInt64) &&& (9218868437227405312 : Int64)) >>> ((52 : Int32) &&& 0x3f).toInt64) ((1074 : Int64) - (((d0.toInt64) &&& (9218868437227405312 : Int64)) >>> ((52 : Int32) &&& 0x3f).toInt64)) (((d0.toInt64) &&& (4503599627370495 : Int64)) ||| (4503599627370496 : Int64))) [(.int (lcmpW (d0.toInt64) (0 : Int64)))]) t := by
        intro t k
        refine XS.ifNo X1.here hx rfl (hb hby d13_48) rfl ((if0 _ _).trans (tlt hc48).2.1) ?_
        show own_S p e below T1 (mkF m 51 (own_ADWJWJWJWJW d0 (d0.toInt64) (((d0.toInt64) &&& (9218868437227405312 : Int64)) >>> ((52 : Int32) &&& 0x3f).toInt64) ((1074 : Int64) - (((d0.toInt64) &&& (9218868437227405312 : Int64)) >>> ((52 : Int32) &&& 0x3f).toInt64)) (((d0.toInt64) &&& (4503599627370495 : Int64)) ||| (4503599627370496 : Int64))) []) _
        refine XS.lload X1.here hx rfl (hb hby d13_51) rfl ?_
        show own_S p e below T1 (mkF m 53 (own_ADWJWJWJWJW d0 (d0.toInt64) (((d0.toInt64) &&& (9218868437227405312 : Int64)) >>> ((52 : Int32) &&& 0x3f).toInt64) ((1074 : Int64) - (((d0.toInt64) &&& (9218868437227405312 : Int64)) >>> ((52 : Int32) &&& 0x3f).toInt64)) (((d0.toInt64) &&& (4503599627370495 : Int64)) ||| (4503599627370496 : Int64))) [(.long (((d0.toInt64) &&& (4503599627370495 : Int64)) ||| (4503599627370496 : Int64)))]) _
        refine XS.lneg X1.here hx rfl (hb hby d13_53) rfl ?_
        show own_S p e below T1 (mkF m 54 (own_ADWJWJWJWJW d0 (d0.toInt64) (((d0.toInt64) &&& (9218868437227405312 : Int64)) >>> ((52 : Int32) &&& 0x3f).toInt64) ((1074 : Int64) - (((d0.toInt64) &&& (9218868437227405312 : Int64)) >>> ((52 : Int32) &&& 0x3f).toInt64)) (((d0.toInt64) &&& (4503599627370495 : Int64)) ||| (4503599627370496 : Int64))) [(.long (-(((d0.toInt64) &&& (4503599627370495 : Int64)) ||| (4503599627370496 : Int64))))]) _
        refine XS.lstore X1.here hx rfl (hb hby d13_54) rfl (l' := (own_ADWJWJWJWJW d0 (d0.toInt64) (((d0.toInt64) &&& (9218868437227405312 : Int64)) >>> ((52 : Int32) &&& 0x3f).toInt64) ((1074 : Int64) - (((d0.toInt64) &&& (9218868437227405312 : Int64)) >>> ((52 : Int32) &&& 0x3f).toInt64)) (-(((d0.toInt64) &&& (4503599627370495 : Int64)) ||| (4503599627370496 : Int64))))) rfl ?_
        show own_S p e below T1 (mkF m 56 (own_ADWJWJWJWJW d0 (d0.toInt64) (((d0.toInt64) &&& (9218868437227405312 : Int64)) >>> ((52 : Int32) &&& 0x3f).toInt64) ((1074 : Int64) - (((d0.toInt64) &&& (9218868437227405312 : Int64)) >>> ((52 : Int32) &&& 0x3f).toInt64)) (-(((d0.toInt64) &&& (4503599627370495 : Int64)) ||| (4503599627370496 : Int64)))) []) _
        refine XS.lload X1.here hx rfl (hb hby d13_56) rfl ?_
        show own_S p e below T1 (mkF m 58 (own_ADWJWJWJWJW d0 (d0.toInt64) (((d0.toInt64) &&& (9218868437227405312 : Int64)) >>> ((52 : Int32) &&& 0x3f).toInt64) ((1074 : Int64) - (((d0.toInt64) &&& (9218868437227405312 : Int64)) >>> ((52 : Int32) &&& 0x3f).toInt64)) (-(((d0.toInt64) &&& (4503599627370495 : Int64)) ||| (4503599627370496 : Int64)))) [(.long (-(((d0.toInt64) &&& (4503599627370495 : Int64)) ||| (4503599627370496 : Int64))))]) _
        refine XS.lload X1.here hx rfl (hb hby d13_58) rfl ?_
        show own_S p e below T1 (mkF m 60 (own_ADWJWJWJWJW d0 (d0.toInt64) (((d0.toInt64) &&& (9218868437227405312 : Int64)) >>> ((52 : Int32) &&& 0x3f).toInt64) ((1074 : Int64) - (((d0.toInt64) &&& (9218868437227405312 : Int64)) >>> ((52 : Int32) &&& 0x3f).toInt64)) (-(((d0.toInt64) &&& (4503599627370495 : Int64)) ||| (4503599627370496 : Int64)))) [(.long ((1074 : Int64) - (((d0.toInt64) &&& (9218868437227405312 : Int64)) >>> ((52 : Int32) &&& 0x3f).toInt64))), (.long (-(((d0.toInt64) &&& (4503599627370495 : Int64)) ||| (4503599627370496 : Int64))))]) _
        refine XS.l2i X1.here hx rfl (hb hby d13_60) rfl ?_
        show own_S p e below T1 (mkF m 61 (own_ADWJWJWJWJW d0 (d0.toInt64) (((d0.toInt64) &&& (9218868437227405312 : Int64)) >>> ((52 : Int32) &&& 0x3f).toInt64) ((1074 : Int64) - (((d0.toInt64) &&& (9218868437227405312 : Int64)) >>> ((52 : Int32) &&& 0x3f).toInt64)) (-(((d0.toInt64) &&& (4503599627370495 : Int64)) ||| (4503599627370496 : Int64)))) [(.int (((1074 : Int64) - (((d0.toInt64) &&& (9218868437227405312 : Int64)) >>> ((52 : Int32) &&& 0x3f).toInt64)).toInt32)), (.long (-(((d0.toInt64) &&& (4503599627370495 : Int64)) ||| (4503599627370496 : Int64))))]) _
        refine XS.lshr X1.here hx rfl (hb hby d13_61) rfl ?_
        show own_S p e below T1 (mkF m 62 (own_ADWJWJWJWJW d0 (d0.toInt64) (((d0.toInt64) &&& (9218868437227405312 : Int64)) >>> ((52 : Int32) &&& 0x3f).toInt64) ((1074 : Int64) - (((d0.toInt64) &&& (9218868437227405312 : Int64)) >>> ((52 : Int32) &&& 0x3f).toInt64)) (-(((d0.toInt64) &&& (4503599627370495 : Int64)) ||| (4503599627370496 : Int64)))) [(.long ((-(((d0.toInt64) &&& (4503599627370495 : Int64)) ||| (4503599627370496 : Int64))) >>> ((((1074 : Int64) - (((d0.toInt64) &&& (9218868437227405312 : Int64)) >>> ((52 : Int32) &&& 0x3f).toInt64)).toInt32) &&& 0x3f).toInt64))]) _
        refine XS.lconst X1.here hx rfl (hb hby d13_62) ?_
        show own_S p e below T1 (mkF m 63 (own_ADWJWJWJWJW d0 (d0.toInt64) (((d0.toInt64) &&& (9218868437227405312 : Int64)) >>> ((52 : Int32) &&& 0x3f).toInt64) ((1074 : Int64) - (((d0.toInt64) &&& (9218868437227405312 : Int64)) >>> ((52 : Int32) &&& 0x3f).toInt64)) (-(((d0.toInt64) &&& (4503599627370495 : Int64)) ||| (4503599627370496 : Int64)))) [(.long (1 : Int64)), (.long ((-(((d0.toInt64) &&& (4503599627370495 : Int64)) ||| (4503599627370496 : Int64))) >>> ((((1074 : Int64) - (((d0.toInt64) &&& (9218868437227405312 : Int64)) >>> ((52 : Int32) &&& 0x3f).toInt64)).toInt32) &&& 0x3f).toInt64))]) _
        refine XS.ladd X1.here hx rfl (hb hby d13_63) rfl ?_
        show own_S p e below T1 (mkF m 64 (own_ADWJWJWJWJW d0 (d0.toInt64) (((d0.toInt64) &&& (9218868437227405312 : Int64)) >>> ((52 : Int32) &&& 0x3f).toInt64) ((1074 : Int64) - (((d0.toInt64) &&& (9218868437227405312 : Int64)) >>> ((52 : Int32) &&& 0x3f).toInt64)) (-(((d0.toInt64) &&& (4503599627370495 : Int64)) ||| (4503599627370496 : Int64)))) [(.long (((-(((d0.toInt64) &&& (4503599627370495 : Int64)) ||| (4503599627370496 : Int64))) >>> ((((1074 : Int64) - (((d0.toInt64) &&& (9218868437227405312 : Int64)) >>> ((52 : Int32) &&& 0x3f).toInt64)).toInt32) &&& 0x3f).toInt64) + (1 : Int64)))]) _
        refine XS.iconst X1.here hx rfl (hb hby d13_64) ?_
        show own_S p e below T1 (mkF m 65 (own_ADWJWJWJWJW d0 (d0.toInt64) (((d0.toInt64) &&& (9218868437227405312 : Int64)) >>> ((52 : Int32) &&& 0x3f).toInt64) ((1074 : Int64) - (((d0.toInt64) &&& (9218868437227405312 : Int64)) >>> ((52 : Int32) &&& 0x3f).toInt64)) (-(((d0.toInt64) &&& (4503599627370495 : Int64)) ||| (4503599627370496 : Int64)))) [(.int (1 : Int32)), (.long (((-(((d0.toInt64) &&& (4503599627370495 : Int64)) ||| (4503599627370496 : Int64))) >>> ((((1074 : Int64) - (((d0.toInt64) &&& (9218868437227405312 : Int64)) >>> ((52 : Int32) &&& 0x3f).toInt64)).toInt32) &&& 0x3f).toInt64) + (1 : Int64)))]) _
        refine XS.lshr X1.here hx rfl (hb hby d13_65) rfl ?_
        exact k
      refine own_by sg66 ?_
      obtain ⟨fs, hr, hrun, hended, hW, hsame⟩ := X1.leave (v := some (.long ((((-(((d0.toInt64) &&& (4503599627370495 : Int64)) ||| (4503599627370496 : Int64))) >>> ((((1074 : Int64) - (((d0.toInt64) &&& (9218868437227405312 : Int64)) >>> ((52 : Int32) &&& 0x3f).toInt64)).toInt32) &&& 0x3f).toInt64) + (1 : Int64)) >>> ((1 : Int32) &&& 0x3f).toInt64))) (fun h => by rw [Bd.returns] at h; cases h)
      refine ⟨_, _, ?_, hrun, hended, _, _, rfl, ?_, ⟨_, rfl⟩, hW, hsame.mono (by decide) (by decide)⟩
      · exact X1.lreturnOut hx Bd.returns (hb hby d13_66) hr
      · show Q13 Z d0 h0 n0 _ T1.heap _
        rw [e1]
        exact ⟨by unfold own_round; rw [if_pos hc31, if_pos hc48], N0, rfl⟩
    · have sg66 : ∀ t, own_S p e below T1 (mkF m 66 (own_ADWJWJWJWJW d0 (d0.toInt64) (((d0.toInt64) &&& (9218868437227405312 : Int64)) >>> ((52 : Int32) &&& 0x3f).toInt64) ((1074 : Int64) - (((d0.toInt64) &&& (9218868437227405312 : Int64)) >>> ((52 : Int32) &&& 0x3f).toInt64)) (((d0.toInt64) &&& (4503599627370495 : Int64)) ||| (4503599627370496 : Int64))) [(.long ((((((d0.toInt64) &&& (4503599627370495 : Int64)) ||| (4503599627370496 : Int64)) >>> ((((1074 : Int64) - (((d0.toInt64) &&& (9218868437227405312 : Int64)) >>> ((52 : Int32) &&& 0x3f).toInt64)).toInt32) &&& 0x3f).toInt64) + (1 : Int64)) >>> ((1 : Int32) &&& 0x3f).toInt64))]) t → own_S p e below T1 (mkF m 48 (own_ADWJWJWJWJW d0 (d0.toInt64) (((d0.toInt64) &&& (9218868437227405312 : Int64)) >>> ((52 : Int32) &&& 0x3f).toInt64) ((1074 : Int64) - (((d0.toInt64) &&& (9218868437227405312 : Int64)) >>> ((52 : Int32) &&& 0x3f).toInt64)) (((d0.toInt64) &&& (4503599627370495 : Int64)) ||| (4503599627370496 : Int64))) [(.int (lcmpW (d0.toInt64) (0 : Int64)))]) t := by
        intro t k
        refine XS.ifYes X1.here hx rfl (pc0 := 48) (pc' := 56) rfl (hb hby d13_48) rfl ((if0 _ _).trans (flt hc48).2.1) (by decide) (by decide) ?_
        show own_S p e below T1 (mkF m 56 (own_ADWJWJWJWJW d0 (d0.toInt64) (((d0.toInt64) &&& (9218868437227405312 : Int64)) >>> ((52 : Int32) &&& 0x3f).toInt64) ((1074 : Int64) - (((d0.toInt64) &&& (9218868437227405312 : Int64)) >>> ((52 : Int32) &&& 0x3f).toInt64)) (((d0.toInt64) &&& (4503599627370495 : Int64)) ||| (4503599627370496 : Int64))) []) _
        refine XS.lload X1.here hx rfl (hb hby d13_56) rfl ?_
        show own_S p e below T1 (mkF m 58 (own_ADWJWJWJWJW d0 (d0.toInt64) (((d0.toInt64) &&& (9218868437227405312 : Int64)) >>> ((52 : Int32) &&& 0x3f).toInt64) ((1074 : Int64) - (((d0.toInt64) &&& (9218868437227405312 : Int64)) >>> ((52 : Int32) &&& 0x3f).toInt64)) (((d0.toInt64) &&& (4503599627370495 : Int64)) ||| (4503599627370496 : Int64))) [(.long (((d0.toInt64) &&& (4503599627370495 : Int64)) ||| (4503599627370496 : Int64)))]) _
        refine XS.lload X1.here hx rfl (hb hby d13_58) rfl ?_
        show own_S p e below T1 (mkF m 60 (own_ADWJWJWJWJW d0 (d0.toInt64) (((d0.toInt64) &&& (9218868437227405312 : Int64)) >>> ((52 : Int32) &&& 0x3f).toInt64) ((1074 : Int64) - (((d0.toInt64) &&& (9218868437227405312 : Int64)) >>> ((52 : Int32) &&& 0x3f).toInt64)) (((d0.toInt64) &&& (4503599627370495 : Int64)) ||| (4503599627370496 : Int64))) [(.long ((1074 : Int64) - (((d0.toInt64) &&& (9218868437227405312 : Int64)) >>> ((52 : Int32) &&& 0x3f).toInt64))), (.long (((d0.toInt64) &&& (4503599627370495 : Int64)) ||| (4503599627370496 : Int64)))]) _
        refine XS.l2i X1.here hx rfl (hb hby d13_60) rfl ?_
        show own_S p e below T1 (mkF m 61 (own_ADWJWJWJWJW d0 (d0.toInt64) (((d0.toInt64) &&& (9218868437227405312 : Int64)) >>> ((52 : Int32) &&& 0x3f).toInt64) ((1074 : Int64) - (((d0.toInt64) &&& (9218868437227405312 : Int64)) >>> ((52 : Int32) &&& 0x3f).toInt64)) (((d0.toInt64) &&& (4503599627370495 : Int64)) ||| (4503599627370496 : Int64))) [(.int (((1074 : Int64) - (((d0.toInt64) &&& (9218868437227405312 : Int64)) >>> ((52 : Int32) &&& 0x3f).toInt64)).toInt32)), (.long (((d0.toInt64) &&& (4503599627370495 : Int64)) ||| (4503599627370496 : Int64)))]) _
        refine XS.lshr X1.here hx rfl (hb hby d13_61) rfl ?_
        show own_S p e below T1 (mkF m 62 (own_ADWJWJWJWJW d0 (d0.toInt64) (((d0.toInt64) &&& (9218868437227405312 : Int64)) >>> ((52 : Int32) &&& 0x3f).toInt64) ((1074 : Int64) - (((d0.toInt64) &&& (9218868437227405312 : Int64)) >>> ((52 : Int32) &&& 0x3f).toInt64)) (((d0.toInt64) &&& (4503599627370495 : Int64)) ||| (4503599627370496 : Int64))) [(.long ((((d0.toInt64) &&& (4503599627370495 : Int64)) ||| (4503599627370496 : Int64)) >>> ((((1074 : Int64) - (((d0.toInt64) &&& (9218868437227405312 : Int64)) >>> ((52 : Int32) &&& 0x3f).toInt64)).toInt32) &&& 0x3f).toInt64))]) _
        refine XS.lconst X1.here hx rfl (hb hby d13_62) ?_
        show own_S p e below T1 (mkF m 63 (own_ADWJWJWJWJW d0 (d0.toInt64) (((d0.toInt64) &&& (9218868437227405312 : Int64)) >>> ((52 : Int32) &&& 0x3f).toInt64) ((1074 : Int64) - (((d0.toInt64) &&& (9218868437227405312 : Int64)) >>> ((52 : Int32) &&& 0x3f).toInt64)) (((d0.toInt64) &&& (4503599627370495 : Int64)) ||| (4503599627370496 : Int64))) [(.long (1 : Int64)), (.long ((((d0.toInt64) &&& (4503599627370495 : Int64)) ||| (4503599627370496 : Int64)) >>> ((((1074 : Int64) - (((d0.toInt64) &&& (9218868437227405312 : Int64)) >>> ((52 : Int32) &&& 0x3f).toInt64)).toInt32) &&& 0x3f).toInt64))]) _
        refine XS.ladd X1.here hx rfl (hb hby d13_63) rfl ?_
        show own_S p e below T1 (mkF m 64 (own_ADWJWJWJWJW d0 (d0.toInt64) (((d0.toInt64) &&& (9218868437227405312 : Int64)) >>> ((52 : Int32) &&& 0x3f).toInt64) ((1074 : Int64) - (((d0.toInt64) &&& (9218868437227405312 : Int64)) >>> ((52 : Int32) &&& 0x3f).toInt64)) (((d0.toInt64) &&& (4503599627370495 : Int64)) ||| (4503599627370496 : Int64))) [(.long (((((d0.toInt64) &&& (4503599627370495 : Int64)) ||| (4503599627370496 : Int64)) >>> ((((1074 : Int64) - (((d0.toInt64) &&& (9218868437227405312 : Int64)) >>> ((52 : Int32) &&& 0x3f).toInt64)).toInt32) &&& 0x3f).toInt64) + (1 : Int64)))]) _
        refine XS.iconst X1.here hx rfl (hb hby d13_64) ?_
        show own_S p e below T1 (mkF m 65 (own_ADWJWJWJWJW d0 (d0.toInt64) (((d0.toInt64) &&& (9218868437227405312 : Int64)) >>> ((52 : Int32) &&& 0x3f).toInt64) ((1074 : Int64) - (((d0.toInt64) &&& (9218868437227405312 : Int64)) >>> ((52 : Int32) &&& 0x3f).toInt64)) (((d0.toInt64) &&& (4503599627370495 : Int64)) ||| (4503599627370496 : Int64))) [(.int (1 : Int32)), (.long (((((d0.toInt64) &&& (4503599627370495 : Int64)) ||| (4503599627370496 : Int64)) >>> ((((1074 : Int64) - (((d0.toInt64) &&& (9218868437227405312 : Int64)) >>> ((52 : Int32) &&& 0x3f).toInt64)).toInt32) &&& 0x3f).toInt64) + (1 : Int64)))]) _
        refine XS.lshr X1.here hx rfl (hb hby d13_65) rfl ?_
        exact k
      refine own_by sg66 ?_
      obtain ⟨fs, hr, hrun, hended, hW, hsame⟩ := X1.leave (v := some (.long ((((((d0.toInt64) &&& (4503599627370495 : Int64)) ||| (4503599627370496 : Int64)) >>> ((((1074 : Int64) - (((d0.toInt64) &&& (9218868437227405312 : Int64)) >>> ((52 : Int32) &&& 0x3f).toInt64)).toInt32) &&& 0x3f).toInt64) + (1 : Int64)) >>> ((1 : Int32) &&& 0x3f).toInt64))) (fun h => by rw [Bd.returns] at h; cases h)
      refine ⟨_, _, ?_, hrun, hended, _, _, rfl, ?_, ⟨_, rfl⟩, hW, hsame.mono (by decide) (by decide)⟩
      · exact X1.lreturnOut hx Bd.returns (hb hby d13_66) hr
      · show Q13 Z d0 h0 n0 _ T1.heap _
        rw [e1]
        exact ⟨by unfold own_round; rw [if_pos hc31, if_neg hc48], N0, rfl⟩
  · have sg69 : ∀ t, own_S p e below T1 (mkF m 69 (own_ADWJWJWJWUU d0 (d0.toInt64) (((d0.toInt64) &&& (9218868437227405312 : Int64)) >>> ((52 : Int32) &&& 0x3f).toInt64) ((1074 : Int64) - (((d0.toInt64) &&& (9218868437227405312 : Int64)) >>> ((52 : Int32) &&& 0x3f).toInt64))) [(.long (FP.d2l d0))]) t → own_S p e below T1 (mkF m 31 (own_ADWJWJWJWUU d0 (d0.toInt64) (((d0.toInt64) &&& (9218868437227405312 : Int64)) >>> ((52 : Int32) &&& 0x3f).toInt64) ((1074 : Int64) - (((d0.toInt64) &&& (9218868437227405312 : Int64)) >>> ((52 : Int32) &&& 0x3f).toInt64))) [(.int (lcmpW (((1074 : Int64) - (((d0.toInt64) &&& (9218868437227405312 : Int64)) >>> ((52 : Int32) &&& 0x3f).toInt64)) &&& (-64 : Int64)) (0 : Int64)))]) t := by
      intro t k
      refine XS.ifYes X1.here hx rfl (pc0 := 31) (pc' := 67) rfl (hb hby d13_31) rfl ((if0 _ _).trans (feq hc31).2) (by decide) (by decide) ?_
      show own_S p e below T1 (mkF m 67 (own_ADWJWJWJWUU d0 (d0.toInt64) (((d0.toInt64) &&& (9218868437227405312 : Int64)) >>> ((52 : Int32) &&& 0x3f).toInt64) ((1074 : Int64) - (((d0.toInt64) &&& (9218868437227405312 : Int64)) >>> ((52 : Int32) &&& 0x3f).toInt64))) []) _
      refine XS.dloadN X1.here hx rfl (hb hby d13_67) rfl ?_
      show own_S p e below T1 (mkF m 68 (own_ADWJWJWJWUU d0 (d0.toInt64) (((d0.toInt64) &&& (9218868437227405312 : Int64)) >>> ((52 : Int32) &&& 0x3f).toInt64) ((1074 : Int64) - (((d0.toInt64) &&& (9218868437227405312 : Int64)) >>> ((52 : Int32) &&& 0x3f).toInt64))) [(.double d0)]) _
      refine XS.d2lS X1.here hx rfl (hb hby d13_68) rfl rfl ?_
      exact k
    refine own_by sg69 ?_
    obtain ⟨fs, hr, hrun, hended, hW, hsame⟩ := X1.leave (v := some (.long (FP.d2l d0))) (fun h => by rw [Bd.returns] at h; cases h)
    refine ⟨_, _, ?_, hrun, hended, _, _, rfl, ?_, ⟨_, rfl⟩, hW, hsame.mono (by decide) (by decide)⟩
    · exact X1.lreturnOut hx Bd.returns (hb hby d13_69) hr
    · show Q13 Z d0 h0 n0 _ T1.heap _
      rw [e1]
      exact ⟨by unfold own_round; rw [if_neg hc31], N0, rfl⟩
theorem d14_0 : decode jdk_29_method_70_code 0 = .ok (.lload_n 0, 1) := by decide +kernel
theorem d14_1 : decode jdk_29_method_70_code 1 = .ok (.lload_n 2, 1) := by decide +kernel
theorem d14_2 : decode jdk_29_method_70_code 2 = .ok (.lcmp, 1) := by decide +kernel
theorem d14_3 : decode jdk_29_method_70_code 3 = .ok (.ifCond .gt 7, 3) := by decide +kernel
theorem d14_6 : decode jdk_29_method_70_code 6 = .ok (.lload_n 0, 1) := by decide +kernel
theorem d14_7 : decode jdk_29_method_70_code 7 = .ok (.goto 4, 3) := by decide +kernel
theorem d14_10 : decode jdk_29_method_70_code 10 = .ok (.lload_n 2, 1) := by decide +kernel
theorem d14_11 : decode jdk_29_method_70_code 11 = .ok (.lreturn, 1) := by decide +kernel
theorem pn_14 : plainFor (⟨"java/lang/Math", "min", "(JJ)J"⟩ : MethodName) = true := by first | exact plainFor_of_name (by first | (simp [plainName, overriddenIn]; done) | decide +kernel) | decide +kernel | exact Jvm.Free.JP.mathPlain rfl (by decide +kernel)
theorem ef_14 (m : MethodId) (q0 : Int64) (q1 : Int64) : entryFrame m #[(.long q0), (.long q1)] 4 = mkF m 0 #[.val (.long q0), .second, .val (.long q1), .second] [] := by first | (simp [entryFrame, mkF, argsToLocals, Value.category]; done) | rfl
def Q14 (Z : State) (q0 : Int64) (q1 : Int64) (h0 : Heap) (n0 : Nat) (v : Option Value) (h : Heap) (L : List Loc) : Prop := v = some (.long (if (0 : Int32) < (lcmpW q0 q1) then q1 else q0)) ∧ Fr n0 L ∧ h = h0
set_option maxRecDepth 65536 in
set_option maxHeartbeats 40000000 in
theorem rm14 (l : Launch) (Z : State) (a0 : Array Value) (hw : ∀ d ∈ tables_1, d.before a0 Z = true) (ws : List Jvm.Cond) (q0 : Int64) (q1 : Int64) (h0 : Heap) (n0 : Nat) (Z0 : n0 ≤ h0.size) :
    MetFree l (⟨"java/lang/Math", "min", "(JJ)J"⟩ : MethodName) (head1 (Jvm.Cond.code (⟨"java/lang/Math", "min", "(JJ)J"⟩ : MethodName) jdk_29_method_70_code 4 (some .long) :: ws) ({ frames := 0, cells := 0, slots := 0, locals := 0 } : Room)) (fun a U => a = #[(.long q0), (.long q1)] ∧ Z.Warmed39 U.vm ∧ U.heap = h0) (fun _ _ _ _ _ => True) (fun _ U o U' => ∃ v L, o = .returned v ∧ Q14 Z q0 q1 h0 n0 v U'.heap L ∧ FrameEnd U o U' L ({ frames := 0, cells := 0, slots := 0, locals := 0 } : Room).cells ({ frames := 0, cells := 0, slots := 0, locals := 0 } : Room).slots) := by
  refine MetFree.of_bodySF pn_14 hisR ?_
  intro p e s m args below meth c s₁ Bd hml0 hP hK
  obtain ⟨rfl, hZ, hh⟩ := hP
  have hx := Bd.exec
  have hby := Bd.bytes
  have hml : c.maxLocals = 4 := hml0
  have hown : s.vm.findClass "java/lang/Math" = some m.cls := findClass_of_methodNamed Bd.named
  have hnm := (name_of_methodNamed Bd.named Bd.method).1
  have X0 : Stand p l e ({ frames := 0, cells := 0, slots := 0, locals := 0 } : Room) s m #[(.long q0), (.long q1)] below meth c s₁ [] 0 0 := Stand.of_body Bd
  have e0 : s₁.heap = h0 := by rw [← hh, Bd.state]; rfl
  have N0 := Fr.nil n0
  refine own_at (castTop (ef_14 m q0 q1)) ?_
  have sg3 : ∀ t, own_S p e below s₁ (mkF m 3 #[.val (.long q0), .second, .val (.long q1), .second] [(.int (lcmpW q0 q1))]) t → own_S p e below s₁ (mkF m 0 #[.val (.long q0), .second, .val (.long q1), .second] []) t := by
    intro t k
    refine XS.lloadN X0.here hx rfl (hb hby d14_0) rfl ?_
    show own_S p e below s₁ (mkF m 1 #[.val (.long q0), .second, .val (.long q1), .second] [(.long q0)]) _
    refine XS.lloadN X0.here hx rfl (hb hby d14_1) rfl ?_
    show own_S p e below s₁ (mkF m 2 #[.val (.long q0), .second, .val (.long q1), .second] [(.long q1), (.long q0)]) _
    refine XS.lcmp X0.here hx rfl (hb hby d14_2) rfl ?_
    exact k
  refine own_by sg3 ?_
  by_cases hc3 : (0 : Int32) < (lcmpW q0 q1)
  · have sg11 : ∀ t, own_S p e below s₁ (mkF m 11 #[.val (.long q0), .second, .val (.long q1), .second] [(.long q1)]) t → own_S p e below s₁ (mkF m 3 #[.val (.long q0), .second, .val (.long q1), .second] [(.int (lcmpW q0 q1))]) t := by
      intro t k
      refine XS.ifYes X0.here hx rfl (pc0 := 3) (pc' := 10) rfl (hb hby d14_3) rfl ((if0 _ _).trans (tlt hc3).2.2.1) (by decide) (by decide) ?_
      show own_S p e below s₁ (mkF m 10 #[.val (.long q0), .second, .val (.long q1), .second] []) _
      refine XS.lloadN X0.here hx rfl (hb hby d14_10) rfl ?_
      exact k
    refine own_by sg11 ?_
    obtain ⟨fs, hr, hrun, hended, hW, hsame⟩ := X0.leave (v := some (.long q1)) (fun h => by rw [Bd.returns] at h; cases h)
    refine ⟨_, _, ?_, hrun, hended, _, _, rfl, ?_, ⟨_, rfl⟩, hW, hsame.mono (by decide) (by decide)⟩
    · exact X0.lreturnOut hx Bd.returns (hb hby d14_11) hr
    · show Q14 Z q0 q1 h0 n0 _ s₁.heap _
      rw [e0]
      exact ⟨by rw [if_pos hc3], N0, rfl⟩
  · have sg11 : ∀ t, own_S p e below s₁ (mkF m 11 #[.val (.long q0), .second, .val (.long q1), .second] [(.long q0)]) t → own_S p e below s₁ (mkF m 3 #[.val (.long q0), .second, .val (.long q1), .second] [(.int (lcmpW q0 q1))]) t := by
      intro t k
      refine XS.ifNo X0.here hx rfl (hb hby d14_3) rfl ((if0 _ _).trans (flt hc3).2.2.1) ?_
      show own_S p e below s₁ (mkF m 6 #[.val (.long q0), .second, .val (.long q1), .second] []) _
      refine XS.lloadN X0.here hx rfl (hb hby d14_6) rfl ?_
      show own_S p e below s₁ (mkF m 7 #[.val (.long q0), .second, .val (.long q1), .second] [(.long q0)]) _
      refine XS.goto X0.here hx rfl (pc0 := 7) (pc' := 11) rfl (hb hby d14_7) (by decide) (by decide) ?_
      exact k
    refine own_by sg11 ?_
    obtain ⟨fs, hr, hrun, hended, hW, hsame⟩ := X0.leave (v := some (.long q0)) (fun h => by rw [Bd.returns] at h; cases h)
    refine ⟨_, _, ?_, hrun, hended, _, _, rfl, ?_, ⟨_, rfl⟩, hW, hsame.mono (by decide) (by decide)⟩
    · exact X0.lreturnOut hx Bd.returns (hb hby d14_11) hr
    · show Q14 Z q0 q1 h0 n0 _ s₁.heap _
      rw [e0]
      exact ⟨by rw [if_neg hc3], N0, rfl⟩
theorem d12_0 : decode prog_33_method_15_code 0 = .ok (.iconst 0, 1) := by decide +kernel
theorem d12_1 : decode prog_33_method_15_code 1 = .ok (.istore_n 3, 1) := by decide +kernel
theorem d12_2 : decode prog_33_method_15_code 2 = .ok (.fload_n 2, 1) := by decide +kernel
theorem d12_3 : decode prog_33_method_15_code 3 = .ok (.fconst 0, 1) := by decide +kernel
theorem d12_4 : decode prog_33_method_15_code 4 = .ok (.fcmp .l, 1) := by decide +kernel
theorem d12_5 : decode prog_33_method_15_code 5 = .ok (.ifCond .le 26, 3) := by decide +kernel
theorem d12_8 : decode prog_33_method_15_code 8 = .ok (.fload_n 0, 1) := by decide +kernel
theorem d12_9 : decode prog_33_method_15_code 9 = .ok (.f2d, 1) := by decide +kernel
theorem d12_10 : decode prog_33_method_15_code 10 = .ok (.fload_n 1, 1) := by decide +kernel
theorem d12_11 : decode prog_33_method_15_code 11 = .ok (.f2d, 1) := by decide +kernel
theorem d12_12 : decode prog_33_method_15_code 12 = .ok (.dsub, 1) := by decide +kernel
theorem d12_13 : decode prog_33_method_15_code 13 = .ok (.fload_n 2, 1) := by decide +kernel
theorem d12_14 : decode prog_33_method_15_code 14 = .ok (.f2d, 1) := by decide +kernel
theorem d12_15 : decode prog_33_method_15_code 15 = .ok (.ddiv, 1) := by decide +kernel
theorem d12_16 : decode prog_33_method_15_code 16 = .ok (.invokestatic 134, 3) := by decide +kernel
theorem d12_19 : decode prog_33_method_15_code 19 = .ok (.lstore 4, 2) := by decide +kernel
theorem d12_21 : decode prog_33_method_15_code 21 = .ok (.ldc2_w 138, 3) := by decide +kernel
theorem d12_24 : decode prog_33_method_15_code 24 = .ok (.lload 4, 2) := by decide +kernel
theorem d12_26 : decode prog_33_method_15_code 26 = .ok (.invokestatic 140, 3) := by decide +kernel
theorem d12_29 : decode prog_33_method_15_code 29 = .ok (.l2i, 1) := by decide +kernel
theorem d12_30 : decode prog_33_method_15_code 30 = .ok (.istore_n 3, 1) := by decide +kernel
theorem d12_31 : decode prog_33_method_15_code 31 = .ok (.iload_n 3, 1) := by decide +kernel
theorem d12_32 : decode prog_33_method_15_code 32 = .ok (.ireturn, 1) := by decide +kernel
theorem pn_12 : plainFor (⟨"com/example/reverie/reverie/ScalarQuantizer", "code", "(FFF)I"⟩ : MethodName) = true := by first | exact plainFor_of_name (by first | (simp [plainName, overriddenIn]; done) | decide +kernel) | decide +kernel | exact Jvm.Free.JP.mathPlain rfl (by decide +kernel)
theorem pd_12_0 : parseMethodDescriptor "(D)J" = some ⟨[.double], some .long⟩ := by decide +kernel
theorem pd_12_1 : parseMethodDescriptor "(JJ)J" = some ⟨[.long, .long], some .long⟩ := by decide +kernel
theorem ef_12 (m : MethodId) (f0 : UInt32) (f1 : UInt32) (f2 : UInt32) : entryFrame m #[(.float f0), (.float f1), (.float f2)] 6 = mkF m 0 #[.val (.float f0), .val (.float f1), .val (.float f2), .unset, .unset, .unset] [] := by first | (simp [entryFrame, mkF, argsToLocals, Value.category]; done) | rfl
def Q12 (Z : State) (f0 : UInt32) (f1 : UInt32) (f2 : UInt32) (h0 : Heap) (n0 : Nat) (v : Option Value) (h : Heap) (L : List Loc) : Prop := v = some (.int (own_code f0 f1 f2)) ∧ Fr n0 L ∧ h = h0
set_option maxRecDepth 65536 in
set_option maxHeartbeats 40000000 in
theorem rm12 (l : Launch) (Z : State) (a0 : Array Value) (hw : ∀ d ∈ tables_1, d.before a0 Z = true) (ws : List Jvm.Cond) (f0 : UInt32) (f1 : UInt32) (f2 : UInt32) (h0 : Heap) (n0 : Nat) (Z0 : n0 ≤ h0.size) (hf0 : Fin32 f0) (hf1 : Fin32 f1) (hf2 : Fin32 f2) :
    MetFree l (⟨"com/example/reverie/reverie/ScalarQuantizer", "code", "(FFF)I"⟩ : MethodName) (head1 (Jvm.Cond.code (⟨"com/example/reverie/reverie/ScalarQuantizer", "code", "(FFF)I"⟩ : MethodName) prog_33_method_15_code 6 (some .int) :: ws) ({ frames := 2, cells := 0, slots := 0, locals := 51 } : Room)) (fun a U => a = #[(.float f0), (.float f1), (.float f2)] ∧ Z.Warmed39 U.vm ∧ U.heap = h0) (fun _ _ _ _ _ => True) (fun _ U o U' => ∃ v L, o = .returned v ∧ Q12 Z f0 f1 f2 h0 n0 v U'.heap L ∧ FrameEnd U o U' L ({ frames := 2, cells := 0, slots := 0, locals := 51 } : Room).cells ({ frames := 2, cells := 0, slots := 0, locals := 51 } : Room).slots) := by
  refine MetFree.of_bodySF pn_12 hisR ?_
  intro p e s m args below meth c s₁ Bd hml0 hP hK
  obtain ⟨rfl, hZ, hh⟩ := hP
  have hx := Bd.exec
  have hby := Bd.bytes
  have hml : c.maxLocals = 6 := hml0
  have hown : s.vm.findClass "com/example/reverie/reverie/ScalarQuantizer" = some m.cls := findClass_of_methodNamed Bd.named
  have hnm := (name_of_methodNamed Bd.named Bd.method).1
  have X0 : Stand p l e ({ frames := 2, cells := 0, slots := 0, locals := 51 } : Room) s m #[(.float f0), (.float f1), (.float f2)] below meth c s₁ [] 0 0 := Stand.of_body Bd
  have e0 : s₁.heap = h0 := by rw [← hh, Bd.state]; rfl
  have N0 := Fr.nil n0
  refine own_at (castTop (ef_12 m f0 f1 f2)) ?_
  have sg5 : ∀ t, own_S p e below s₁ (mkF m 5 (own_AFFFIUU f0 f1 f2 (0 : Int32)) [(.int (cmpValue (FP.fcmp f2 (0 : UInt32)) .l))]) t → own_S p e below s₁ (mkF m 0 (own_AFFFUUU f0 f1 f2) []) t := by
    intro t k
    refine XS.iconst X0.here hx rfl (hb hby d12_0) ?_
    show own_S p e below s₁ (mkF m 1 (own_AFFFUUU f0 f1 f2) [(.int (0 : Int32))]) _
    refine XS.istoreN X0.here hx rfl (hb hby d12_1) rfl (l' := (own_AFFFIUU f0 f1 f2 (0 : Int32))) rfl ?_
    show own_S p e below s₁ (mkF m 2 (own_AFFFIUU f0 f1 f2 (0 : Int32)) []) _
    refine XS.floadN X0.here hx rfl (hb hby d12_2) rfl ?_
    show own_S p e below s₁ (mkF m 3 (own_AFFFIUU f0 f1 f2 (0 : Int32)) [(.float f2)]) _
    refine XS.fconst0 X0.here hx rfl (hb hby d12_3) (v := (0 : UInt32)) rfl ?_
    show own_S p e below s₁ (mkF m 4 (own_AFFFIUU f0 f1 f2 (0 : Int32)) [(.float (0 : UInt32)), (.float f2)]) _
    refine XS.fcmpS X0.here hx rfl (hb hby d12_4) rfl rfl ?_
    exact k
  refine own_by sg5 ?_
  by_cases hc5 : (0 : Int32) < (cmpValue (FP.fcmp f2 (0 : UInt32)) .l)
  · have sg16 : ∀ t, own_S p e below s₁ (mkF m 16 (own_AFFFIUU f0 f1 f2 (0 : Int32)) [(.double (FP.ddiv (FP.dsub (FP.f2d f0) (FP.f2d f1)) (FP.f2d f2)))]) t → own_S p e below s₁ (mkF m 5 (own_AFFFIUU f0 f1 f2 (0 : Int32)) [(.int (cmpValue (FP.fcmp f2 (0 : UInt32)) .l))]) t := by
      intro t k
      refine XS.ifNo X0.here hx rfl (hb hby d12_5) rfl ((if0 _ _).trans (tlt hc5).2.2.2) ?_
      show own_S p e below s₁ (mkF m 8 (own_AFFFIUU f0 f1 f2 (0 : Int32)) []) _
      refine XS.floadN X0.here hx rfl (hb hby d12_8) rfl ?_
      show own_S p e below s₁ (mkF m 9 (own_AFFFIUU f0 f1 f2 (0 : Int32)) [(.float f0)]) _
      refine XS.f2dS X0.here hx rfl (hb hby d12_9) rfl (f2d_fin hf0).noNaN rfl ?_
      show own_S p e below s₁ (mkF m 10 (own_AFFFIUU f0 f1 f2 (0 : Int32)) [(.double (FP.f2d f0))]) _
      refine XS.floadN X0.here hx rfl (hb hby d12_10) rfl ?_
      show own_S p e below s₁ (mkF m 11 (own_AFFFIUU f0 f1 f2 (0 : Int32)) [(.float f1), (.double (FP.f2d f0))]) _
      refine XS.f2dS X0.here hx rfl (hb hby d12_11) rfl (f2d_fin hf1).noNaN rfl ?_
      show own_S p e below s₁ (mkF m 12 (own_AFFFIUU f0 f1 f2 (0 : Int32)) [(.double (FP.f2d f1)), (.double (FP.f2d f0))]) _
      refine XS.dsubS X0.here hx rfl (hb hby d12_12) rfl (dsub_out (f2d_fin hf0).noNaN (f2d_fin hf1)) rfl ?_
      show own_S p e below s₁ (mkF m 13 (own_AFFFIUU f0 f1 f2 (0 : Int32)) [(.double (FP.dsub (FP.f2d f0) (FP.f2d f1)))]) _
      refine XS.floadN X0.here hx rfl (hb hby d12_13) rfl ?_
      show own_S p e below s₁ (mkF m 14 (own_AFFFIUU f0 f1 f2 (0 : Int32)) [(.float f2), (.double (FP.dsub (FP.f2d f0) (FP.f2d f1)))]) _
      refine XS.f2dS X0.here hx rfl (hb hby d12_14) rfl (f2d_fin hf2).noNaN rfl ?_
      show own_S p e below s₁ (mkF m 15 (own_AFFFIUU f0 f1 f2 (0 : Int32)) [(.double (FP.f2d f2)), (.double (FP.dsub (FP.f2d f0) (FP.f2d f1)))]) _
      refine XS.ddivS X0.here hx rfl (hb hby d12_15) rfl (ddiv_out (dsub_out (f2d_fin hf0).noNaN (f2d_fin hf1)) (f2d_fin hf2) (own_nz hf2 hc5)) rfl ?_
      exact k
    refine own_by sg16 ?_
    obtain ⟨_, _, ⟨T16, L16, k16, n16⟩, -, X16, ⟨Lc16, hQ16, l16, y16, z16⟩, st16⟩ := Jvm.LawKit.callS X0 hx (y := (⟨"java/lang/Math", "round", "(D)J"⟩ : MethodName)) hown (mvT hZ (own_w hw 88 rfl)) (mvT hZ (own_w hw 89 rfl)) (mvT hZ (own_w hw 68 rfl)) (mvT hZ (own_w hw 90 rfl)) (by decide) (backOf (W := 0) (rm13 l Z a0 hw [] (FP.ddiv (FP.dsub (FP.f2d f0) (FP.f2d f1)) (FP.f2d f2)) h0 n0 Z0) hZ (own_w hw 90 rfl) (own_w hw 68 rfl) (by decide) (by decide)) (g := (mkF m 16 (own_AFFFIUU f0 f1 f2 (0 : Int32)) [(.double (FP.ddiv (FP.dsub (FP.f2d f0) (FP.f2d f1)) (FP.f2d f2)))])) rfl (by rw [hml]; rfl) (argsL := [(.double (FP.ddiv (FP.dsub (FP.f2d f0) (FP.f2d f1)) (FP.f2d f2)))]) (rest := []) (lenOf pd_12_0 rfl) rfl (by show 2 * 0 + _ ≤ _; exact Nat.le_of_eq rfl) (hb hby d12_16) (fun _ _ => ⟨rfl, e0, (by decide : 0 + 0 ≤ _), (by decide : 0 + 0 ≤ _)⟩)
    dsimp only [Pt.U, Pt.locs, Pt.cells, Pt.slots] at X16 l16 y16 z16 st16 hQ16
    subst l16 y16 z16
    obtain ⟨rfl, N16q, hq16⟩ := hQ16
    have N16 := Fr.app N0 N16q
    obtain ⟨c16, hc16⟩ : ∃ z : Int64, z = (own_round (FP.ddiv (FP.dsub (FP.f2d f0) (FP.f2d f1)) (FP.f2d f2))) := ⟨_, rfl⟩
    rw [← hc16] at st16
    refine own_by st16 ?_
    have sg26 : ∀ t, own_S p e below T16 (mkF m 26 (own_AFFFIJW f0 f1 f2 (0 : Int32) c16) [(.long c16), (.long (255 : Int64))]) t → own_S p e below T16 (mkF m 19 (own_AFFFIUU f0 f1 f2 (0 : Int32)) [(.long c16)]) t := by
      intro t k
      refine XS.lstore X16.here hx rfl (hb hby d12_19) rfl (l' := (own_AFFFIJW f0 f1 f2 (0 : Int32) c16)) rfl ?_
      show own_S p e below T16 (mkF m 21 (own_AFFFIJW f0 f1 f2 (0 : Int32) c16) []) _
      refine X16.ldc2Long hx hown (mvT hZ (own_w hw 100 rfl)) (g := (mkF m 21 (own_AFFFIJW f0 f1 f2 (0 : Int32) c16) [])) rfl (hb hby d12_21) _ ?_
      show own_S p e below T16 (mkF m 24 (own_AFFFIJW f0 f1 f2 (0 : Int32) c16) [(.long (255 : Int64))]) _
      refine XS.lload X16.here hx rfl (hb hby d12_24) rfl ?_
      exact k
    refine own_by sg26 ?_
    obtain ⟨_, _, ⟨T26, L26, k26, n26⟩, -, X26, ⟨Lc26, hQ26, l26, y26, z26⟩, st26⟩ := Jvm.LawKit.callS X16 hx (y := (⟨"java/lang/Math", "min", "(JJ)J"⟩ : MethodName)) hown (mvT hZ (own_w hw 101 rfl)) (mvT hZ (own_w hw 102 rfl)) (mvT hZ (own_w hw 68 rfl)) (mvT hZ (own_w hw 103 rfl)) (by decide) (backOf (W := 0) (rm14 l Z a0 hw [] (255 : Int64) c16 h0 n0 Z0) hZ (own_w hw 103 rfl) (own_w hw 68 rfl) (by decide) (by decide)) (g := (mkF m 26 (own_AFFFIJW f0 f1 f2 (0 : Int32) c16) [(.long c16), (.long (255 : Int64))])) rfl (by rw [hml]; rfl) (argsL := [(.long (255 : Int64)), (.long c16)]) (rest := []) (lenOf pd_12_1 rfl) rfl (by show 2 * 0 + _ ≤ _; exact Nat.le_of_eq rfl) (hb hby d12_26) (fun _ _ => ⟨rfl, hq16, (by decide : 0 + 0 ≤ _), (by decide : 0 + 0 ≤ _)⟩)
    dsimp only [Pt.U, Pt.locs, Pt.cells, Pt.slots] at X26 l26 y26 z26 st26 hQ26
    subst l26 y26 z26
    obtain ⟨rfl, N26q, hq26⟩ := hQ26
    have N26 := Fr.app N16 N26q
    obtain ⟨c26, hc26⟩ : ∃ z : Int64, z = (if (0 : Int32) < (lcmpW (255 : Int64) c16) then c16 else (255 : Int64)) := ⟨_, rfl⟩
    rw [← hc26] at st26
    refine own_by st26 ?_
    have sg32 : ∀ t, own_S p e below T26 (mkF m 32 (own_AFFFIJW f0 f1 f2 (c26.toInt32) c16) [(.int (c26.toInt32))]) t → own_S p e below T26 (mkF m 29 (own_AFFFIJW f0 f1 f2 (0 : Int32) c16) [(.long c26)]) t := by
      intro t k
      refine XS.l2i X26.here hx rfl (hb hby d12_29) rfl ?_
      show own_S p e below T26 (mkF m 30 (own_AFFFIJW f0 f1 f2 (0 : Int32) c16) [(.int (c26.toInt32))]) _
      refine XS.istoreN X26.here hx rfl (hb hby d12_30) rfl (l' := (own_AFFFIJW f0 f1 f2 (c26.toInt32) c16)) rfl ?_
      show own_S p e below T26 (mkF m 31 (own_AFFFIJW f0 f1 f2 (c26.toInt32) c16) []) _
      refine XS.iloadN X26.here hx rfl (hb hby d12_31) rfl ?_
      exact k
    refine own_by sg32 ?_
    obtain ⟨fs, hr, hrun, hended, hW, hsame⟩ := X26.leave (v := some (.int (c26.toInt32))) (fun h => by rw [Bd.returns] at h; cases h)
    refine ⟨_, _, ?_, hrun, hended, _, _, rfl, ?_, ⟨_, rfl⟩, hW, hsame.mono (by decide) (by decide)⟩
    · exact retI X26 hx Bd.returns (hb hby d12_32) hr
    · show Q12 Z f0 f1 f2 h0 n0 _ T26.heap _
      rw [hq26]
      exact ⟨by unfold own_code; rw [if_pos hc5]; rw [hc26, hc16], N26, rfl⟩
  · have sg32 : ∀ t, own_S p e below s₁ (mkF m 32 (own_AFFFIUU f0 f1 f2 (0 : Int32)) [(.int (0 : Int32))]) t → own_S p e below s₁ (mkF m 5 (own_AFFFIUU f0 f1 f2 (0 : Int32)) [(.int (cmpValue (FP.fcmp f2 (0 : UInt32)) .l))]) t := by
      intro t k
      refine XS.ifYes X0.here hx rfl (pc0 := 5) (pc' := 31) rfl (hb hby d12_5) rfl ((if0 _ _).trans (flt hc5).2.2.2) (by decide) (by decide) ?_
      show own_S p e below s₁ (mkF m 31 (own_AFFFIUU f0 f1 f2 (0 : Int32)) []) _
      refine XS.iloadN X0.here hx rfl (hb hby d12_31) rfl ?_
      exact k
    refine own_by sg32 ?_
    obtain ⟨fs, hr, hrun, hended, hW, hsame⟩ := X0.leave (v := some (.int (0 : Int32))) (fun h => by rw [Bd.returns] at h; cases h)
    refine ⟨_, _, ?_, hrun, hended, _, _, rfl, ?_, ⟨_, rfl⟩, hW, hsame.mono (by decide) (by decide)⟩
    · exact retI X0 hx Bd.returns (hb hby d12_32) hr
    · show Q12 Z f0 f1 f2 h0 n0 _ s₁.heap _
      rw [e0]
      exact ⟨by unfold own_code; rw [if_neg hc5], N0, rfl⟩
theorem d21_0 : decode jdk_2056_method_24_code 0 = .ok (.iload_n 0, 1) := by decide +kernel
theorem d21_1 : decode jdk_2056_method_24_code 1 = .ok (.sipush 255, 3) := by decide +kernel
theorem d21_4 : decode jdk_2056_method_24_code 4 = .ok (.iand, 1) := by decide +kernel
theorem d21_5 : decode jdk_2056_method_24_code 5 = .ok (.ireturn, 1) := by decide +kernel
theorem pn_21 : plainFor (⟨"java/lang/Byte", "toUnsignedInt", "(B)I"⟩ : MethodName) = true := by first | exact plainFor_of_name (by first | (simp [plainName, overriddenIn]; done) | decide +kernel) | decide +kernel | exact Jvm.Free.JP.mathPlain rfl (by decide +kernel)
theorem ef_21 (m : MethodId) (p0 : Int32) : entryFrame m #[(.int p0)] 1 = mkF m 0 #[.val (.int p0)] [] := by first | (simp [entryFrame, mkF, argsToLocals, Value.category]; done) | rfl
def Q21 (Z : State) (p0 : Int32) (h0 : Heap) (n0 : Nat) (v : Option Value) (h : Heap) (L : List Loc) : Prop := v = some (.int (p0 &&& (255 : Int32))) ∧ Fr n0 L ∧ h = h0
set_option maxRecDepth 65536 in
set_option maxHeartbeats 40000000 in
theorem rm21 (l : Launch) (Z : State) (a0 : Array Value) (hw : ∀ d ∈ tables_1, d.before a0 Z = true) (ws : List Jvm.Cond) (p0 : Int32) (h0 : Heap) (n0 : Nat) (Z0 : n0 ≤ h0.size) :
    MetFree l (⟨"java/lang/Byte", "toUnsignedInt", "(B)I"⟩ : MethodName) (head1 (Jvm.Cond.code (⟨"java/lang/Byte", "toUnsignedInt", "(B)I"⟩ : MethodName) jdk_2056_method_24_code 1 (some .int) :: ws) ({ frames := 0, cells := 0, slots := 0, locals := 0 } : Room)) (fun a U => a = #[(.int p0)] ∧ Z.Warmed39 U.vm ∧ U.heap = h0) (fun _ _ _ _ _ => True) (fun _ U o U' => ∃ v L, o = .returned v ∧ Q21 Z p0 h0 n0 v U'.heap L ∧ FrameEnd U o U' L ({ frames := 0, cells := 0, slots := 0, locals := 0 } : Room).cells ({ frames := 0, cells := 0, slots := 0, locals := 0 } : Room).slots) := by
  refine MetFree.of_bodySF pn_21 hisR ?_
  intro p e s m args below meth c s₁ Bd hml0 hP hK
  obtain ⟨rfl, hZ, hh⟩ := hP
  have hx := Bd.exec
  have hby := Bd.bytes
  have hml : c.maxLocals = 1 := hml0
  have hown : s.vm.findClass "java/lang/Byte" = some m.cls := findClass_of_methodNamed Bd.named
  have hnm := (name_of_methodNamed Bd.named Bd.method).1
  have X0 : Stand p l e ({ frames := 0, cells := 0, slots := 0, locals := 0 } : Room) s m #[(.int p0)] below meth c s₁ [] 0 0 := Stand.of_body Bd
  have e0 : s₁.heap = h0 := by rw [← hh, Bd.state]; rfl
  have N0 := Fr.nil n0
  refine own_at (castTop (ef_21 m p0)) ?_
  have sg5 : ∀ t, own_S p e below s₁ (mkF m 5 #[.val (.int p0)] [(.int (p0 &&& (255 : Int32)))]) t → own_S p e below s₁ (mkF m 0 #[.val (.int p0)] []) t := by
    intro t k
    refine XS.iloadN X0.here hx rfl (hb hby d21_0) rfl ?_
    show own_S p e below s₁ (mkF m 1 #[.val (.int p0)] [(.int p0)]) _
    refine XS.sipush X0.here hx rfl (hb hby d21_1) ?_
    show own_S p e below s₁ (mkF m 4 #[.val (.int p0)] [(.int (255 : Int32)), (.int p0)]) _
    refine XS.iand X0.here hx rfl (hb hby d21_4) rfl ?_
    exact k
  refine own_by sg5 ?_
  obtain ⟨fs, hr, hrun, hended, hW, hsame⟩ := X0.leave (v := some (.int (p0 &&& (255 : Int32)))) (fun h => by rw [Bd.returns] at h; cases h)
  refine ⟨_, _, ?_, hrun, hended, _, _, rfl, ?_, ⟨_, rfl⟩, hW, hsame.mono (by decide) (by decide)⟩
  · exact retI X0 hx Bd.returns (hb hby d21_5) hr
  · show Q21 Z p0 h0 n0 _ s₁.heap _
    rw [e0]
    exact ⟨rfl, N0, rfl⟩
theorem d10_0 : decode prog_33_method_16_code 0 = .ok (.aload_n 0, 1) := by decide +kernel
theorem d10_1 : decode prog_33_method_16_code 1 = .ok (.getfield 46, 3) := by decide +kernel
theorem d10_4 : decode prog_33_method_16_code 4 = .ok (.iload_n 1, 1) := by decide +kernel
theorem d10_5 : decode prog_33_method_16_code 5 = .ok (.fload_n 2, 1) := by decide +kernel
theorem d10_6 : decode prog_33_method_16_code 6 = .ok (.fastore, 1) := by decide +kernel
theorem d10_7 : decode prog_33_method_16_code 7 = .ok (.aload_n 0, 1) := by decide +kernel
theorem d10_8 : decode prog_33_method_16_code 8 = .ok (.getfield 49, 3) := by decide +kernel
theorem d10_11 : decode prog_33_method_16_code 11 = .ok (.iload_n 1, 1) := by decide +kernel
theorem d10_12 : decode prog_33_method_16_code 12 = .ok (.fload_n 3, 1) := by decide +kernel
theorem d10_13 : decode prog_33_method_16_code 13 = .ok (.fastore, 1) := by decide +kernel
theorem d10_14 : decode prog_33_method_16_code 14 = .ok (.aload_n 0, 1) := by decide +kernel
theorem d10_15 : decode prog_33_method_16_code 15 = .ok (.getfield 52, 3) := by decide +kernel
theorem d10_18 : decode prog_33_method_16_code 18 = .ok (.iload_n 1, 1) := by decide +kernel
theorem d10_19 : decode prog_33_method_16_code 19 = .ok (.fload_n 2, 1) := by decide +kernel
theorem d10_20 : decode prog_33_method_16_code 20 = .ok (.fload_n 3, 1) := by decide +kernel
theorem d10_21 : decode prog_33_method_16_code 21 = .ok (.invokestatic 143, 3) := by decide +kernel
theorem d10_24 : decode prog_33_method_16_code 24 = .ok (.fastore, 1) := by decide +kernel
theorem d10_25 : decode prog_33_method_16_code 25 = .ok (.aload_n 0, 1) := by decide +kernel
theorem d10_26 : decode prog_33_method_16_code 26 = .ok (.getfield 109, 3) := by decide +kernel
theorem d10_29 : decode prog_33_method_16_code 29 = .ok (.aload_n 0, 1) := by decide +kernel
theorem d10_30 : decode prog_33_method_16_code 30 = .ok (.getfield 20, 3) := by decide +kernel
theorem d10_33 : decode prog_33_method_16_code 33 = .ok (.arraylength, 1) := by decide +kernel
theorem d10_34 : decode prog_33_method_16_code 34 = .ok (.if_icmp .ne 76, 3) := by decide +kernel
theorem d10_110 : decode prog_33_method_16_code 110 = .ok (.aload_n 0, 1) := by decide +kernel
theorem d10_111 : decode prog_33_method_16_code 111 = .ok (.getfield 20, 3) := by decide +kernel
theorem d10_114 : decode prog_33_method_16_code 114 = .ok (.aload_n 0, 1) := by decide +kernel
theorem d10_115 : decode prog_33_method_16_code 115 = .ok (.getfield 109, 3) := by decide +kernel
theorem d10_118 : decode prog_33_method_16_code 118 = .ok (.aload_n 0, 1) := by decide +kernel
theorem d10_119 : decode prog_33_method_16_code 119 = .ok (.getfield 103, 3) := by decide +kernel
theorem d10_122 : decode prog_33_method_16_code 122 = .ok (.iastore, 1) := by decide +kernel
theorem d10_123 : decode prog_33_method_16_code 123 = .ok (.aload_n 0, 1) := by decide +kernel
theorem d10_124 : decode prog_33_method_16_code 124 = .ok (.getfield 24, 3) := by decide +kernel
theorem d10_127 : decode prog_33_method_16_code 127 = .ok (.aload_n 0, 1) := by decide +kernel
theorem d10_128 : decode prog_33_method_16_code 128 = .ok (.getfield 109, 3) := by decide +kernel
theorem d10_131 : decode prog_33_method_16_code 131 = .ok (.iload_n 1, 1) := by decide +kernel
theorem d10_132 : decode prog_33_method_16_code 132 = .ok (.iastore, 1) := by decide +kernel
theorem d10_133 : decode prog_33_method_16_code 133 = .ok (.aload_n 0, 1) := by decide +kernel
theorem d10_134 : decode prog_33_method_16_code 134 = .ok (.getfield 27, 3) := by decide +kernel
theorem d10_137 : decode prog_33_method_16_code 137 = .ok (.aload_n 0, 1) := by decide +kernel
theorem d10_138 : decode prog_33_method_16_code 138 = .ok (.getfield 109, 3) := by decide +kernel
theorem d10_141 : decode prog_33_method_16_code 141 = .ok (.fload_n 2, 1) := by decide +kernel
theorem d10_142 : decode prog_33_method_16_code 142 = .ok (.fastore, 1) := by decide +kernel
theorem d10_143 : decode prog_33_method_16_code 143 = .ok (.aload_n 0, 1) := by decide +kernel
theorem d10_144 : decode prog_33_method_16_code 144 = .ok (.getfield 31, 3) := by decide +kernel
theorem d10_147 : decode prog_33_method_16_code 147 = .ok (.aload_n 0, 1) := by decide +kernel
theorem d10_148 : decode prog_33_method_16_code 148 = .ok (.getfield 109, 3) := by decide +kernel
theorem d10_151 : decode prog_33_method_16_code 151 = .ok (.fload_n 3, 1) := by decide +kernel
theorem d10_152 : decode prog_33_method_16_code 152 = .ok (.fastore, 1) := by decide +kernel
theorem d10_153 : decode prog_33_method_16_code 153 = .ok (.aload_n 0, 1) := by decide +kernel
theorem d10_154 : decode prog_33_method_16_code 154 = .ok (.getfield 34, 3) := by decide +kernel
theorem d10_157 : decode prog_33_method_16_code 157 = .ok (.aload_n 0, 1) := by decide +kernel
theorem d10_158 : decode prog_33_method_16_code 158 = .ok (.getfield 109, 3) := by decide +kernel
theorem d10_161 : decode prog_33_method_16_code 161 = .ok (.aload_n 0, 1) := by decide +kernel
theorem d10_162 : decode prog_33_method_16_code 162 = .ok (.getfield 52, 3) := by decide +kernel
theorem d10_165 : decode prog_33_method_16_code 165 = .ok (.iload_n 1, 1) := by decide +kernel
theorem d10_166 : decode prog_33_method_16_code 166 = .ok (.faload, 1) := by decide +kernel
theorem d10_167 : decode prog_33_method_16_code 167 = .ok (.fastore, 1) := by decide +kernel
theorem d10_168 : decode prog_33_method_16_code 168 = .ok (.aload_n 0, 1) := by decide +kernel
theorem d10_169 : decode prog_33_method_16_code 169 = .ok (.dup, 1) := by decide +kernel
theorem d10_170 : decode prog_33_method_16_code 170 = .ok (.getfield 109, 3) := by decide +kernel
theorem d10_173 : decode prog_33_method_16_code 173 = .ok (.iconst 1, 1) := by decide +kernel
theorem d10_174 : decode prog_33_method_16_code 174 = .ok (.iadd, 1) := by decide +kernel
theorem d10_175 : decode prog_33_method_16_code 175 = .ok (.putfield 109, 3) := by decide +kernel
theorem d10_178 : decode prog_33_method_16_code 178 = .ok (.return_, 1) := by decide +kernel
theorem pn_100 : plainFor (⟨"com/example/reverie/reverie/ScalarQuantizer", "setRange", "(IFF)V"⟩ : MethodName) = true := by first | exact plainFor_of_name (by first | (simp [plainName, overriddenIn]; done) | decide +kernel) | decide +kernel | exact Jvm.Free.JP.mathPlain rfl (by decide +kernel)
theorem pd_10_00 : parseMethodDescriptor "(FF)F" = some ⟨[.float, .float], some .float⟩ := by decide +kernel
theorem ef_100 (m : MethodId) (a1 : Addr) (f2 : UInt32) (f3 : UInt32) : entryFrame m #[(.ref a1), (.int (0 : Int32)), (.float f2), (.float f3)] 5 = mkF m 0 #[.val (.ref a1), .val (.int (0 : Int32)), .val (.float f2), .val (.float f3), .unset] [] := by first | (simp [entryFrame, mkF, argsToLocals, Value.category]; done) | rfl
def Q100 (Z : State) (a1 : Addr) (f2 : UInt32) (f3 : UInt32) (tl : Addr) (th : Addr) (ts : Addr) (sl : Addr) (sh : Addr) (ss : Addr) (cS : Addr) (cD : Addr) (cL : Addr) (cH : Addr) (cC : Addr) (n : Int32) (l0 : UInt32) (l1 : UInt32) (u0 : UInt32) (u1 : UInt32) (s0 : UInt32) (s1 : UInt32) (hist : List own_E) (h0 : Heap) (n0 : Nat) (v : Option Value) (h : Heap) (L : List Loc) : Prop := v = none ∧ Fr n0 L ∧ Keep h0 h [a1, tl, th, ts, cS, cD, cL, cH, cC] ∧ own_Q Z h a1 tl th ts sl sh ss cS cD cL cH cC n f2 l1 f3 u1 (own_scale f2 f3) s1 (hist ++ [(n, (0 : Int32), f2, f3, own_scale f2 f3)])
set_option maxRecDepth 65536 in
set_option maxHeartbeats 40000000 in
theorem rm100 (l : Launch) (Z : State) (a0 : Array Value) (hw : ∀ d ∈ tables_1, d.before a0 Z = true) (ws : List Jvm.Cond) (a1 : Addr) (f2 : UInt32) (f3 : UInt32) (tl : Addr) (th : Addr) (ts : Addr) (sl : Addr) (sh : Addr) (ss : Addr) (cS : Addr) (cD : Addr) (cL : Addr) (cH : Addr) (cC : Addr) (n : Int32) (l0 : UInt32) (l1 : UInt32) (u0 : UInt32) (u1 : UInt32) (s0 : UInt32) (s1 : UInt32) (hist : List own_E) (h0 : Heap) (n0 : Nat) (Z0 : n0 ≤ h0.size) (hf2 : own_sh f2) (hf3 : own_sh f3) (QQ : own_Q Z h0 a1 tl th ts sl sh ss cS cD cL cH cC n l0 l1 u0 u1 s0 s1 hist) (hl : hist.length < 16) (ge : ∀ x ∈ [a1, tl, th, ts, sl, sh, ss, cS, cD, cL, cH, cC], n0 ≤ x) :
    MetFree l (⟨"com/example/reverie/reverie/ScalarQuantizer", "setRange", "(IFF)V"⟩ : MethodName) (head1 (Jvm.Cond.code (⟨"com/example/reverie/reverie/ScalarQuantizer", "setRange", "(IFF)V"⟩ : MethodName) prog_33_method_16_code 5 none :: ws) ({ frames := 1, cells := 0, slots := 0, locals := 15 } : Room)) (fun a U => a = #[(.ref a1), (.int (0 : Int32)), (.float f2), (.float f3)] ∧ Z.Warmed39 U.vm ∧ U.heap = h0) (fun _ _ _ _ _ => True) (fun _ U o U' => ∃ v L, o = .returned v ∧ Q100 Z a1 f2 f3 tl th ts sl sh ss cS cD cL cH cC n l0 l1 u0 u1 s0 s1 hist h0 n0 v U'.heap L ∧ FrameEnd U o U' L ({ frames := 1, cells := 0, slots := 0, locals := 15 } : Room).cells ({ frames := 1, cells := 0, slots := 0, locals := 15 } : Room).slots) := by
  refine MetFree.of_bodySF pn_100 hisR ?_
  intro p e s m args below meth c s₁ Bd hml0 hP hK
  obtain ⟨rfl, hZ, hh⟩ := hP
  have hx := Bd.exec
  have hby := Bd.bytes
  have hml : c.maxLocals = 5 := hml0
  have hown : s.vm.findClass "com/example/reverie/reverie/ScalarQuantizer" = some m.cls := findClass_of_methodNamed Bd.named
  have hnm := (name_of_methodNamed Bd.named Bd.method).1
  have X0 : Stand p l e ({ frames := 1, cells := 0, slots := 0, locals := 15 } : Room) s m #[(.ref a1), (.int (0 : Int32)), (.float f2), (.float f3)] below meth c s₁ [] 0 0 := Stand.of_body Bd
  have e0 : s₁.heap = h0 := by rw [← hh, Bd.state]; rfl
  have N0 := Fr.nil n0
  refine own_at (castTop (ef_100 m a1 f2 f3)) ?_
  obtain ⟨ktl, kth, kts, ksl, ksh, kss, kcS, kcD, kcL, kcH, kcC, g1, g2, g3, g4, g5, ND, ⟨G1, G2, G3, G4, G5⟩, E_q, F_dim, F_tl, F_th, F_ts, F_sl, F_sh, F_ss, F_cS, F_cD, F_cL, F_cH, F_cC, F_ec, F_cc, A_tl, A_th, A_ts, A_sl, A_sh, A_ss, A_cS, A_cD, A_cL, A_cH, A_cC⟩ := id QQ
  have n_a1_tl : a1 ≠ tl := E_q.neArv A_tl (own_w hw 7 rfl)
  have n_a1_th : a1 ≠ th := E_q.neArv A_th (own_w hw 7 rfl)
  have n_a1_ts : a1 ≠ ts := E_q.neArv A_ts (own_w hw 7 rfl)
  have n_a1_sl : a1 ≠ sl := E_q.neArv A_sl (own_w hw 7 rfl)
  have n_a1_sh : a1 ≠ sh := E_q.neArv A_sh (own_w hw 7 rfl)
  have n_a1_ss : a1 ≠ ss := E_q.neArv A_ss (own_w hw 7 rfl)
  have n_a1_cS : a1 ≠ cS := E_q.neArv A_cS (own_w hw 7 rfl)
  have n_a1_cD : a1 ≠ cD := E_q.neArv A_cD (own_w hw 7 rfl)
  have n_a1_cL : a1 ≠ cL := E_q.neArv A_cL (own_w hw 7 rfl)
  have n_a1_cH : a1 ≠ cH := E_q.neArv A_cH (own_w hw 7 rfl)
  have n_a1_cC : a1 ≠ cC := E_q.neArv A_cC (own_w hw 7 rfl)
  obtain ⟨kk, hkk⟩ : ∃ z : Int32, z = Int32.ofNat hist.length := ⟨_, rfl⟩
  rw [← hkk] at F_cc
  have g_a1 : n0 ≤ a1 := ge a1 (List.mem_of_getElem? (i := 0) rfl)
  have g_tl : n0 ≤ tl := ge tl (List.mem_of_getElem? (i := 1) rfl)
  have g_th : n0 ≤ th := ge th (List.mem_of_getElem? (i := 2) rfl)
  have g_ts : n0 ≤ ts := ge ts (List.mem_of_getElem? (i := 3) rfl)
  have g_sl : n0 ≤ sl := ge sl (List.mem_of_getElem? (i := 4) rfl)
  have g_sh : n0 ≤ sh := ge sh (List.mem_of_getElem? (i := 5) rfl)
  have g_ss : n0 ≤ ss := ge ss (List.mem_of_getElem? (i := 6) rfl)
  have g_cS : n0 ≤ cS := ge cS (List.mem_of_getElem? (i := 7) rfl)
  have g_cD : n0 ≤ cD := ge cD (List.mem_of_getElem? (i := 8) rfl)
  have g_cL : n0 ≤ cL := ge cL (List.mem_of_getElem? (i := 9) rfl)
  have g_cH : n0 ≤ cH := ge cH (List.mem_of_getElem? (i := 10) rfl)
  have g_cC : n0 ≤ cC := ge cC (List.mem_of_getElem? (i := 11) rfl)
  have K0 := Keep.refl h0 [a1, tl, th, ts, cS, cD, cL, cH, cC]
  have sg1 : ∀ t, own_S p e below s₁ (mkF m 1 (own_ARIFFU a1 (0 : Int32) f2 f3) [(.ref a1)]) t → own_S p e below s₁ (mkF m 0 (own_ARIFFU a1 (0 : Int32) f2 f3) []) t := by
    intro t k
    refine XS.aloadN X0.here hx rfl (hb hby d10_0) rfl rfl ?_
    exact k
  refine own_by sg1 ?_
  obtain ⟨T1, X1, e1, st1⟩ := getF X0 hx hZ hown (host := "") (Or.inl (own_w hw 49 rfl)) Via.refl e0 F_tl (g := (mkF m 1 (own_ARIFFU a1 (0 : Int32) f2 f3) [(.ref a1)])) rfl rfl (hb hby d10_1)
  refine own_by st1 ?_
  have sg6 : ∀ t, own_S p e below T1 (mkF m 6 (own_ARIFFU a1 (0 : Int32) f2 f3) [(.float f2), (.int (0 : Int32)), (.ref tl)]) t → own_S p e below T1 (mkF m 4 (own_ARIFFU a1 (0 : Int32) f2 f3) [(.ref tl)]) t := by
    intro t k
    refine XS.iloadN X1.here hx rfl (hb hby d10_4) rfl ?_
    show own_S p e below T1 (mkF m 5 (own_ARIFFU a1 (0 : Int32) f2 f3) [(.int (0 : Int32)), (.ref tl)]) _
    refine XS.floadN X1.here hx rfl (hb hby d10_5) rfl ?_
    exact k
  refine own_by sg6 ?_
  obtain ⟨cl6, Ar6, qa6, Sa6, Na6, Ha6, Ga6⟩ := id A_tl
  obtain ⟨T6, h6, X6, e6, W6, st6⟩ := stF X1 hx hZ e1 Ar6 (j := (0 : Int32)) (inb_of Sa6 ⟨by decide, by decide⟩) (g := (mkF m 6 (own_ARIFFU a1 (0 : Int32) f2 f3) [(.float f2), (.int (0 : Int32)), (.ref tl)])) rfl rfl (hb hby d10_6)
  have V6 : Arv Z h6 tl ktl .float (2 : Int32) [(.float f2), (.float l1)] (.float (0 : UInt32)) := by
    have q := Arv.set Ar6 qa6 Sa6 Na6 Ha6 Ga6 rfl W6 0 rfl (Nat.le_of_ble_eq_true rfl)
    exact q
  have K6 : Keep h0 h6 [a1, tl, th, ts, cS, cD, cL, cH, cC] := K0.wr W6 (Or.inl (List.mem_of_getElem? (i := 1) rfl))
  have Z6 : n0 ≤ h6.size := Nat.le_trans Z0 (Keep.of_wr W6).1
  have N6 := Fr.snoc X6 N0 g_tl
  refine own_by st6 ?_
  have sg8 : ∀ t, own_S p e below T6 (mkF m 8 (own_ARIFFU a1 (0 : Int32) f2 f3) [(.ref a1)]) t → own_S p e below T6 (mkF m 7 (own_ARIFFU a1 (0 : Int32) f2 f3) []) t := by
    intro t k
    refine XS.aloadN X6.here hx rfl (hb hby d10_7) rfl rfl ?_
    exact k
  refine own_by sg8 ?_
  obtain ⟨T8, X8, e8, st8⟩ := getF X6 hx hZ hown (host := "") (Or.inl (own_w hw 51 rfl)) Via.refl e6 (F_th.other W6 (Or.inl n_a1_tl)) (g := (mkF m 8 (own_ARIFFU a1 (0 : Int32) f2 f3) [(.ref a1)])) rfl rfl (hb hby d10_8)
  refine own_by st8 ?_
  have sg13 : ∀ t, own_S p e below T8 (mkF m 13 (own_ARIFFU a1 (0 : Int32) f2 f3) [(.float f3), (.int (0 : Int32)), (.ref th)]) t → own_S p e below T8 (mkF m 11 (own_ARIFFU a1 (0 : Int32) f2 f3) [(.ref th)]) t := by
    intro t k
    refine XS.iloadN X8.here hx rfl (hb hby d10_11) rfl ?_
    show own_S p e below T8 (mkF m 12 (own_ARIFFU a1 (0 : Int32) f2 f3) [(.int (0 : Int32)), (.ref th)]) _
    refine XS.floadN X8.here hx rfl (hb hby d10_12) rfl ?_
    exact k
  refine own_by sg13 ?_
  obtain ⟨cl13, Ar13, qa13, Sa13, Na13, Ha13, Ga13⟩ := id (A_th.other W6 (Ne.symm ND.1))
  obtain ⟨T13, h13, X13, e13, W13, st13⟩ := stF X8 hx hZ e8 Ar13 (j := (0 : Int32)) (inb_of Sa13 ⟨by decide, by decide⟩) (g := (mkF m 13 (own_ARIFFU a1 (0 : Int32) f2 f3) [(.float f3), (.int (0 : Int32)), (.ref th)])) rfl rfl (hb hby d10_13)
  have V13 : Arv Z h13 th kth .float (2 : Int32) [(.float f3), (.float u1)] (.float (0 : UInt32)) := by
    have q := Arv.set Ar13 qa13 Sa13 Na13 Ha13 Ga13 rfl W13 0 rfl (Nat.le_of_ble_eq_true rfl)
    exact q
  have fc := ((F_dim.other W6 (Or.inl n_a1_tl)).other W13 (Or.inl n_a1_th))
  have fc_2 := ((F_ec.other W6 (Or.inl n_a1_tl)).other W13 (Or.inl n_a1_th))
  have fc_3 := ((F_cc.other W6 (Or.inl n_a1_tl)).other W13 (Or.inl n_a1_th))
  have fc_4 := ((F_tl.other W6 (Or.inl n_a1_tl)).other W13 (Or.inl n_a1_th))
  have fc_5 := ((F_th.other W6 (Or.inl n_a1_tl)).other W13 (Or.inl n_a1_th))
  have fc_6 := ((F_ts.other W6 (Or.inl n_a1_tl)).other W13 (Or.inl n_a1_th))
  have fc_7 := ((F_sl.other W6 (Or.inl n_a1_tl)).other W13 (Or.inl n_a1_th))
  have fc_8 := ((F_sh.other W6 (Or.inl n_a1_tl)).other W13 (Or.inl n_a1_th))
  have fc_9 := ((F_ss.other W6 (Or.inl n_a1_tl)).other W13 (Or.inl n_a1_th))
  have fc_10 := ((F_cS.other W6 (Or.inl n_a1_tl)).other W13 (Or.inl n_a1_th))
  have fc_11 := ((F_cD.other W6 (Or.inl n_a1_tl)).other W13 (Or.inl n_a1_th))
  have fc_12 := ((F_cL.other W6 (Or.inl n_a1_tl)).other W13 (Or.inl n_a1_th))
  have fc_13 := ((F_cH.other W6 (Or.inl n_a1_tl)).other W13 (Or.inl n_a1_th))
  have fc_14 := ((F_cC.other W6 (Or.inl n_a1_tl)).other W13 (Or.inl n_a1_th))
  have fc_15 := ((A_ts.other W6 (Ne.symm ND.2.1)).other W13 (Ne.symm ND.2.2.2.2.2.2.2.2.2.2.1))
  have fc_16 := ((A_sl.other W6 (Ne.symm ND.2.2.1)).other W13 (Ne.symm ND.2.2.2.2.2.2.2.2.2.2.2.1))
  have fc_17 := ((A_sh.other W6 (Ne.symm ND.2.2.2.1)).other W13 (Ne.symm ND.2.2.2.2.2.2.2.2.2.2.2.2.1))
  have fc_18 := ((A_ss.other W6 (Ne.symm ND.2.2.2.2.1)).other W13 (Ne.symm ND.2.2.2.2.2.2.2.2.2.2.2.2.2.1))
  have fc_19 := ((A_cS.other W6 (Ne.symm ND.2.2.2.2.2.1)).other W13 (Ne.symm ND.2.2.2.2.2.2.2.2.2.2.2.2.2.2.1))
  have fc_20 := ((A_cD.other W6 (Ne.symm ND.2.2.2.2.2.2.1)).other W13 (Ne.symm ND.2.2.2.2.2.2.2.2.2.2.2.2.2.2.2.1))
  have fc_21 := ((A_cL.other W6 (Ne.symm ND.2.2.2.2.2.2.2.1)).other W13 (Ne.symm ND.2.2.2.2.2.2.2.2.2.2.2.2.2.2.2.2.1))
  have fc_22 := ((A_cH.other W6 (Ne.symm ND.2.2.2.2.2.2.2.2.1)).other W13 (Ne.symm ND.2.2.2.2.2.2.2.2.2.2.2.2.2.2.2.2.2.1))
  have fc_23 := ((A_cC.other W6 (Ne.symm ND.2.2.2.2.2.2.2.2.2.1)).other W13 (Ne.symm ND.2.2.2.2.2.2.2.2.2.2.2.2.2.2.2.2.2.2.1))
  have K13 : Keep h0 h13 [a1, tl, th, ts, cS, cD, cL, cH, cC] := K6.wr W13 (Or.inl (List.mem_of_getElem? (i := 2) rfl))
  have Z13 : n0 ≤ h13.size := Nat.le_trans Z6 (Keep.of_wr W13).1
  have N13 := Fr.snoc X13 N6 g_th
  refine own_by st13 ?_
  have sg15 : ∀ t, own_S p e below T13 (mkF m 15 (own_ARIFFU a1 (0 : Int32) f2 f3) [(.ref a1)]) t → own_S p e below T13 (mkF m 14 (own_ARIFFU a1 (0 : Int32) f2 f3) []) t := by
    intro t k
    refine XS.aloadN X13.here hx rfl (hb hby d10_14) rfl rfl ?_
    exact k
  refine own_by sg15 ?_
  obtain ⟨T15, X15, e15, st15⟩ := getF X13 hx hZ hown (host := "") (Or.inl (own_w hw 53 rfl)) Via.refl e13 fc_6 (g := (mkF m 15 (own_ARIFFU a1 (0 : Int32) f2 f3) [(.ref a1)])) rfl rfl (hb hby d10_15)
  refine own_by st15 ?_
  have sg21 : ∀ t, own_S p e below T15 (mkF m 21 (own_ARIFFU a1 (0 : Int32) f2 f3) [(.float f3), (.float f2), (.int (0 : Int32)), (.ref ts)]) t → own_S p e below T15 (mkF m 18 (own_ARIFFU a1 (0 : Int32) f2 f3) [(.ref ts)]) t := by
    intro t k
    refine XS.iloadN X15.here hx rfl (hb hby d10_18) rfl ?_
    show own_S p e below T15 (mkF m 19 (own_ARIFFU a1 (0 : Int32) f2 f3) [(.int (0 : Int32)), (.ref ts)]) _
    refine XS.floadN X15.here hx rfl (hb hby d10_19) rfl ?_
    show own_S p e below T15 (mkF m 20 (own_ARIFFU a1 (0 : Int32) f2 f3) [(.float f2), (.int (0 : Int32)), (.ref ts)]) _
    refine XS.floadN X15.here hx rfl (hb hby d10_20) rfl ?_
    exact k
  refine own_by sg21 ?_
  obtain ⟨_, _, ⟨T21, L21, k21, n21⟩, -, X21, ⟨Lc21, hQ21, l21, y21, z21⟩, st21⟩ := Jvm.LawKit.callS X15 hx (y := (⟨"com/example/reverie/reverie/ScalarQuantizer", "scale", "(FF)F"⟩ : MethodName)) hown (mvT hZ (own_w hw 77 rfl)) (mvT hZ (own_w hw 78 rfl)) (mvT hZ (own_w hw 8 rfl)) (mvT hZ (own_w hw 79 rfl)) (by decide) (backOf (W := 2) (rm11 l Z a0 hw [] f2 f3 h13 n0 Z13 hf2.fin hf3.fin) hZ (own_w hw 79 rfl) (own_w hw 8 rfl) (by decide) (by decide)) (g := (mkF m 21 (own_ARIFFU a1 (0 : Int32) f2 f3) [(.float f3), (.float f2), (.int (0 : Int32)), (.ref ts)])) rfl (by rw [hml]; rfl) (argsL := [(.float f2), (.float f3)]) (rest := [(.int (0 : Int32)), (.ref ts)]) (lenOf pd_10_00 rfl) rfl (by show 2 * 0 + _ ≤ _; exact Nat.le_of_eq rfl) (hb hby d10_21) (fun _ _ => ⟨rfl, e15, (by decide : 0 + 0 ≤ _), (by decide : 0 + 0 ≤ _)⟩)
  dsimp only [Pt.U, Pt.locs, Pt.cells, Pt.slots] at X21 l21 y21 z21 st21 hQ21
  subst l21 y21 z21
  obtain ⟨rfl, N21q, hq21⟩ := hQ21
  have N21 := Fr.app N13 N21q
  obtain ⟨c21, hc21⟩ : ∃ z : UInt32, z = (own_scale f2 f3) := ⟨_, rfl⟩
  rw [← hc21] at st21
  refine own_by st21 ?_
  obtain ⟨cl24, Ar24, qa24, Sa24, Na24, Ha24, Ga24⟩ := id fc_15
  obtain ⟨T24, h24, X24, e24, W24, st24⟩ := stF X21 hx hZ hq21 Ar24 (j := (0 : Int32)) (inb_of Sa24 ⟨by decide, by decide⟩) (g := (mkF m 24 (own_ARIFFU a1 (0 : Int32) f2 f3) [(.float c21), (.int (0 : Int32)), (.ref ts)])) rfl rfl (hb hby d10_24)
  have V24 : Arv Z h24 ts kts .float (2 : Int32) [(.float c21), (.float s1)] (.float (0 : UInt32)) := by
    have q := Arv.set Ar24 qa24 Sa24 Na24 Ha24 Ga24 rfl W24 0 rfl (Nat.le_of_ble_eq_true rfl)
    exact q
  have fc_24 := (fc_16.other W24 (Ne.symm ND.2.2.2.2.2.2.2.2.2.2.2.2.2.2.2.2.2.2.2.1))
  have fc_25 := (fc_17.other W24 (Ne.symm ND.2.2.2.2.2.2.2.2.2.2.2.2.2.2.2.2.2.2.2.2.1))
  have fc_26 := (fc_18.other W24 (Ne.symm ND.2.2.2.2.2.2.2.2.2.2.2.2.2.2.2.2.2.2.2.2.2.1))
  have fc_27 := (fc_19.other W24 (Ne.symm ND.2.2.2.2.2.2.2.2.2.2.2.2.2.2.2.2.2.2.2.2.2.2.1))
  have fc_28 := (fc_20.other W24 (Ne.symm ND.2.2.2.2.2.2.2.2.2.2.2.2.2.2.2.2.2.2.2.2.2.2.2.1))
  have fc_29 := (fc_21.other W24 (Ne.symm ND.2.2.2.2.2.2.2.2.2.2.2.2.2.2.2.2.2.2.2.2.2.2.2.2.1))
  have fc_30 := (fc_22.other W24 (Ne.symm ND.2.2.2.2.2.2.2.2.2.2.2.2.2.2.2.2.2.2.2.2.2.2.2.2.2.1))
  have fc_31 := (fc_23.other W24 (Ne.symm ND.2.2.2.2.2.2.2.2.2.2.2.2.2.2.2.2.2.2.2.2.2.2.2.2.2.2.1))
  have K24 : Keep h0 h24 [a1, tl, th, ts, cS, cD, cL, cH, cC] := K13.wr W24 (Or.inl (List.mem_of_getElem? (i := 3) rfl))
  have Z24 : n0 ≤ h24.size := Nat.le_trans Z13 (Keep.of_wr W24).1
  have N24 := Fr.snoc X24 N21 g_ts
  refine own_by st24 ?_
  have sg26 : ∀ t, own_S p e below T24 (mkF m 26 (own_ARIFFU a1 (0 : Int32) f2 f3) [(.ref a1)]) t → own_S p e below T24 (mkF m 25 (own_ARIFFU a1 (0 : Int32) f2 f3) []) t := by
    intro t k
    refine XS.aloadN X24.here hx rfl (hb hby d10_25) rfl rfl ?_
    exact k
  refine own_by sg26 ?_
  obtain ⟨T26, X26, e26, st26⟩ := getF X24 hx hZ hown (host := "") (Or.inl (own_w hw 81 rfl)) Via.refl e24 (fc_3.other W24 (Or.inl n_a1_ts)) (g := (mkF m 26 (own_ARIFFU a1 (0 : Int32) f2 f3) [(.ref a1)])) rfl rfl (hb hby d10_26)
  refine own_by st26 ?_
  have sg30 : ∀ t, own_S p e below T26 (mkF m 30 (own_ARIFFU a1 (0 : Int32) f2 f3) [(.ref a1), (.int kk)]) t → own_S p e below T26 (mkF m 29 (own_ARIFFU a1 (0 : Int32) f2 f3) [(.int kk)]) t := by
    intro t k
    refine XS.aloadN X26.here hx rfl (hb hby d10_29) rfl rfl ?_
    exact k
  refine own_by sg30 ?_
  obtain ⟨T30, X30, e30, st30⟩ := getF X26 hx hZ hown (host := "") (Or.inl (own_w hw 28 rfl)) Via.refl e26 (fc_10.other W24 (Or.inl n_a1_ts)) (g := (mkF m 30 (own_ARIFFU a1 (0 : Int32) f2 f3) [(.ref a1), (.int kk)])) rfl rfl (hb hby d10_30)
  refine own_by st30 ?_
  obtain ⟨cl33, Ar33, qa33, Sa33, Na33, Ha33, Ga33⟩ := id fc_27
  have sg111 : ∀ t, own_S p e below T30 (mkF m 111 (own_ARIFFU a1 (0 : Int32) f2 f3) [(.ref a1)]) t → own_S p e below T30 (mkF m 33 (own_ARIFFU a1 (0 : Int32) f2 f3) [(.ref cS), (.int kk)]) t := by
    intro t k
    refine X30.arraylength hx (by rw [e30]; exact Ar33.1) (State.isArrayOf_alike hZ.alike Ar33.2.1) (g := (mkF m 33 (own_ARIFFU a1 (0 : Int32) f2 f3) [(.ref cS), (.int kk)])) rfl rfl (hb hby d10_33) _ ?_
    rw [len_of Sa33 Na33]
    show own_S p e below T30 (mkF m 34 (own_ARIFFU a1 (0 : Int32) f2 f3) [(.int (16 : Int32)), (.int kk)]) _
    refine XS.icmpYes X30.here hx rfl (pc0 := 34) (pc' := 110) rfl (hb hby d10_34) rfl (feq (by rw [hkk]; exact own_ofne hl : ¬ (kk = (16 : Int32)))).2 (by decide) (by decide) ?_
    show own_S p e below T30 (mkF m 110 (own_ARIFFU a1 (0 : Int32) f2 f3) []) _
    refine XS.aloadN X30.here hx rfl (hb hby d10_110) rfl rfl ?_
    exact k
  refine own_by sg111 ?_
  obtain ⟨T111, X111, e111, st111⟩ := getF X30 hx hZ hown (host := "") (Or.inl (own_w hw 28 rfl)) Via.refl e30 (fc_10.other W24 (Or.inl n_a1_ts)) (g := (mkF m 111 (own_ARIFFU a1 (0 : Int32) f2 f3) [(.ref a1)])) rfl rfl (hb hby d10_111)
  refine own_by st111 ?_
  have sg115 : ∀ t, own_S p e below T111 (mkF m 115 (own_ARIFFU a1 (0 : Int32) f2 f3) [(.ref a1), (.ref cS)]) t → own_S p e below T111 (mkF m 114 (own_ARIFFU a1 (0 : Int32) f2 f3) [(.ref cS)]) t := by
    intro t k
    refine XS.aloadN X111.here hx rfl (hb hby d10_114) rfl rfl ?_
    exact k
  refine own_by sg115 ?_
  obtain ⟨T115, X115, e115, st115⟩ := getF X111 hx hZ hown (host := "") (Or.inl (own_w hw 81 rfl)) Via.refl e111 (fc_3.other W24 (Or.inl n_a1_ts)) (g := (mkF m 115 (own_ARIFFU a1 (0 : Int32) f2 f3) [(.ref a1), (.ref cS)])) rfl rfl (hb hby d10_115)
  refine own_by st115 ?_
  have sg119 : ∀ t, own_S p e below T115 (mkF m 119 (own_ARIFFU a1 (0 : Int32) f2 f3) [(.ref a1), (.int kk), (.ref cS)]) t → own_S p e below T115 (mkF m 118 (own_ARIFFU a1 (0 : Int32) f2 f3) [(.int kk), (.ref cS)]) t := by
    intro t k
    refine XS.aloadN X115.here hx rfl (hb hby d10_118) rfl rfl ?_
    exact k
  refine own_by sg119 ?_
  obtain ⟨T119, X119, e119, st119⟩ := getF X115 hx hZ hown (host := "") (Or.inl (own_w hw 83 rfl)) Via.refl e115 (fc_2.other W24 (Or.inl n_a1_ts)) (g := (mkF m 119 (own_ARIFFU a1 (0 : Int32) f2 f3) [(.ref a1), (.int kk), (.ref cS)])) rfl rfl (hb hby d10_119)
  refine own_by st119 ?_
  obtain ⟨cl122, Ar122, qa122, Sa122, Na122, Ha122, Ga122⟩ := id fc_27
  obtain ⟨T122, h122, X122, e122, W122, st122⟩ := stI X119 hx hZ e119 Ar122 (j := kk) (inb_of Sa122 (by rw [hkk]; exact own_of16 hl)) (g := (mkF m 122 (own_ARIFFU a1 (0 : Int32) f2 f3) [(.int n), (.int kk), (.ref cS)])) rfl rfl (hb hby d10_122)
  have V122 : Arv Z h122 cS kcS .int (16 : Int32) (((hist ++ [(n, (0 : Int32), f2, f3, c21)]).map (fun z : own_E => z.1) ++ g1.tail).map Value.int) (.int (0 : Int32)) := by
    have q := Arv.set Ar122 qa122 Sa122 Na122 Ha122 Ga122 rfl W122 hist.length (by rw [hkk]; exact own_ofto (by omega)) (by simp; omega)
    rw [show Value.int n = Value.int ((fun z : own_E => z.1) ((n, (0 : Int32), f2, f3, c21))) from rfl, own_setk _ hist g1 _ _ G1 hl] at q; exact q
  have fc_32 := ((fc.other W24 (Or.inl n_a1_ts)).other W122 (Or.inl n_a1_cS))
  have fc_33 := ((fc_2.other W24 (Or.inl n_a1_ts)).other W122 (Or.inl n_a1_cS))
  have fc_34 := ((fc_3.other W24 (Or.inl n_a1_ts)).other W122 (Or.inl n_a1_cS))
  have fc_35 := ((fc_4.other W24 (Or.inl n_a1_ts)).other W122 (Or.inl n_a1_cS))
  have fc_36 := ((fc_5.other W24 (Or.inl n_a1_ts)).other W122 (Or.inl n_a1_cS))
  have fc_37 := ((fc_6.other W24 (Or.inl n_a1_ts)).other W122 (Or.inl n_a1_cS))
  have fc_38 := ((fc_7.other W24 (Or.inl n_a1_ts)).other W122 (Or.inl n_a1_cS))
  have fc_39 := ((fc_8.other W24 (Or.inl n_a1_ts)).other W122 (Or.inl n_a1_cS))
  have fc_40 := ((fc_9.other W24 (Or.inl n_a1_ts)).other W122 (Or.inl n_a1_cS))
  have fc_41 := ((fc_10.other W24 (Or.inl n_a1_ts)).other W122 (Or.inl n_a1_cS))
  have fc_42 := ((fc_11.other W24 (Or.inl n_a1_ts)).other W122 (Or.inl n_a1_cS))
  have fc_43 := ((fc_12.other W24 (Or.inl n_a1_ts)).other W122 (Or.inl n_a1_cS))
  have fc_44 := ((fc_13.other W24 (Or.inl n_a1_ts)).other W122 (Or.inl n_a1_cS))
  have fc_45 := ((fc_14.other W24 (Or.inl n_a1_ts)).other W122 (Or.inl n_a1_cS))
  have fc_46 := (fc_24.other W122 ND.2.2.2.2.2.2.2.2.2.2.2.2.2.2.2.2.2.2.2.2.2.2.2.2.2.2.2.2.2.1)
  have fc_47 := (fc_25.other W122 ND.2.2.2.2.2.2.2.2.2.2.2.2.2.2.2.2.2.2.2.2.2.2.2.2.2.2.2.2.2.2.2.2.2.2.2.1)
  have fc_48 := (fc_26.other W122 ND.2.2.2.2.2.2.2.2.2.2.2.2.2.2.2.2.2.2.2.2.2.2.2.2.2.2.2.2.2.2.2.2.2.2.2.2.2.2.2.2.1)
  have fc_49 := (fc_28.other W122 (Ne.symm ND.2.2.2.2.2.2.2.2.2.2.2.2.2.2.2.2.2.2.2.2.2.2.2.2.2.2.2.2.2.2.2.2.2.2.2.2.2.2.2.2.2.2.2.2.2.1))
  have fc_50 := (fc_29.other W122 (Ne.symm ND.2.2.2.2.2.2.2.2.2.2.2.2.2.2.2.2.2.2.2.2.2.2.2.2.2.2.2.2.2.2.2.2.2.2.2.2.2.2.2.2.2.2.2.2.2.2.1))
  have fc_51 := (fc_30.other W122 (Ne.symm ND.2.2.2.2.2.2.2.2.2.2.2.2.2.2.2.2.2.2.2.2.2.2.2.2.2.2.2.2.2.2.2.2.2.2.2.2.2.2.2.2.2.2.2.2.2.2.2.1))
  have fc_52 := (fc_31.other W122 (Ne.symm ND.2.2.2.2.2.2.2.2.2.2.2.2.2.2.2.2.2.2.2.2.2.2.2.2.2.2.2.2.2.2.2.2.2.2.2.2.2.2.2.2.2.2.2.2.2.2.2.2.1))
  have fc_53 := (((V6.other W13 ND.1).other W24 ND.2.1).other W122 ND.2.2.2.2.2.1)
  have fc_54 := ((V13.other W24 ND.2.2.2.2.2.2.2.2.2.2.1).other W122 ND.2.2.2.2.2.2.2.2.2.2.2.2.2.2.1)
  have fc_55 := (V24.other W122 ND.2.2.2.2.2.2.2.2.2.2.2.2.2.2.2.2.2.2.2.2.2.2.1)
  have K122 : Keep h0 h122 [a1, tl, th, ts, cS, cD, cL, cH, cC] := K24.wr W122 (Or.inl (List.mem_of_getElem? (i := 4) rfl))
  have Z122 : n0 ≤ h122.size := Nat.le_trans Z24 (Keep.of_wr W122).1
  have N122 := Fr.snoc X122 N24 g_cS
  refine own_by st122 ?_
  have sg124 : ∀ t, own_S p e below T122 (mkF m 124 (own_ARIFFU a1 (0 : Int32) f2 f3) [(.ref a1)]) t → own_S p e below T122 (mkF m 123 (own_ARIFFU a1 (0 : Int32) f2 f3) []) t := by
    intro t k
    refine XS.aloadN X122.here hx rfl (hb hby d10_123) rfl rfl ?_
    exact k
  refine own_by sg124 ?_
  obtain ⟨T124, X124, e124, st124⟩ := getF X122 hx hZ hown (host := "") (Or.inl (own_w hw 30 rfl)) Via.refl e122 fc_42 (g := (mkF m 124 (own_ARIFFU a1 (0 : Int32) f2 f3) [(.ref a1)])) rfl rfl (hb hby d10_124)
  refine own_by st124 ?_
  have sg128 : ∀ t, own_S p e below T124 (mkF m 128 (own_ARIFFU a1 (0 : Int32) f2 f3) [(.ref a1), (.ref cD)]) t → own_S p e below T124 (mkF m 127 (own_ARIFFU a1 (0 : Int32) f2 f3) [(.ref cD)]) t := by
    intro t k
    refine XS.aloadN X124.here hx rfl (hb hby d10_127) rfl rfl ?_
    exact k
  refine own_by sg128 ?_
  obtain ⟨T128, X128, e128, st128⟩ := getF X124 hx hZ hown (host := "") (Or.inl (own_w hw 81 rfl)) Via.refl e124 fc_34 (g := (mkF m 128 (own_ARIFFU a1 (0 : Int32) f2 f3) [(.ref a1), (.ref cD)])) rfl rfl (hb hby d10_128)
  refine own_by st128 ?_
  have sg132 : ∀ t, own_S p e below T128 (mkF m 132 (own_ARIFFU a1 (0 : Int32) f2 f3) [(.int (0 : Int32)), (.int kk), (.ref cD)]) t → own_S p e below T128 (mkF m 131 (own_ARIFFU a1 (0 : Int32) f2 f3) [(.int kk), (.ref cD)]) t := by
    intro t k
    refine XS.iloadN X128.here hx rfl (hb hby d10_131) rfl ?_
    exact k
  refine own_by sg132 ?_
  obtain ⟨cl132, Ar132, qa132, Sa132, Na132, Ha132, Ga132⟩ := id fc_49
  obtain ⟨T132, h132, X132, e132, W132, st132⟩ := stI X128 hx hZ e128 Ar132 (j := kk) (inb_of Sa132 (by rw [hkk]; exact own_of16 hl)) (g := (mkF m 132 (own_ARIFFU a1 (0 : Int32) f2 f3) [(.int (0 : Int32)), (.int kk), (.ref cD)])) rfl rfl (hb hby d10_132)
  have V132 : Arv Z h132 cD kcD .int (16 : Int32) (((hist ++ [(n, (0 : Int32), f2, f3, c21)]).map (fun z : own_E => z.2.1) ++ g2.tail).map Value.int) (.int (0 : Int32)) := by
    have q := Arv.set Ar132 qa132 Sa132 Na132 Ha132 Ga132 rfl W132 hist.length (by rw [hkk]; exact own_ofto (by omega)) (by simp; omega)
    rw [show Value.int (0 : Int32) = Value.int ((fun z : own_E => z.2.1) ((n, (0 : Int32), f2, f3, c21))) from rfl, own_setk _ hist g2 _ _ G2 hl] at q; exact q
  have fc_56 := (fc_46.other W132 ND.2.2.2.2.2.2.2.2.2.2.2.2.2.2.2.2.2.2.2.2.2.2.2.2.2.2.2.2.2.2.1)
  have fc_57 := (fc_47.other W132 ND.2.2.2.2.2.2.2.2.2.2.2.2.2.2.2.2.2.2.2.2.2.2.2.2.2.2.2.2.2.2.2.2.2.2.2.2.1)
  have fc_58 := (fc_48.other W132 ND.2.2.2.2.2.2.2.2.2.2.2.2.2.2.2.2.2.2.2.2.2.2.2.2.2.2.2.2.2.2.2.2.2.2.2.2.2.2.2.2.2.1)
  have fc_59 := (fc_50.other W132 (Ne.symm ND.2.2.2.2.2.2.2.2.2.2.2.2.2.2.2.2.2.2.2.2.2.2.2.2.2.2.2.2.2.2.2.2.2.2.2.2.2.2.2.2.2.2.2.2.2.2.2.2.2.1))
  have fc_60 := (fc_51.other W132 (Ne.symm ND.2.2.2.2.2.2.2.2.2.2.2.2.2.2.2.2.2.2.2.2.2.2.2.2.2.2.2.2.2.2.2.2.2.2.2.2.2.2.2.2.2.2.2.2.2.2.2.2.2.2.1))
  have fc_61 := (fc_52.other W132 (Ne.symm ND.2.2.2.2.2.2.2.2.2.2.2.2.2.2.2.2.2.2.2.2.2.2.2.2.2.2.2.2.2.2.2.2.2.2.2.2.2.2.2.2.2.2.2.2.2.2.2.2.2.2.2.1))
  have fc_62 := (fc_55.other W132 ND.2.2.2.2.2.2.2.2.2.2.2.2.2.2.2.2.2.2.2.2.2.2.2.1)
  have fc_63 := (V122.other W132 ND.2.2.2.2.2.2.2.2.2.2.2.2.2.2.2.2.2.2.2.2.2.2.2.2.2.2.2.2.2.2.2.2.2.2.2.2.2.2.2.2.2.2.2.2.2.1)
  have K132 : Keep h0 h132 [a1, tl, th, ts, cS, cD, cL, cH, cC] := K122.wr W132 (Or.inl (List.mem_of_getElem? (i := 5) rfl))
  have Z132 : n0 ≤ h132.size := Nat.le_trans Z122 (Keep.of_wr W132).1
  have N132 := Fr.snoc X132 N122 g_cD
  refine own_by st132 ?_
  have sg134 : ∀ t, own_S p e below T132 (mkF m 134 (own_ARIFFU a1 (0 : Int32) f2 f3) [(.ref a1)]) t → own_S p e below T132 (mkF m 133 (own_ARIFFU a1 (0 : Int32) f2 f3) []) t := by
    intro t k
    refine XS.aloadN X132.here hx rfl (hb hby d10_133) rfl rfl ?_
    exact k
  refine own_by sg134 ?_
  obtain ⟨T134, X134, e134, st134⟩ := getF X132 hx hZ hown (host := "") (Or.inl (own_w hw 32 rfl)) Via.refl e132 (fc_43.other W132 (Or.inl n_a1_cD)) (g := (mkF m 134 (own_ARIFFU a1 (0 : Int32) f2 f3) [(.ref a1)])) rfl rfl (hb hby d10_134)
  refine own_by st134 ?_
  have sg138 : ∀ t, own_S p e below T134 (mkF m 138 (own_ARIFFU a1 (0 : Int32) f2 f3) [(.ref a1), (.ref cL)]) t → own_S p e below T134 (mkF m 137 (own_ARIFFU a1 (0 : Int32) f2 f3) [(.ref cL)]) t := by
    intro t k
    refine XS.aloadN X134.here hx rfl (hb hby d10_137) rfl rfl ?_
    exact k
  refine own_by sg138 ?_
  obtain ⟨T138, X138, e138, st138⟩ := getF X134 hx hZ hown (host := "") (Or.inl (own_w hw 81 rfl)) Via.refl e134 (fc_34.other W132 (Or.inl n_a1_cD)) (g := (mkF m 138 (own_ARIFFU a1 (0 : Int32) f2 f3) [(.ref a1), (.ref cL)])) rfl rfl (hb hby d10_138)
  refine own_by st138 ?_
  have sg142 : ∀ t, own_S p e below T138 (mkF m 142 (own_ARIFFU a1 (0 : Int32) f2 f3) [(.float f2), (.int kk), (.ref cL)]) t → own_S p e below T138 (mkF m 141 (own_ARIFFU a1 (0 : Int32) f2 f3) [(.int kk), (.ref cL)]) t := by
    intro t k
    refine XS.floadN X138.here hx rfl (hb hby d10_141) rfl ?_
    exact k
  refine own_by sg142 ?_
  obtain ⟨cl142, Ar142, qa142, Sa142, Na142, Ha142, Ga142⟩ := id fc_59
  obtain ⟨T142, h142, X142, e142, W142, st142⟩ := stF X138 hx hZ e138 Ar142 (j := kk) (inb_of Sa142 (by rw [hkk]; exact own_of16 hl)) (g := (mkF m 142 (own_ARIFFU a1 (0 : Int32) f2 f3) [(.float f2), (.int kk), (.ref cL)])) rfl rfl (hb hby d10_142)
  have V142 : Arv Z h142 cL kcL .float (16 : Int32) (((hist ++ [(n, (0 : Int32), f2, f3, c21)]).map (fun z : own_E => z.2.2.1) ++ g3.tail).map Value.float) (.float (0 : UInt32)) := by
    have q := Arv.set Ar142 qa142 Sa142 Na142 Ha142 Ga142 rfl W142 hist.length (by rw [hkk]; exact own_ofto (by omega)) (by simp; omega)
    rw [show Value.float f2 = Value.float ((fun z : own_E => z.2.2.1) ((n, (0 : Int32), f2, f3, c21))) from rfl, own_setk _ hist g3 _ _ G3 hl] at q; exact q
  have fc_64 := ((fc_32.other W132 (Or.inl n_a1_cD)).other W142 (Or.inl n_a1_cL))
  have fc_65 := ((fc_33.other W132 (Or.inl n_a1_cD)).other W142 (Or.inl n_a1_cL))
  have fc_66 := ((fc_34.other W132 (Or.inl n_a1_cD)).other W142 (Or.inl n_a1_cL))
  have fc_67 := ((fc_35.other W132 (Or.inl n_a1_cD)).other W142 (Or.inl n_a1_cL))
  have fc_68 := ((fc_36.other W132 (Or.inl n_a1_cD)).other W142 (Or.inl n_a1_cL))
  have fc_69 := ((fc_37.other W132 (Or.inl n_a1_cD)).other W142 (Or.inl n_a1_cL))
  have fc_70 := ((fc_38.other W132 (Or.inl n_a1_cD)).other W142 (Or.inl n_a1_cL))
  have fc_71 := ((fc_39.other W132 (Or.inl n_a1_cD)).other W142 (Or.inl n_a1_cL))
  have fc_72 := ((fc_40.other W132 (Or.inl n_a1_cD)).other W142 (Or.inl n_a1_cL))
  have fc_73 := ((fc_41.other W132 (Or.inl n_a1_cD)).other W142 (Or.inl n_a1_cL))
  have fc_74 := ((fc_42.other W132 (Or.inl n_a1_cD)).other W142 (Or.inl n_a1_cL))
  have fc_75 := ((fc_43.other W132 (Or.inl n_a1_cD)).other W142 (Or.inl n_a1_cL))
  have fc_76 := ((fc_44.other W132 (Or.inl n_a1_cD)).other W142 (Or.inl n_a1_cL))
  have fc_77 := ((fc_45.other W132 (Or.inl n_a1_cD)).other W142 (Or.inl n_a1_cL))
  have fc_78 := (fc_56.other W142 ND.2.2.2.2.2.2.2.2.2.2.2.2.2.2.2.2.2.2.2.2.2.2.2.2.2.2.2.2.2.2.2.1)
  have fc_79 := (fc_57.other W142 ND.2.2.2.2.2.2.2.2.2.2.2.2.2.2.2.2.2.2.2.2.2.2.2.2.2.2.2.2.2.2.2.2.2.2.2.2.2.1)
  have fc_80 := (fc_58.other W142 ND.2.2.2.2.2.2.2.2.2.2.2.2.2.2.2.2.2.2.2.2.2.2.2.2.2.2.2.2.2.2.2.2.2.2.2.2.2.2.2.2.2.2.1)
  have fc_81 := (fc_60.other W142 (Ne.symm ND.2.2.2.2.2.2.2.2.2.2.2.2.2.2.2.2.2.2.2.2.2.2.2.2.2.2.2.2.2.2.2.2.2.2.2.2.2.2.2.2.2.2.2.2.2.2.2.2.2.2.2.2.1))
  have fc_82 := (fc_61.other W142 (Ne.symm ND.2.2.2.2.2.2.2.2.2.2.2.2.2.2.2.2.2.2.2.2.2.2.2.2.2.2.2.2.2.2.2.2.2.2.2.2.2.2.2.2.2.2.2.2.2.2.2.2.2.2.2.2.2.1))
  have fc_83 := ((fc_53.other W132 ND.2.2.2.2.2.2.1).other W142 ND.2.2.2.2.2.2.2.1)
  have fc_84 := ((fc_54.other W132 ND.2.2.2.2.2.2.2.2.2.2.2.2.2.2.2.1).other W142 ND.2.2.2.2.2.2.2.2.2.2.2.2.2.2.2.2.1)
  have fc_85 := (fc_62.other W142 ND.2.2.2.2.2.2.2.2.2.2.2.2.2.2.2.2.2.2.2.2.2.2.2.2.1)
  have fc_86 := (fc_63.other W142 ND.2.2.2.2.2.2.2.2.2.2.2.2.2.2.2.2.2.2.2.2.2.2.2.2.2.2.2.2.2.2.2.2.2.2.2.2.2.2.2.2.2.2.2.2.2.2.1)
  have fc_87 := (V132.other W142 ND.2.2.2.2.2.2.2.2.2.2.2.2.2.2.2.2.2.2.2.2.2.2.2.2.2.2.2.2.2.2.2.2.2.2.2.2.2.2.2.2.2.2.2.2.2.2.2.2.2.1)
  have K142 : Keep h0 h142 [a1, tl, th, ts, cS, cD, cL, cH, cC] := K132.wr W142 (Or.inl (List.mem_of_getElem? (i := 6) rfl))
  have Z142 : n0 ≤ h142.size := Nat.le_trans Z132 (Keep.of_wr W142).1
  have N142 := Fr.snoc X142 N132 g_cL
  refine own_by st142 ?_
  have sg144 : ∀ t, own_S p e below T142 (mkF m 144 (own_ARIFFU a1 (0 : Int32) f2 f3) [(.ref a1)]) t → own_S p e below T142 (mkF m 143 (own_ARIFFU a1 (0 : Int32) f2 f3) []) t := by
    intro t k
    refine XS.aloadN X142.here hx rfl (hb hby d10_143) rfl rfl ?_
    exact k
  refine own_by sg144 ?_
  obtain ⟨T144, X144, e144, st144⟩ := getF X142 hx hZ hown (host := "") (Or.inl (own_w hw 34 rfl)) Via.refl e142 fc_76 (g := (mkF m 144 (own_ARIFFU a1 (0 : Int32) f2 f3) [(.ref a1)])) rfl rfl (hb hby d10_144)
  refine own_by st144 ?_
  have sg148 : ∀ t, own_S p e below T144 (mkF m 148 (own_ARIFFU a1 (0 : Int32) f2 f3) [(.ref a1), (.ref cH)]) t → own_S p e below T144 (mkF m 147 (own_ARIFFU a1 (0 : Int32) f2 f3) [(.ref cH)]) t := by
    intro t k
    refine XS.aloadN X144.here hx rfl (hb hby d10_147) rfl rfl ?_
    exact k
  refine own_by sg148 ?_
  obtain ⟨T148, X148, e148, st148⟩ := getF X144 hx hZ hown (host := "") (Or.inl (own_w hw 81 rfl)) Via.refl e144 fc_66 (g := (mkF m 148 (own_ARIFFU a1 (0 : Int32) f2 f3) [(.ref a1), (.ref cH)])) rfl rfl (hb hby d10_148)
  refine own_by st148 ?_
  have sg152 : ∀ t, own_S p e below T148 (mkF m 152 (own_ARIFFU a1 (0 : Int32) f2 f3) [(.float f3), (.int kk), (.ref cH)]) t → own_S p e below T148 (mkF m 151 (own_ARIFFU a1 (0 : Int32) f2 f3) [(.int kk), (.ref cH)]) t := by
    intro t k
    refine XS.floadN X148.here hx rfl (hb hby d10_151) rfl ?_
    exact k
  refine own_by sg152 ?_
  obtain ⟨cl152, Ar152, qa152, Sa152, Na152, Ha152, Ga152⟩ := id fc_81
  obtain ⟨T152, h152, X152, e152, W152, st152⟩ := stF X148 hx hZ e148 Ar152 (j := kk) (inb_of Sa152 (by rw [hkk]; exact own_of16 hl)) (g := (mkF m 152 (own_ARIFFU a1 (0 : Int32) f2 f3) [(.float f3), (.int kk), (.ref cH)])) rfl rfl (hb hby d10_152)
  have V152 : Arv Z h152 cH kcH .float (16 : Int32) (((hist ++ [(n, (0 : Int32), f2, f3, c21)]).map (fun z : own_E => z.2.2.2.1) ++ g4.tail).map Value.float) (.float (0 : UInt32)) := by
    have q := Arv.set Ar152 qa152 Sa152 Na152 Ha152 Ga152 rfl W152 hist.length (by rw [hkk]; exact own_ofto (by omega)) (by simp; omega)
    rw [show Value.float f3 = Value.float ((fun z : own_E => z.2.2.2.1) ((n, (0 : Int32), f2, f3, c21))) from rfl, own_setk _ hist g4 _ _ G4 hl] at q; exact q
  have fc_88 := (((((((E_q.wr W6).wr W13).wr W24).wr W122).wr W132).wr W142).wr W152)
  have fc_89 := (fc_78.other W152 ND.2.2.2.2.2.2.2.2.2.2.2.2.2.2.2.2.2.2.2.2.2.2.2.2.2.2.2.2.2.2.2.2.1)
  have fc_90 := (fc_79.other W152 ND.2.2.2.2.2.2.2.2.2.2.2.2.2.2.2.2.2.2.2.2.2.2.2.2.2.2.2.2.2.2.2.2.2.2.2.2.2.2.1)
  have fc_91 := (fc_80.other W152 ND.2.2.2.2.2.2.2.2.2.2.2.2.2.2.2.2.2.2.2.2.2.2.2.2.2.2.2.2.2.2.2.2.2.2.2.2.2.2.2.2.2.2.2.1)
  have fc_92 := (fc_82.other W152 (Ne.symm ND.2.2.2.2.2.2.2.2.2.2.2.2.2.2.2.2.2.2.2.2.2.2.2.2.2.2.2.2.2.2.2.2.2.2.2.2.2.2.2.2.2.2.2.2.2.2.2.2.2.2.2.2.2.2))
  have fc_93 := (fc_85.other W152 ND.2.2.2.2.2.2.2.2.2.2.2.2.2.2.2.2.2.2.2.2.2.2.2.2.2.1)
  have fc_94 := (fc_86.other W152 ND.2.2.2.2.2.2.2.2.2.2.2.2.2.2.2.2.2.2.2.2.2.2.2.2.2.2.2.2.2.2.2.2.2.2.2.2.2.2.2.2.2.2.2.2.2.2.2.1)
  have fc_95 := (fc_87.other W152 ND.2.2.2.2.2.2.2.2.2.2.2.2.2.2.2.2.2.2.2.2.2.2.2.2.2.2.2.2.2.2.2.2.2.2.2.2.2.2.2.2.2.2.2.2.2.2.2.2.2.2.1)
  have fc_96 := (V142.other W152 ND.2.2.2.2.2.2.2.2.2.2.2.2.2.2.2.2.2.2.2.2.2.2.2.2.2.2.2.2.2.2.2.2.2.2.2.2.2.2.2.2.2.2.2.2.2.2.2.2.2.2.2.2.1)
  have K152 : Keep h0 h152 [a1, tl, th, ts, cS, cD, cL, cH, cC] := K142.wr W152 (Or.inl (List.mem_of_getElem? (i := 7) rfl))
  have Z152 : n0 ≤ h152.size := Nat.le_trans Z142 (Keep.of_wr W152).1
  have N152 := Fr.snoc X152 N142 g_cH
  refine own_by st152 ?_
  have sg154 : ∀ t, own_S p e below T152 (mkF m 154 (own_ARIFFU a1 (0 : Int32) f2 f3) [(.ref a1)]) t → own_S p e below T152 (mkF m 153 (own_ARIFFU a1 (0 : Int32) f2 f3) []) t := by
    intro t k
    refine XS.aloadN X152.here hx rfl (hb hby d10_153) rfl rfl ?_
    exact k
  refine own_by sg154 ?_
  obtain ⟨T154, X154, e154, st154⟩ := getF X152 hx hZ hown (host := "") (Or.inl (own_w hw 36 rfl)) Via.refl e152 (fc_77.other W152 (Or.inl n_a1_cH)) (g := (mkF m 154 (own_ARIFFU a1 (0 : Int32) f2 f3) [(.ref a1)])) rfl rfl (hb hby d10_154)
  refine own_by st154 ?_
  have sg158 : ∀ t, own_S p e below T154 (mkF m 158 (own_ARIFFU a1 (0 : Int32) f2 f3) [(.ref a1), (.ref cC)]) t → own_S p e below T154 (mkF m 157 (own_ARIFFU a1 (0 : Int32) f2 f3) [(.ref cC)]) t := by
    intro t k
    refine XS.aloadN X154.here hx rfl (hb hby d10_157) rfl rfl ?_
    exact k
  refine own_by sg158 ?_
  obtain ⟨T158, X158, e158, st158⟩ := getF X154 hx hZ hown (host := "") (Or.inl (own_w hw 81 rfl)) Via.refl e154 (fc_66.other W152 (Or.inl n_a1_cH)) (g := (mkF m 158 (own_ARIFFU a1 (0 : Int32) f2 f3) [(.ref a1), (.ref cC)])) rfl rfl (hb hby d10_158)
  refine own_by st158 ?_
  have sg162 : ∀ t, own_S p e below T158 (mkF m 162 (own_ARIFFU a1 (0 : Int32) f2 f3) [(.ref a1), (.int kk), (.ref cC)]) t → own_S p e below T158 (mkF m 161 (own_ARIFFU a1 (0 : Int32) f2 f3) [(.int kk), (.ref cC)]) t := by
    intro t k
    refine XS.aloadN X158.here hx rfl (hb hby d10_161) rfl rfl ?_
    exact k
  refine own_by sg162 ?_
  obtain ⟨T162, X162, e162, st162⟩ := getF X158 hx hZ hown (host := "") (Or.inl (own_w hw 53 rfl)) Via.refl e158 (fc_69.other W152 (Or.inl n_a1_cH)) (g := (mkF m 162 (own_ARIFFU a1 (0 : Int32) f2 f3) [(.ref a1), (.int kk), (.ref cC)])) rfl rfl (hb hby d10_162)
  refine own_by st162 ?_
  have sg166 : ∀ t, own_S p e below T162 (mkF m 166 (own_ARIFFU a1 (0 : Int32) f2 f3) [(.int (0 : Int32)), (.ref ts), (.int kk), (.ref cC)]) t → own_S p e below T162 (mkF m 165 (own_ARIFFU a1 (0 : Int32) f2 f3) [(.ref ts), (.int kk), (.ref cC)]) t := by
    intro t k
    refine XS.iloadN X162.here hx rfl (hb hby d10_165) rfl ?_
    exact k
  refine own_by sg166 ?_
  obtain ⟨cl166, Ar166, qa166, Sa166, Na166, Ha166, Ga166⟩ := id fc_93
  have sg167 : ∀ t, own_S p e below T162 (mkF m 167 (own_ARIFFU a1 (0 : Int32) f2 f3) [(.float c21), (.int kk), (.ref cC)]) t → own_S p e below T162 (mkF m 166 (own_ARIFFU a1 (0 : Int32) f2 f3) [(.int (0 : Int32)), (.ref ts), (.int kk), (.ref cC)]) t := by
    intro t k
    refine X162.faload hx (j := (0 : Int32)) (v := (.float c21)) (by rw [e162]; exact Ar166.1) (State.isArrayOf_alike hZ.alike Ar166.2.1) Ar166.2.2 (inb_of Sa166 ⟨by decide, by decide⟩) (Ha166 0 (by rw [Sa166]; decide)) (g := (mkF m 166 (own_ARIFFU a1 (0 : Int32) f2 f3) [(.int (0 : Int32)), (.ref ts), (.int kk), (.ref cC)])) rfl rfl (hb hby d10_166) _ ?_
    exact k
  refine own_by sg167 ?_
  obtain ⟨cl167, Ar167, qa167, Sa167, Na167, Ha167, Ga167⟩ := id fc_92
  obtain ⟨T167, h167, X167, e167, W167, st167⟩ := stF X162 hx hZ e162 Ar167 (j := kk) (inb_of Sa167 (by rw [hkk]; exact own_of16 hl)) (g := (mkF m 167 (own_ARIFFU a1 (0 : Int32) f2 f3) [(.float c21), (.int kk), (.ref cC)])) rfl rfl (hb hby d10_167)
  have V167 : Arv Z h167 cC kcC .float (16 : Int32) (((hist ++ [(n, (0 : Int32), f2, f3, c21)]).map (fun z : own_E => z.2.2.2.2) ++ g5.tail).map Value.float) (.float (0 : UInt32)) := by
    have q := Arv.set Ar167 qa167 Sa167 Na167 Ha167 Ga167 rfl W167 hist.length (by rw [hkk]; exact own_ofto (by omega)) (by simp; omega)
    rw [show Value.float c21 = Value.float ((fun z : own_E => z.2.2.2.2) ((n, (0 : Int32), f2, f3, c21))) from rfl, own_setk _ hist g5 _ _ G5 hl] at q; exact q
  have fc_97 := ((fc_64.other W152 (Or.inl n_a1_cH)).other W167 (Or.inl n_a1_cC))
  have fc_98 := ((fc_65.other W152 (Or.inl n_a1_cH)).other W167 (Or.inl n_a1_cC))
  have fc_99 := ((fc_66.other W152 (Or.inl n_a1_cH)).other W167 (Or.inl n_a1_cC))
  have fc_100 := ((fc_67.other W152 (Or.inl n_a1_cH)).other W167 (Or.inl n_a1_cC))
  have fc_101 := ((fc_68.other W152 (Or.inl n_a1_cH)).other W167 (Or.inl n_a1_cC))
  have fc_102 := ((fc_69.other W152 (Or.inl n_a1_cH)).other W167 (Or.inl n_a1_cC))
  have fc_103 := ((fc_70.other W152 (Or.inl n_a1_cH)).other W167 (Or.inl n_a1_cC))
  have fc_104 := ((fc_71.other W152 (Or.inl n_a1_cH)).other W167 (Or.inl n_a1_cC))
  have fc_105 := ((fc_72.other W152 (Or.inl n_a1_cH)).other W167 (Or.inl n_a1_cC))
  have fc_106 := ((fc_73.other W152 (Or.inl n_a1_cH)).other W167 (Or.inl n_a1_cC))
  have fc_107 := ((fc_74.other W152 (Or.inl n_a1_cH)).other W167 (Or.inl n_a1_cC))
  have fc_108 := ((fc_75.other W152 (Or.inl n_a1_cH)).other W167 (Or.inl n_a1_cC))
  have fc_109 := ((fc_76.other W152 (Or.inl n_a1_cH)).other W167 (Or.inl n_a1_cC))
  have fc_110 := ((fc_77.other W152 (Or.inl n_a1_cH)).other W167 (Or.inl n_a1_cC))
  have fc_111 := (fc_89.other W167 ND.2.2.2.2.2.2.2.2.2.2.2.2.2.2.2.2.2.2.2.2.2.2.2.2.2.2.2.2.2.2.2.2.2.1)
  have fc_112 := (fc_90.other W167 ND.2.2.2.2.2.2.2.2.2.2.2.2.2.2.2.2.2.2.2.2.2.2.2.2.2.2.2.2.2.2.2.2.2.2.2.2.2.2.2.1)
  have fc_113 := (fc_91.other W167 ND.2.2.2.2.2.2.2.2.2.2.2.2.2.2.2.2.2.2.2.2.2.2.2.2.2.2.2.2.2.2.2.2.2.2.2.2.2.2.2.2.2.2.2.2.1)
  have fc_114 := ((fc_83.other W152 ND.2.2.2.2.2.2.2.2.1).other W167 ND.2.2.2.2.2.2.2.2.2.1)
  have fc_115 := ((fc_84.other W152 ND.2.2.2.2.2.2.2.2.2.2.2.2.2.2.2.2.2.1).other W167 ND.2.2.2.2.2.2.2.2.2.2.2.2.2.2.2.2.2.2.1)
  have fc_116 := (fc_93.other W167 ND.2.2.2.2.2.2.2.2.2.2.2.2.2.2.2.2.2.2.2.2.2.2.2.2.2.2.1)
  have fc_117 := (fc_94.other W167 ND.2.2.2.2.2.2.2.2.2.2.2.2.2.2.2.2.2.2.2.2.2.2.2.2.2.2.2.2.2.2.2.2.2.2.2.2.2.2.2.2.2.2.2.2.2.2.2.2.1)
  have fc_118 := (fc_95.other W167 ND.2.2.2.2.2.2.2.2.2.2.2.2.2.2.2.2.2.2.2.2.2.2.2.2.2.2.2.2.2.2.2.2.2.2.2.2.2.2.2.2.2.2.2.2.2.2.2.2.2.2.2.1)
  have fc_119 := (fc_96.other W167 ND.2.2.2.2.2.2.2.2.2.2.2.2.2.2.2.2.2.2.2.2.2.2.2.2.2.2.2.2.2.2.2.2.2.2.2.2.2.2.2.2.2.2.2.2.2.2.2.2.2.2.2.2.2.1)
  have fc_120 := (V152.other W167 ND.2.2.2.2.2.2.2.2.2.2.2.2.2.2.2.2.2.2.2.2.2.2.2.2.2.2.2.2.2.2.2.2.2.2.2.2.2.2.2.2.2.2.2.2.2.2.2.2.2.2.2.2.2.2)
  have K167 : Keep h0 h167 [a1, tl, th, ts, cS, cD, cL, cH, cC] := K152.wr W167 (Or.inl (List.mem_of_getElem? (i := 8) rfl))
  have Z167 : n0 ≤ h167.size := Nat.le_trans Z152 (Keep.of_wr W167).1
  have N167 := Fr.snoc X167 N152 g_cC
  refine own_by st167 ?_
  have sg170 : ∀ t, own_S p e below T167 (mkF m 170 (own_ARIFFU a1 (0 : Int32) f2 f3) [(.ref a1), (.ref a1)]) t → own_S p e below T167 (mkF m 168 (own_ARIFFU a1 (0 : Int32) f2 f3) []) t := by
    intro t k
    refine XS.aloadN X167.here hx rfl (hb hby d10_168) rfl rfl ?_
    show own_S p e below T167 (mkF m 169 (own_ARIFFU a1 (0 : Int32) f2 f3) [(.ref a1)]) _
    refine XS.dup X167.here hx rfl (hb hby d10_169) rfl rfl ?_
    exact k
  refine own_by sg170 ?_
  obtain ⟨T170, X170, e170, st170⟩ := getF X167 hx hZ hown (host := "") (Or.inl (own_w hw 81 rfl)) Via.refl e167 fc_99 (g := (mkF m 170 (own_ARIFFU a1 (0 : Int32) f2 f3) [(.ref a1), (.ref a1)])) rfl rfl (hb hby d10_170)
  refine own_by st170 ?_
  have sg175 : ∀ t, own_S p e below T170 (mkF m 175 (own_ARIFFU a1 (0 : Int32) f2 f3) [(.int (kk + (1 : Int32))), (.ref a1)]) t → own_S p e below T170 (mkF m 173 (own_ARIFFU a1 (0 : Int32) f2 f3) [(.int kk), (.ref a1)]) t := by
    intro t k
    refine XS.iconst X170.here hx rfl (hb hby d10_173) ?_
    show own_S p e below T170 (mkF m 174 (own_ARIFFU a1 (0 : Int32) f2 f3) [(.int (1 : Int32)), (.int kk), (.ref a1)]) _
    refine XS.iadd X170.here hx rfl (hb hby d10_174) rfl ?_
    exact k
  refine own_by sg175 ?_
  obtain ⟨T175, h175, X175, e175, W175, st175⟩ := putF X170 hx hZ hown (host := "") (Or.inl (own_w hw 81 rfl)) Via.refl e170 fc_99 (fc_88.wr W167) (Or.inl (own_w hw 82 rfl)) (own_w hw 7 rfl) (ty := .int) (by decide) rfl rfl (g := (mkF m 175 (own_ARIFFU a1 (0 : Int32) f2 f3) [(.int (kk + (1 : Int32))), (.ref a1)])) rfl rfl (hb hby d10_175)
  have Fw175 := fc_99.same W175
  have fc_121 := (fc_97.other W175 (Or.inr (slot_ne (Or.inr (own_w hw 39 rfl)) (Or.inl (own_w hw 82 rfl)) (by decide) (t := .int) (t' := .int) (by decide) (by decide))))
  have fc_122 := (fc_98.other W175 (Or.inr (slot_ne (Or.inl (own_w hw 84 rfl)) (Or.inl (own_w hw 82 rfl)) (by decide) (t := .int) (t' := .int) (by decide) (by decide))))
  have fc_123 := (fc_100.other W175 (Or.inr (slot_ne (Or.inr (own_w hw 50 rfl)) (Or.inl (own_w hw 82 rfl)) (by decide) (t := (.array .float)) (t' := .int) (by decide) (by decide))))
  have fc_124 := (fc_101.other W175 (Or.inr (slot_ne (Or.inr (own_w hw 52 rfl)) (Or.inl (own_w hw 82 rfl)) (by decide) (t := (.array .float)) (t' := .int) (by decide) (by decide))))
  have fc_125 := (fc_102.other W175 (Or.inr (slot_ne (Or.inr (own_w hw 54 rfl)) (Or.inl (own_w hw 82 rfl)) (by decide) (t := (.array .float)) (t' := .int) (by decide) (by decide))))
  have fc_126 := (fc_103.other W175 (Or.inr (slot_ne (Or.inr (own_w hw 56 rfl)) (Or.inl (own_w hw 82 rfl)) (by decide) (t := (.array .float)) (t' := .int) (by decide) (by decide))))
  have fc_127 := (fc_104.other W175 (Or.inr (slot_ne (Or.inr (own_w hw 58 rfl)) (Or.inl (own_w hw 82 rfl)) (by decide) (t := (.array .float)) (t' := .int) (by decide) (by decide))))
  have fc_128 := (fc_105.other W175 (Or.inr (slot_ne (Or.inr (own_w hw 60 rfl)) (Or.inl (own_w hw 82 rfl)) (by decide) (t := (.array .float)) (t' := .int) (by decide) (by decide))))
  have fc_129 := (fc_106.other W175 (Or.inr (slot_ne (Or.inl (own_w hw 29 rfl)) (Or.inl (own_w hw 82 rfl)) (by decide) (t := (.array .int)) (t' := .int) (by decide) (by decide))))
  have fc_130 := (fc_107.other W175 (Or.inr (slot_ne (Or.inl (own_w hw 31 rfl)) (Or.inl (own_w hw 82 rfl)) (by decide) (t := (.array .int)) (t' := .int) (by decide) (by decide))))
  have fc_131 := (fc_108.other W175 (Or.inr (slot_ne (Or.inl (own_w hw 33 rfl)) (Or.inl (own_w hw 82 rfl)) (by decide) (t := (.array .float)) (t' := .int) (by decide) (by decide))))
  have fc_132 := (fc_109.other W175 (Or.inr (slot_ne (Or.inl (own_w hw 35 rfl)) (Or.inl (own_w hw 82 rfl)) (by decide) (t := (.array .float)) (t' := .int) (by decide) (by decide))))
  have fc_133 := (fc_110.other W175 (Or.inr (slot_ne (Or.inl (own_w hw 37 rfl)) (Or.inl (own_w hw 82 rfl)) (by decide) (t := (.array .float)) (t' := .int) (by decide) (by decide))))
  have K175 : Keep h0 h175 [a1, tl, th, ts, cS, cD, cL, cH, cC] := K167.wr W175 (Or.inl (List.mem_of_getElem? (i := 0) rfl))
  have Z175 : n0 ≤ h175.size := Nat.le_trans Z167 (Keep.of_wr W175).1
  have N175 := Fr.snoc X175 N167 g_a1
  refine own_by st175 ?_
  obtain ⟨fs, hr, hrun, hended, hW, hsame⟩ := X175.leave (v := none) (fun _ => rfl)
  refine ⟨_, _, ?_, hrun, hended, _, _, rfl, ?_, ⟨_, rfl⟩, hW, hsame.mono (by decide) (by decide)⟩
  · exact X175.returnOut hx Bd.returns (hb hby d10_178) hr
  · show Q100 Z a1 f2 f3 tl th ts sl sh ss cS cD cL cH cC n l0 l1 u0 u1 s0 s1 hist h0 n0 _ T175.heap _
    rw [e175]
    exact ⟨rfl, N175, K175, (by rw [← hc21]; exact ⟨_, _, _, _, _, _, _, _, _, _, _, _, _, _, _, _, ND, ⟨own_tl hist _ g1 G1 hl, own_tl hist _ g2 G2 hl, own_tl hist _ g3 G3 hl, own_tl hist _ g4 G4 hl, own_tl hist _ g5 G5 hl⟩, ((fc_88.wr W167).wr W175), fc_121, fc_123, fc_124, fc_125, fc_126, fc_127, fc_128, fc_129, fc_130, fc_131, fc_132, fc_133, fc_122, (by have q := Fw175; rw [hkk, own_ofsucc hist ((n, (0 : Int32), f2, f3, c21))] at q; exact q), (fc_114.other W175 (Ne.symm n_a1_tl)), (fc_115.other W175 (Ne.symm n_a1_th)), (fc_116.other W175 (Ne.symm n_a1_ts)), (fc_111.other W175 (Ne.symm n_a1_sl)), (fc_112.other W175 (Ne.symm n_a1_sh)), (fc_113.other W175 (Ne.symm n_a1_ss)), (fc_117.other W175 (Ne.symm n_a1_cS)), (fc_118.other W175 (Ne.symm n_a1_cD)), (fc_119.other W175 (Ne.symm n_a1_cL)), (fc_120.other W175 (Ne.symm n_a1_cH)), (V167.other W175 (Ne.symm n_a1_cC))⟩)⟩
theorem pn_101 : plainFor (⟨"com/example/reverie/reverie/ScalarQuantizer", "setRange", "(IFF)V"⟩ : MethodName) = true := by first | exact plainFor_of_name (by first | (simp [plainName, overriddenIn]; done) | decide +kernel) | decide +kernel | exact Jvm.Free.JP.mathPlain rfl (by decide +kernel)
theorem pd_10_01 : parseMethodDescriptor "(FF)F" = some ⟨[.float, .float], some .float⟩ := by decide +kernel
theorem ef_101 (m : MethodId) (a1 : Addr) (f2 : UInt32) (f3 : UInt32) : entryFrame m #[(.ref a1), (.int (1 : Int32)), (.float f2), (.float f3)] 5 = mkF m 0 #[.val (.ref a1), .val (.int (1 : Int32)), .val (.float f2), .val (.float f3), .unset] [] := by first | (simp [entryFrame, mkF, argsToLocals, Value.category]; done) | rfl
def Q101 (Z : State) (a1 : Addr) (f2 : UInt32) (f3 : UInt32) (tl : Addr) (th : Addr) (ts : Addr) (sl : Addr) (sh : Addr) (ss : Addr) (cS : Addr) (cD : Addr) (cL : Addr) (cH : Addr) (cC : Addr) (n : Int32) (l0 : UInt32) (l1 : UInt32) (u0 : UInt32) (u1 : UInt32) (s0 : UInt32) (s1 : UInt32) (hist : List own_E) (h0 : Heap) (n0 : Nat) (v : Option Value) (h : Heap) (L : List Loc) : Prop := v = none ∧ Fr n0 L ∧ Keep h0 h [a1, tl, th, ts, cS, cD, cL, cH, cC] ∧ own_Q Z h a1 tl th ts sl sh ss cS cD cL cH cC n l0 f2 u0 f3 s0 (own_scale f2 f3) (hist ++ [(n, (1 : Int32), f2, f3, own_scale f2 f3)])
set_option maxRecDepth 65536 in
set_option maxHeartbeats 40000000 in
theorem rm101 (l : Launch) (Z : State) (a0 : Array Value) (hw : ∀ d ∈ tables_1, d.before a0 Z = true) (ws : List Jvm.Cond) (a1 : Addr) (f2 : UInt32) (f3 : UInt32) (tl : Addr) (th : Addr) (ts : Addr) (sl : Addr) (sh : Addr) (ss : Addr) (cS : Addr) (cD : Addr) (cL : Addr) (cH : Addr) (cC : Addr) (n : Int32) (l0 : UInt32) (l1 : UInt32) (u0 : UInt32) (u1 : UInt32) (s0 : UInt32) (s1 : UInt32) (hist : List own_E) (h0 : Heap) (n0 : Nat) (Z0 : n0 ≤ h0.size) (hf2 : own_sh f2) (hf3 : own_sh f3) (QQ : own_Q Z h0 a1 tl th ts sl sh ss cS cD cL cH cC n l0 l1 u0 u1 s0 s1 hist) (hl : hist.length < 16) (ge : ∀ x ∈ [a1, tl, th, ts, sl, sh, ss, cS, cD, cL, cH, cC], n0 ≤ x) :
    MetFree l (⟨"com/example/reverie/reverie/ScalarQuantizer", "setRange", "(IFF)V"⟩ : MethodName) (head1 (Jvm.Cond.code (⟨"com/example/reverie/reverie/ScalarQuantizer", "setRange", "(IFF)V"⟩ : MethodName) prog_33_method_16_code 5 none :: ws) ({ frames := 1, cells := 0, slots := 0, locals := 15 } : Room)) (fun a U => a = #[(.ref a1), (.int (1 : Int32)), (.float f2), (.float f3)] ∧ Z.Warmed39 U.vm ∧ U.heap = h0) (fun _ _ _ _ _ => True) (fun _ U o U' => ∃ v L, o = .returned v ∧ Q101 Z a1 f2 f3 tl th ts sl sh ss cS cD cL cH cC n l0 l1 u0 u1 s0 s1 hist h0 n0 v U'.heap L ∧ FrameEnd U o U' L ({ frames := 1, cells := 0, slots := 0, locals := 15 } : Room).cells ({ frames := 1, cells := 0, slots := 0, locals := 15 } : Room).slots) := by
  refine MetFree.of_bodySF pn_101 hisR ?_
  intro p e s m args below meth c s₁ Bd hml0 hP hK
  obtain ⟨rfl, hZ, hh⟩ := hP
  have hx := Bd.exec
  have hby := Bd.bytes
  have hml : c.maxLocals = 5 := hml0
  have hown : s.vm.findClass "com/example/reverie/reverie/ScalarQuantizer" = some m.cls := findClass_of_methodNamed Bd.named
  have hnm := (name_of_methodNamed Bd.named Bd.method).1
  have X0 : Stand p l e ({ frames := 1, cells := 0, slots := 0, locals := 15 } : Room) s m #[(.ref a1), (.int (1 : Int32)), (.float f2), (.float f3)] below meth c s₁ [] 0 0 := Stand.of_body Bd
  have e0 : s₁.heap = h0 := by rw [← hh, Bd.state]; rfl
  have N0 := Fr.nil n0
  refine own_at (castTop (ef_101 m a1 f2 f3)) ?_
  obtain ⟨ktl, kth, kts, ksl, ksh, kss, kcS, kcD, kcL, kcH, kcC, g1, g2, g3, g4, g5, ND, ⟨G1, G2, G3, G4, G5⟩, E_q, F_dim, F_tl, F_th, F_ts, F_sl, F_sh, F_ss, F_cS, F_cD, F_cL, F_cH, F_cC, F_ec, F_cc, A_tl, A_th, A_ts, A_sl, A_sh, A_ss, A_cS, A_cD, A_cL, A_cH, A_cC⟩ := id QQ
  have n_a1_tl : a1 ≠ tl := E_q.neArv A_tl (own_w hw 7 rfl)
  have n_a1_th : a1 ≠ th := E_q.neArv A_th (own_w hw 7 rfl)
  have n_a1_ts : a1 ≠ ts := E_q.neArv A_ts (own_w hw 7 rfl)
  have n_a1_sl : a1 ≠ sl := E_q.neArv A_sl (own_w hw 7 rfl)
  have n_a1_sh : a1 ≠ sh := E_q.neArv A_sh (own_w hw 7 rfl)
  have n_a1_ss : a1 ≠ ss := E_q.neArv A_ss (own_w hw 7 rfl)
  have n_a1_cS : a1 ≠ cS := E_q.neArv A_cS (own_w hw 7 rfl)
  have n_a1_cD : a1 ≠ cD := E_q.neArv A_cD (own_w hw 7 rfl)
  have n_a1_cL : a1 ≠ cL := E_q.neArv A_cL (own_w hw 7 rfl)
  have n_a1_cH : a1 ≠ cH := E_q.neArv A_cH (own_w hw 7 rfl)
  have n_a1_cC : a1 ≠ cC := E_q.neArv A_cC (own_w hw 7 rfl)
  obtain ⟨kk, hkk⟩ : ∃ z : Int32, z = Int32.ofNat hist.length := ⟨_, rfl⟩
  rw [← hkk] at F_cc
  have g_a1 : n0 ≤ a1 := ge a1 (List.mem_of_getElem? (i := 0) rfl)
  have g_tl : n0 ≤ tl := ge tl (List.mem_of_getElem? (i := 1) rfl)
  have g_th : n0 ≤ th := ge th (List.mem_of_getElem? (i := 2) rfl)
  have g_ts : n0 ≤ ts := ge ts (List.mem_of_getElem? (i := 3) rfl)
  have g_sl : n0 ≤ sl := ge sl (List.mem_of_getElem? (i := 4) rfl)
  have g_sh : n0 ≤ sh := ge sh (List.mem_of_getElem? (i := 5) rfl)
  have g_ss : n0 ≤ ss := ge ss (List.mem_of_getElem? (i := 6) rfl)
  have g_cS : n0 ≤ cS := ge cS (List.mem_of_getElem? (i := 7) rfl)
  have g_cD : n0 ≤ cD := ge cD (List.mem_of_getElem? (i := 8) rfl)
  have g_cL : n0 ≤ cL := ge cL (List.mem_of_getElem? (i := 9) rfl)
  have g_cH : n0 ≤ cH := ge cH (List.mem_of_getElem? (i := 10) rfl)
  have g_cC : n0 ≤ cC := ge cC (List.mem_of_getElem? (i := 11) rfl)
  have K0 := Keep.refl h0 [a1, tl, th, ts, cS, cD, cL, cH, cC]
  have sg1 : ∀ t, own_S p e below s₁ (mkF m 1 (own_ARIFFU a1 (1 : Int32) f2 f3) [(.ref a1)]) t → own_S p e below s₁ (mkF m 0 (own_ARIFFU a1 (1 : Int32) f2 f3) []) t := by
    intro t k
    refine XS.aloadN X0.here hx rfl (hb hby d10_0) rfl rfl ?_
    exact k
  refine own_by sg1 ?_
  obtain ⟨T1, X1, e1, st1⟩ := getF X0 hx hZ hown (host := "") (Or.inl (own_w hw 49 rfl)) Via.refl e0 F_tl (g := (mkF m 1 (own_ARIFFU a1 (1 : Int32) f2 f3) [(.ref a1)])) rfl rfl (hb hby d10_1)
  refine own_by st1 ?_
  have sg6 : ∀ t, own_S p e below T1 (mkF m 6 (own_ARIFFU a1 (1 : Int32) f2 f3) [(.float f2), (.int (1 : Int32)), (.ref tl)]) t → own_S p e below T1 (mkF m 4 (own_ARIFFU a1 (1 : Int32) f2 f3) [(.ref tl)]) t := by
    intro t k
    refine XS.iloadN X1.here hx rfl (hb hby d10_4) rfl ?_
    show own_S p e below T1 (mkF m 5 (own_ARIFFU a1 (1 : Int32) f2 f3) [(.int (1 : Int32)), (.ref tl)]) _
    refine XS.floadN X1.here hx rfl (hb hby d10_5) rfl ?_
    exact k
  refine own_by sg6 ?_
  obtain ⟨cl6, Ar6, qa6, Sa6, Na6, Ha6, Ga6⟩ := id A_tl
  obtain ⟨T6, h6, X6, e6, W6, st6⟩ := stF X1 hx hZ e1 Ar6 (j := (1 : Int32)) (inb_of Sa6 ⟨by decide, by decide⟩) (g := (mkF m 6 (own_ARIFFU a1 (1 : Int32) f2 f3) [(.float f2), (.int (1 : Int32)), (.ref tl)])) rfl rfl (hb hby d10_6)
  have V6 : Arv Z h6 tl ktl .float (2 : Int32) [(.float l0), (.float f2)] (.float (0 : UInt32)) := by
    have q := Arv.set Ar6 qa6 Sa6 Na6 Ha6 Ga6 rfl W6 1 rfl (Nat.le_of_ble_eq_true rfl)
    exact q
  have K6 : Keep h0 h6 [a1, tl, th, ts, cS, cD, cL, cH, cC] := K0.wr W6 (Or.inl (List.mem_of_getElem? (i := 1) rfl))
  have Z6 : n0 ≤ h6.size := Nat.le_trans Z0 (Keep.of_wr W6).1
  have N6 := Fr.snoc X6 N0 g_tl
  refine own_by st6 ?_
  have sg8 : ∀ t, own_S p e below T6 (mkF m 8 (own_ARIFFU a1 (1 : Int32) f2 f3) [(.ref a1)]) t → own_S p e below T6 (mkF m 7 (own_ARIFFU a1 (1 : Int32) f2 f3) []) t := by
    intro t k
    refine XS.aloadN X6.here hx rfl (hb hby d10_7) rfl rfl ?_
    exact k
  refine own_by sg8 ?_
  obtain ⟨T8, X8, e8, st8⟩ := getF X6 hx hZ hown (host := "") (Or.inl (own_w hw 51 rfl)) Via.refl e6 (F_th.other W6 (Or.inl n_a1_tl)) (g := (mkF m 8 (own_ARIFFU a1 (1 : Int32) f2 f3) [(.ref a1)])) rfl rfl (hb hby d10_8)
  refine own_by st8 ?_
  have sg13 : ∀ t, own_S p e below T8 (mkF m 13 (own_ARIFFU a1 (1 : Int32) f2 f3) [(.float f3), (.int (1 : Int32)), (.ref th)]) t → own_S p e below T8 (mkF m 11 (own_ARIFFU a1 (1 : Int32) f2 f3) [(.ref th)]) t := by
    intro t k
    refine XS.iloadN X8.here hx rfl (hb hby d10_11) rfl ?_
    show own_S p e below T8 (mkF m 12 (own_ARIFFU a1 (1 : Int32) f2 f3) [(.int (1 : Int32)), (.ref th)]) _
    refine XS.floadN X8.here hx rfl (hb hby d10_12) rfl ?_
    exact k
  refine own_by sg13 ?_
  obtain ⟨cl13, Ar13, qa13, Sa13, Na13, Ha13, Ga13⟩ := id (A_th.other W6 (Ne.symm ND.1))
  obtain ⟨T13, h13, X13, e13, W13, st13⟩ := stF X8 hx hZ e8 Ar13 (j := (1 : Int32)) (inb_of Sa13 ⟨by decide, by decide⟩) (g := (mkF m 13 (own_ARIFFU a1 (1 : Int32) f2 f3) [(.float f3), (.int (1 : Int32)), (.ref th)])) rfl rfl (hb hby d10_13)
  have V13 : Arv Z h13 th kth .float (2 : Int32) [(.float u0), (.float f3)] (.float (0 : UInt32)) := by
    have q := Arv.set Ar13 qa13 Sa13 Na13 Ha13 Ga13 rfl W13 1 rfl (Nat.le_of_ble_eq_true rfl)
    exact q
  have fc := ((F_dim.other W6 (Or.inl n_a1_tl)).other W13 (Or.inl n_a1_th))
  have fc_2 := ((F_ec.other W6 (Or.inl n_a1_tl)).other W13 (Or.inl n_a1_th))
  have fc_3 := ((F_cc.other W6 (Or.inl n_a1_tl)).other W13 (Or.inl n_a1_th))
  have fc_4 := ((F_tl.other W6 (Or.inl n_a1_tl)).other W13 (Or.inl n_a1_th))
  have fc_5 := ((F_th.other W6 (Or.inl n_a1_tl)).other W13 (Or.inl n_a1_th))
  have fc_6 := ((F_ts.other W6 (Or.inl n_a1_tl)).other W13 (Or.inl n_a1_th))
  have fc_7 := ((F_sl.other W6 (Or.inl n_a1_tl)).other W13 (Or.inl n_a1_th))
  have fc_8 := ((F_sh.other W6 (Or.inl n_a1_tl)).other W13 (Or.inl n_a1_th))
  have fc_9 := ((F_ss.other W6 (Or.inl n_a1_tl)).other W13 (Or.inl n_a1_th))
  have fc_10 := ((F_cS.other W6 (Or.inl n_a1_tl)).other W13 (Or.inl n_a1_th))
  have fc_11 := ((F_cD.other W6 (Or.inl n_a1_tl)).other W13 (Or.inl n_a1_th))
  have fc_12 := ((F_cL.other W6 (Or.inl n_a1_tl)).other W13 (Or.inl n_a1_th))
  have fc_13 := ((F_cH.other W6 (Or.inl n_a1_tl)).other W13 (Or.inl n_a1_th))
  have fc_14 := ((F_cC.other W6 (Or.inl n_a1_tl)).other W13 (Or.inl n_a1_th))
  have fc_15 := ((A_ts.other W6 (Ne.symm ND.2.1)).other W13 (Ne.symm ND.2.2.2.2.2.2.2.2.2.2.1))
  have fc_16 := ((A_sl.other W6 (Ne.symm ND.2.2.1)).other W13 (Ne.symm ND.2.2.2.2.2.2.2.2.2.2.2.1))
  have fc_17 := ((A_sh.other W6 (Ne.symm ND.2.2.2.1)).other W13 (Ne.symm ND.2.2.2.2.2.2.2.2.2.2.2.2.1))
  have fc_18 := ((A_ss.other W6 (Ne.symm ND.2.2.2.2.1)).other W13 (Ne.symm ND.2.2.2.2.2.2.2.2.2.2.2.2.2.1))
  have fc_19 := ((A_cS.other W6 (Ne.symm ND.2.2.2.2.2.1)).other W13 (Ne.symm ND.2.2.2.2.2.2.2.2.2.2.2.2.2.2.1))
  have fc_20 := ((A_cD.other W6 (Ne.symm ND.2.2.2.2.2.2.1)).other W13 (Ne.symm ND.2.2.2.2.2.2.2.2.2.2.2.2.2.2.2.1))
  have fc_21 := ((A_cL.other W6 (Ne.symm ND.2.2.2.2.2.2.2.1)).other W13 (Ne.symm ND.2.2.2.2.2.2.2.2.2.2.2.2.2.2.2.2.1))
  have fc_22 := ((A_cH.other W6 (Ne.symm ND.2.2.2.2.2.2.2.2.1)).other W13 (Ne.symm ND.2.2.2.2.2.2.2.2.2.2.2.2.2.2.2.2.2.1))
  have fc_23 := ((A_cC.other W6 (Ne.symm ND.2.2.2.2.2.2.2.2.2.1)).other W13 (Ne.symm ND.2.2.2.2.2.2.2.2.2.2.2.2.2.2.2.2.2.2.1))
  have K13 : Keep h0 h13 [a1, tl, th, ts, cS, cD, cL, cH, cC] := K6.wr W13 (Or.inl (List.mem_of_getElem? (i := 2) rfl))
  have Z13 : n0 ≤ h13.size := Nat.le_trans Z6 (Keep.of_wr W13).1
  have N13 := Fr.snoc X13 N6 g_th
  refine own_by st13 ?_
  have sg15 : ∀ t, own_S p e below T13 (mkF m 15 (own_ARIFFU a1 (1 : Int32) f2 f3) [(.ref a1)]) t → own_S p e below T13 (mkF m 14 (own_ARIFFU a1 (1 : Int32) f2 f3) []) t := by
    intro t k
    refine XS.aloadN X13.here hx rfl (hb hby d10_14) rfl rfl ?_
    exact k
  refine own_by sg15 ?_
  obtain ⟨T15, X15, e15, st15⟩ := getF X13 hx hZ hown (host := "") (Or.inl (own_w hw 53 rfl)) Via.refl e13 fc_6 (g := (mkF m 15 (own_ARIFFU a1 (1 : Int32) f2 f3) [(.ref a1)])) rfl rfl (hb hby d10_15)
  refine own_by st15 ?_
  have sg21 : ∀ t, own_S p e below T15 (mkF m 21 (own_ARIFFU a1 (1 : Int32) f2 f3) [(.float f3), (.float f2), (.int (1 : Int32)), (.ref ts)]) t → own_S p e below T15 (mkF m 18 (own_ARIFFU a1 (1 : Int32) f2 f3) [(.ref ts)]) t := by
    intro t k
    refine XS.iloadN X15.here hx rfl (hb hby d10_18) rfl ?_
    show own_S p e below T15 (mkF m 19 (own_ARIFFU a1 (1 : Int32) f2 f3) [(.int (1 : Int32)), (.ref ts)]) _
    refine XS.floadN X15.here hx rfl (hb hby d10_19) rfl ?_
    show own_S p e below T15 (mkF m 20 (own_ARIFFU a1 (1 : Int32) f2 f3) [(.float f2), (.int (1 : Int32)), (.ref ts)]) _
    refine XS.floadN X15.here hx rfl (hb hby d10_20) rfl ?_
    exact k
  refine own_by sg21 ?_
  obtain ⟨_, _, ⟨T21, L21, k21, n21⟩, -, X21, ⟨Lc21, hQ21, l21, y21, z21⟩, st21⟩ := Jvm.LawKit.callS X15 hx (y := (⟨"com/example/reverie/reverie/ScalarQuantizer", "scale", "(FF)F"⟩ : MethodName)) hown (mvT hZ (own_w hw 77 rfl)) (mvT hZ (own_w hw 78 rfl)) (mvT hZ (own_w hw 8 rfl)) (mvT hZ (own_w hw 79 rfl)) (by decide) (backOf (W := 2) (rm11 l Z a0 hw [] f2 f3 h13 n0 Z13 hf2.fin hf3.fin) hZ (own_w hw 79 rfl) (own_w hw 8 rfl) (by decide) (by decide)) (g := (mkF m 21 (own_ARIFFU a1 (1 : Int32) f2 f3) [(.float f3), (.float f2), (.int (1 : Int32)), (.ref ts)])) rfl (by rw [hml]; rfl) (argsL := [(.float f2), (.float f3)]) (rest := [(.int (1 : Int32)), (.ref ts)]) (lenOf pd_10_01 rfl) rfl (by show 2 * 0 + _ ≤ _; exact Nat.le_of_eq rfl) (hb hby d10_21) (fun _ _ => ⟨rfl, e15, (by decide : 0 + 0 ≤ _), (by decide : 0 + 0 ≤ _)⟩)
  dsimp only [Pt.U, Pt.locs, Pt.cells, Pt.slots] at X21 l21 y21 z21 st21 hQ21
  subst l21 y21 z21
  obtain ⟨rfl, N21q, hq21⟩ := hQ21
  have N21 := Fr.app N13 N21q
  obtain ⟨c21, hc21⟩ : ∃ z : UInt32, z = (own_scale f2 f3) := ⟨_, rfl⟩
  rw [← hc21] at st21
  refine own_by st21 ?_
  obtain ⟨cl24, Ar24, qa24, Sa24, Na24, Ha24, Ga24⟩ := id fc_15
  obtain ⟨T24, h24, X24, e24, W24, st24⟩ := stF X21 hx hZ hq21 Ar24 (j := (1 : Int32)) (inb_of Sa24 ⟨by decide, by decide⟩) (g := (mkF m 24 (own_ARIFFU a1 (1 : Int32) f2 f3) [(.float c21), (.int (1 : Int32)), (.ref ts)])) rfl rfl (hb hby d10_24)
  have V24 : Arv Z h24 ts kts .float (2 : Int32) [(.float s0), (.float c21)] (.float (0 : UInt32)) := by
    have q := Arv.set Ar24 qa24 Sa24 Na24 Ha24 Ga24 rfl W24 1 rfl (Nat.le_of_ble_eq_true rfl)
    exact q
  have fc_24 := (fc_16.other W24 (Ne.symm ND.2.2.2.2.2.2.2.2.2.2.2.2.2.2.2.2.2.2.2.1))
  have fc_25 := (fc_17.other W24 (Ne.symm ND.2.2.2.2.2.2.2.2.2.2.2.2.2.2.2.2.2.2.2.2.1))
  have fc_26 := (fc_18.other W24 (Ne.symm ND.2.2.2.2.2.2.2.2.2.2.2.2.2.2.2.2.2.2.2.2.2.1))
  have fc_27 := (fc_19.other W24 (Ne.symm ND.2.2.2.2.2.2.2.2.2.2.2.2.2.2.2.2.2.2.2.2.2.2.1))
  have fc_28 := (fc_20.other W24 (Ne.symm ND.2.2.2.2.2.2.2.2.2.2.2.2.2.2.2.2.2.2.2.2.2.2.2.1))
  have fc_29 := (fc_21.other W24 (Ne.symm ND.2.2.2.2.2.2.2.2.2.2.2.2.2.2.2.2.2.2.2.2.2.2.2.2.1))
  have fc_30 := (fc_22.other W24 (Ne.symm ND.2.2.2.2.2.2.2.2.2.2.2.2.2.2.2.2.2.2.2.2.2.2.2.2.2.1))
  have fc_31 := (fc_23.other W24 (Ne.symm ND.2.2.2.2.2.2.2.2.2.2.2.2.2.2.2.2.2.2.2.2.2.2.2.2.2.2.1))
  have K24 : Keep h0 h24 [a1, tl, th, ts, cS, cD, cL, cH, cC] := K13.wr W24 (Or.inl (List.mem_of_getElem? (i := 3) rfl))
  have Z24 : n0 ≤ h24.size := Nat.le_trans Z13 (Keep.of_wr W24).1
  have N24 := Fr.snoc X24 N21 g_ts
  refine own_by st24 ?_
  have sg26 : ∀ t, own_S p e below T24 (mkF m 26 (own_ARIFFU a1 (1 : Int32) f2 f3) [(.ref a1)]) t → own_S p e below T24 (mkF m 25 (own_ARIFFU a1 (1 : Int32) f2 f3) []) t := by
    intro t k
    refine XS.aloadN X24.here hx rfl (hb hby d10_25) rfl rfl ?_
    exact k
  refine own_by sg26 ?_
  obtain ⟨T26, X26, e26, st26⟩ := getF X24 hx hZ hown (host := "") (Or.inl (own_w hw 81 rfl)) Via.refl e24 (fc_3.other W24 (Or.inl n_a1_ts)) (g := (mkF m 26 (own_ARIFFU a1 (1 : Int32) f2 f3) [(.ref a1)])) rfl rfl (hb hby d10_26)
  refine own_by st26 ?_
  have sg30 : ∀ t, own_S p e below T26 (mkF m 30 (own_ARIFFU a1 (1 : Int32) f2 f3) [(.ref a1), (.int kk)]) t → own_S p e below T26 (mkF m 29 (own_ARIFFU a1 (1 : Int32) f2 f3) [(.int kk)]) t := by
    intro t k
    refine XS.aloadN X26.here hx rfl (hb hby d10_29) rfl rfl ?_
    exact k
  refine own_by sg30 ?_
  obtain ⟨T30, X30, e30, st30⟩ := getF X26 hx hZ hown (host := "") (Or.inl (own_w hw 28 rfl)) Via.refl e26 (fc_10.other W24 (Or.inl n_a1_ts)) (g := (mkF m 30 (own_ARIFFU a1 (1 : Int32) f2 f3) [(.ref a1), (.int kk)])) rfl rfl (hb hby d10_30)
  refine own_by st30 ?_
  obtain ⟨cl33, Ar33, qa33, Sa33, Na33, Ha33, Ga33⟩ := id fc_27
  have sg111 : ∀ t, own_S p e below T30 (mkF m 111 (own_ARIFFU a1 (1 : Int32) f2 f3) [(.ref a1)]) t → own_S p e below T30 (mkF m 33 (own_ARIFFU a1 (1 : Int32) f2 f3) [(.ref cS), (.int kk)]) t := by
    intro t k
    refine X30.arraylength hx (by rw [e30]; exact Ar33.1) (State.isArrayOf_alike hZ.alike Ar33.2.1) (g := (mkF m 33 (own_ARIFFU a1 (1 : Int32) f2 f3) [(.ref cS), (.int kk)])) rfl rfl (hb hby d10_33) _ ?_
    rw [len_of Sa33 Na33]
    show own_S p e below T30 (mkF m 34 (own_ARIFFU a1 (1 : Int32) f2 f3) [(.int (16 : Int32)), (.int kk)]) _
    refine XS.icmpYes X30.here hx rfl (pc0 := 34) (pc' := 110) rfl (hb hby d10_34) rfl (feq (by rw [hkk]; exact own_ofne hl : ¬ (kk = (16 : Int32)))).2 (by decide) (by decide) ?_
    show own_S p e below T30 (mkF m 110 (own_ARIFFU a1 (1 : Int32) f2 f3) []) _
    refine XS.aloadN X30.here hx rfl (hb hby d10_110) rfl rfl ?_
    exact k
  refine own_by sg111 ?_
  obtain ⟨T111, X111, e111, st111⟩ := getF X30 hx hZ hown (host := "") (Or.inl (own_w hw 28 rfl)) Via.refl e30 (fc_10.other W24 (Or.inl n_a1_ts)) (g := (mkF m 111 (own_ARIFFU a1 (1 : Int32) f2 f3) [(.ref a1)])) rfl rfl (hb hby d10_111)
  refine own_by st111 ?_
  have sg115 : ∀ t, own_S p e below T111 (mkF m 115 (own_ARIFFU a1 (1 : Int32) f2 f3) [(.ref a1), (.ref cS)]) t → own_S p e below T111 (mkF m 114 (own_ARIFFU a1 (1 : Int32) f2 f3) [(.ref cS)]) t := by
    intro t k
    refine XS.aloadN X111.here hx rfl (hb hby d10_114) rfl rfl ?_
    exact k
  refine own_by sg115 ?_
  obtain ⟨T115, X115, e115, st115⟩ := getF X111 hx hZ hown (host := "") (Or.inl (own_w hw 81 rfl)) Via.refl e111 (fc_3.other W24 (Or.inl n_a1_ts)) (g := (mkF m 115 (own_ARIFFU a1 (1 : Int32) f2 f3) [(.ref a1), (.ref cS)])) rfl rfl (hb hby d10_115)
  refine own_by st115 ?_
  have sg119 : ∀ t, own_S p e below T115 (mkF m 119 (own_ARIFFU a1 (1 : Int32) f2 f3) [(.ref a1), (.int kk), (.ref cS)]) t → own_S p e below T115 (mkF m 118 (own_ARIFFU a1 (1 : Int32) f2 f3) [(.int kk), (.ref cS)]) t := by
    intro t k
    refine XS.aloadN X115.here hx rfl (hb hby d10_118) rfl rfl ?_
    exact k
  refine own_by sg119 ?_
  obtain ⟨T119, X119, e119, st119⟩ := getF X115 hx hZ hown (host := "") (Or.inl (own_w hw 83 rfl)) Via.refl e115 (fc_2.other W24 (Or.inl n_a1_ts)) (g := (mkF m 119 (own_ARIFFU a1 (1 : Int32) f2 f3) [(.ref a1), (.int kk), (.ref cS)])) rfl rfl (hb hby d10_119)
  refine own_by st119 ?_
  obtain ⟨cl122, Ar122, qa122, Sa122, Na122, Ha122, Ga122⟩ := id fc_27
  obtain ⟨T122, h122, X122, e122, W122, st122⟩ := stI X119 hx hZ e119 Ar122 (j := kk) (inb_of Sa122 (by rw [hkk]; exact own_of16 hl)) (g := (mkF m 122 (own_ARIFFU a1 (1 : Int32) f2 f3) [(.int n), (.int kk), (.ref cS)])) rfl rfl (hb hby d10_122)
  have V122 : Arv Z h122 cS kcS .int (16 : Int32) (((hist ++ [(n, (1 : Int32), f2, f3, c21)]).map (fun z : own_E => z.1) ++ g1.tail).map Value.int) (.int (0 : Int32)) := by
    have q := Arv.set Ar122 qa122 Sa122 Na122 Ha122 Ga122 rfl W122 hist.length (by rw [hkk]; exact own_ofto (by omega)) (by simp; omega)
    rw [show Value.int n = Value.int ((fun z : own_E => z.1) ((n, (1 : Int32), f2, f3, c21))) from rfl, own_setk _ hist g1 _ _ G1 hl] at q; exact q
  have fc_32 := ((fc.other W24 (Or.inl n_a1_ts)).other W122 (Or.inl n_a1_cS))
  have fc_33 := ((fc_2.other W24 (Or.inl n_a1_ts)).other W122 (Or.inl n_a1_cS))
  have fc_34 := ((fc_3.other W24 (Or.inl n_a1_ts)).other W122 (Or.inl n_a1_cS))
  have fc_35 := ((fc_4.other W24 (Or.inl n_a1_ts)).other W122 (Or.inl n_a1_cS))
  have fc_36 := ((fc_5.other W24 (Or.inl n_a1_ts)).other W122 (Or.inl n_a1_cS))
  have fc_37 := ((fc_6.other W24 (Or.inl n_a1_ts)).other W122 (Or.inl n_a1_cS))
  have fc_38 := ((fc_7.other W24 (Or.inl n_a1_ts)).other W122 (Or.inl n_a1_cS))
  have fc_39 := ((fc_8.other W24 (Or.inl n_a1_ts)).other W122 (Or.inl n_a1_cS))
  have fc_40 := ((fc_9.other W24 (Or.inl n_a1_ts)).other W122 (Or.inl n_a1_cS))
  have fc_41 := ((fc_10.other W24 (Or.inl n_a1_ts)).other W122 (Or.inl n_a1_cS))
  have fc_42 := ((fc_11.other W24 (Or.inl n_a1_ts)).other W122 (Or.inl n_a1_cS))
  have fc_43 := ((fc_12.other W24 (Or.inl n_a1_ts)).other W122 (Or.inl n_a1_cS))
  have fc_44 := ((fc_13.other W24 (Or.inl n_a1_ts)).other W122 (Or.inl n_a1_cS))
  have fc_45 := ((fc_14.other W24 (Or.inl n_a1_ts)).other W122 (Or.inl n_a1_cS))
  have fc_46 := (fc_24.other W122 ND.2.2.2.2.2.2.2.2.2.2.2.2.2.2.2.2.2.2.2.2.2.2.2.2.2.2.2.2.2.1)
  have fc_47 := (fc_25.other W122 ND.2.2.2.2.2.2.2.2.2.2.2.2.2.2.2.2.2.2.2.2.2.2.2.2.2.2.2.2.2.2.2.2.2.2.2.1)
  have fc_48 := (fc_26.other W122 ND.2.2.2.2.2.2.2.2.2.2.2.2.2.2.2.2.2.2.2.2.2.2.2.2.2.2.2.2.2.2.2.2.2.2.2.2.2.2.2.2.1)
  have fc_49 := (fc_28.other W122 (Ne.symm ND.2.2.2.2.2.2.2.2.2.2.2.2.2.2.2.2.2.2.2.2.2.2.2.2.2.2.2.2.2.2.2.2.2.2.2.2.2.2.2.2.2.2.2.2.2.1))
  have fc_50 := (fc_29.other W122 (Ne.symm ND.2.2.2.2.2.2.2.2.2.2.2.2.2.2.2.2.2.2.2.2.2.2.2.2.2.2.2.2.2.2.2.2.2.2.2.2.2.2.2.2.2.2.2.2.2.2.1))
  have fc_51 := (fc_30.other W122 (Ne.symm ND.2.2.2.2.2.2.2.2.2.2.2.2.2.2.2.2.2.2.2.2.2.2.2.2.2.2.2.2.2.2.2.2.2.2.2.2.2.2.2.2.2.2.2.2.2.2.2.1))
  have fc_52 := (fc_31.other W122 (Ne.symm ND.2.2.2.2.2.2.2.2.2.2.2.2.2.2.2.2.2.2.2.2.2.2.2.2.2.2.2.2.2.2.2.2.2.2.2.2.2.2.2.2.2.2.2.2.2.2.2.2.1))
  have fc_53 := (((V6.other W13 ND.1).other W24 ND.2.1).other W122 ND.2.2.2.2.2.1)
  have fc_54 := ((V13.other W24 ND.2.2.2.2.2.2.2.2.2.2.1).other W122 ND.2.2.2.2.2.2.2.2.2.2.2.2.2.2.1)
  have fc_55 := (V24.other W122 ND.2.2.2.2.2.2.2.2.2.2.2.2.2.2.2.2.2.2.2.2.2.2.1)
  have K122 : Keep h0 h122 [a1, tl, th, ts, cS, cD, cL, cH, cC] := K24.wr W122 (Or.inl (List.mem_of_getElem? (i := 4) rfl))
  have Z122 : n0 ≤ h122.size := Nat.le_trans Z24 (Keep.of_wr W122).1
  have N122 := Fr.snoc X122 N24 g_cS
  refine own_by st122 ?_
  have sg124 : ∀ t, own_S p e below T122 (mkF m 124 (own_ARIFFU a1 (1 : Int32) f2 f3) [(.ref a1)]) t → own_S p e below T122 (mkF m 123 (own_ARIFFU a1 (1 : Int32) f2 f3) []) t := by
    intro t k
    refine XS.aloadN X122.here hx rfl (hb hby d10_123) rfl rfl ?_
    exact k
  refine own_by sg124 ?_
  obtain ⟨T124, X124, e124, st124⟩ := getF X122 hx hZ hown (host := "") (Or.inl (own_w hw 30 rfl)) Via.refl e122 fc_42 (g := (mkF m 124 (own_ARIFFU a1 (1 : Int32) f2 f3) [(.ref a1)])) rfl rfl (hb hby d10_124)
  refine own_by st124 ?_
  have sg128 : ∀ t, own_S p e below T124 (mkF m 128 (own_ARIFFU a1 (1 : Int32) f2 f3) [(.ref a1), (.ref cD)]) t → own_S p e below T124 (mkF m 127 (own_ARIFFU a1 (1 : Int32) f2 f3) [(.ref cD)]) t := by
    intro t k
    refine XS.aloadN X124.here hx rfl (hb hby d10_127) rfl rfl ?_
    exact k
  refine own_by sg128 ?_
  obtain ⟨T128, X128, e128, st128⟩ := getF X124 hx hZ hown (host := "") (Or.inl (own_w hw 81 rfl)) Via.refl e124 fc_34 (g := (mkF m 128 (own_ARIFFU a1 (1 : Int32) f2 f3) [(.ref a1), (.ref cD)])) rfl rfl (hb hby d10_128)
  refine own_by st128 ?_
  have sg132 : ∀ t, own_S p e below T128 (mkF m 132 (own_ARIFFU a1 (1 : Int32) f2 f3) [(.int (1 : Int32)), (.int kk), (.ref cD)]) t → own_S p e below T128 (mkF m 131 (own_ARIFFU a1 (1 : Int32) f2 f3) [(.int kk), (.ref cD)]) t := by
    intro t k
    refine XS.iloadN X128.here hx rfl (hb hby d10_131) rfl ?_
    exact k
  refine own_by sg132 ?_
  obtain ⟨cl132, Ar132, qa132, Sa132, Na132, Ha132, Ga132⟩ := id fc_49
  obtain ⟨T132, h132, X132, e132, W132, st132⟩ := stI X128 hx hZ e128 Ar132 (j := kk) (inb_of Sa132 (by rw [hkk]; exact own_of16 hl)) (g := (mkF m 132 (own_ARIFFU a1 (1 : Int32) f2 f3) [(.int (1 : Int32)), (.int kk), (.ref cD)])) rfl rfl (hb hby d10_132)
  have V132 : Arv Z h132 cD kcD .int (16 : Int32) (((hist ++ [(n, (1 : Int32), f2, f3, c21)]).map (fun z : own_E => z.2.1) ++ g2.tail).map Value.int) (.int (0 : Int32)) := by
    have q := Arv.set Ar132 qa132 Sa132 Na132 Ha132 Ga132 rfl W132 hist.length (by rw [hkk]; exact own_ofto (by omega)) (by simp; omega)
    rw [show Value.int (1 : Int32) = Value.int ((fun z : own_E => z.2.1) ((n, (1 : Int32), f2, f3, c21))) from rfl, own_setk _ hist g2 _ _ G2 hl] at q; exact q
  have fc_56 := (fc_46.other W132 ND.2.2.2.2.2.2.2.2.2.2.2.2.2.2.2.2.2.2.2.2.2.2.2.2.2.2.2.2.2.2.1)
  have fc_57 := (fc_47.other W132 ND.2.2.2.2.2.2.2.2.2.2.2.2.2.2.2.2.2.2.2.2.2.2.2.2.2.2.2.2.2.2.2.2.2.2.2.2.1)
  have fc_58 := (fc_48.other W132 ND.2.2.2.2.2.2.2.2.2.2.2.2.2.2.2.2.2.2.2.2.2.2.2.2.2.2.2.2.2.2.2.2.2.2.2.2.2.2.2.2.2.1)
  have fc_59 := (fc_50.other W132 (Ne.symm ND.2.2.2.2.2.2.2.2.2.2.2.2.2.2.2.2.2.2.2.2.2.2.2.2.2.2.2.2.2.2.2.2.2.2.2.2.2.2.2.2.2.2.2.2.2.2.2.2.2.1))
  have fc_60 := (fc_51.other W132 (Ne.symm ND.2.2.2.2.2.2.2.2.2.2.2.2.2.2.2.2.2.2.2.2.2.2.2.2.2.2.2.2.2.2.2.2.2.2.2.2.2.2.2.2.2.2.2.2.2.2.2.2.2.2.1))
  have fc_61 := (fc_52.other W132 (Ne.symm ND.2.2.2.2.2.2.2.2.2.2.2.2.2.2.2.2.2.2.2.2.2.2.2.2.2.2.2.2.2.2.2.2.2.2.2.2.2.2.2.2.2.2.2.2.2.2.2.2.2.2.2.1))
  have fc_62 := (fc_55.other W132 ND.2.2.2.2.2.2.2.2.2.2.2.2.2.2.2.2.2.2.2.2.2.2.2.1)
  have fc_63 := (V122.other W132 ND.2.2.2.2.2.2.2.2.2.2.2.2.2.2.2.2.2.2.2.2.2.2.2.2.2.2.2.2.2.2.2.2.2.2.2.2.2.2.2.2.2.2.2.2.2.1)
  have K132 : Keep h0 h132 [a1, tl, th, ts, cS, cD, cL, cH, cC] := K122.wr W132 (Or.inl (List.mem_of_getElem? (i := 5) rfl))
  have Z132 : n0 ≤ h132.size := Nat.le_trans Z122 (Keep.of_wr W132).1
  have N132 := Fr.snoc X132 N122 g_cD
  refine own_by st132 ?_
  have sg134 : ∀ t, own_S p e below T132 (mkF m 134 (own_ARIFFU a1 (1 : Int32) f2 f3) [(.ref a1)]) t → own_S p e below T132 (mkF m 133 (own_ARIFFU a1 (1 : Int32) f2 f3) []) t := by
    intro t k
    refine XS.aloadN X132.here hx rfl (hb hby d10_133) rfl rfl ?_
    exact k
  refine own_by sg134 ?_
  obtain ⟨T134, X134, e134, st134⟩ := getF X132 hx hZ hown (host := "") (Or.inl (own_w hw 32 rfl)) Via.refl e132 (fc_43.other W132 (Or.inl n_a1_cD)) (g := (mkF m 134 (own_ARIFFU a1 (1 : Int32) f2 f3) [(.ref a1)])) rfl rfl (hb hby d10_134)
  refine own_by st134 ?_
  have sg138 : ∀ t, own_S p e below T134 (mkF m 138 (own_ARIFFU a1 (1 : Int32) f2 f3) [(.ref a1), (.ref cL)]) t → own_S p e below T134 (mkF m 137 (own_ARIFFU a1 (1 : Int32) f2 f3) [(.ref cL)]) t := by
    intro t k
    refine XS.aloadN X134.here hx rfl (hb hby d10_137) rfl rfl ?_
    exact k
  refine own_by sg138 ?_
  obtain ⟨T138, X138, e138, st138⟩ := getF X134 hx hZ hown (host := "") (Or.inl (own_w hw 81 rfl)) Via.refl e134 (fc_34.other W132 (Or.inl n_a1_cD)) (g := (mkF m 138 (own_ARIFFU a1 (1 : Int32) f2 f3) [(.ref a1), (.ref cL)])) rfl rfl (hb hby d10_138)
  refine own_by st138 ?_
  have sg142 : ∀ t, own_S p e below T138 (mkF m 142 (own_ARIFFU a1 (1 : Int32) f2 f3) [(.float f2), (.int kk), (.ref cL)]) t → own_S p e below T138 (mkF m 141 (own_ARIFFU a1 (1 : Int32) f2 f3) [(.int kk), (.ref cL)]) t := by
    intro t k
    refine XS.floadN X138.here hx rfl (hb hby d10_141) rfl ?_
    exact k
  refine own_by sg142 ?_
  obtain ⟨cl142, Ar142, qa142, Sa142, Na142, Ha142, Ga142⟩ := id fc_59
  obtain ⟨T142, h142, X142, e142, W142, st142⟩ := stF X138 hx hZ e138 Ar142 (j := kk) (inb_of Sa142 (by rw [hkk]; exact own_of16 hl)) (g := (mkF m 142 (own_ARIFFU a1 (1 : Int32) f2 f3) [(.float f2), (.int kk), (.ref cL)])) rfl rfl (hb hby d10_142)
  have V142 : Arv Z h142 cL kcL .float (16 : Int32) (((hist ++ [(n, (1 : Int32), f2, f3, c21)]).map (fun z : own_E => z.2.2.1) ++ g3.tail).map Value.float) (.float (0 : UInt32)) := by
    have q := Arv.set Ar142 qa142 Sa142 Na142 Ha142 Ga142 rfl W142 hist.length (by rw [hkk]; exact own_ofto (by omega)) (by simp; omega)
    rw [show Value.float f2 = Value.float ((fun z : own_E => z.2.2.1) ((n, (1 : Int32), f2, f3, c21))) from rfl, own_setk _ hist g3 _ _ G3 hl] at q; exact q
  have fc_64 := ((fc_32.other W132 (Or.inl n_a1_cD)).other W142 (Or.inl n_a1_cL))
  have fc_65 := ((fc_33.other W132 (Or.inl n_a1_cD)).other W142 (Or.inl n_a1_cL))
  have fc_66 := ((fc_34.other W132 (Or.inl n_a1_cD)).other W142 (Or.inl n_a1_cL))
  have fc_67 := ((fc_35.other W132 (Or.inl n_a1_cD)).other W142 (Or.inl n_a1_cL))
  have fc_68 := ((fc_36.other W132 (Or.inl n_a1_cD)).other W142 (Or.inl n_a1_cL))
  have fc_69 := ((fc_37.other W132 (Or.inl n_a1_cD)).other W142 (Or.inl n_a1_cL))
  have fc_70 := ((fc_38.other W132 (Or.inl n_a1_cD)).other W142 (Or.inl n_a1_cL))
  have fc_71 := ((fc_39.other W132 (Or.inl n_a1_cD)).other W142 (Or.inl n_a1_cL))
  have fc_72 := ((fc_40.other W132 (Or.inl n_a1_cD)).other W142 (Or.inl n_a1_cL))
  have fc_73 := ((fc_41.other W132 (Or.inl n_a1_cD)).other W142 (Or.inl n_a1_cL))
  have fc_74 := ((fc_42.other W132 (Or.inl n_a1_cD)).other W142 (Or.inl n_a1_cL))
  have fc_75 := ((fc_43.other W132 (Or.inl n_a1_cD)).other W142 (Or.inl n_a1_cL))
  have fc_76 := ((fc_44.other W132 (Or.inl n_a1_cD)).other W142 (Or.inl n_a1_cL))
  have fc_77 := ((fc_45.other W132 (Or.inl n_a1_cD)).other W142 (Or.inl n_a1_cL))
  have fc_78 := (fc_56.other W142 ND.2.2.2.2.2.2.2.2.2.2.2.2.2.2.2.2.2.2.2.2.2.2.2.2.2.2.2.2.2.2.2.1)
  have fc_79 := (fc_57.other W142 ND.2.2.2.2.2.2.2.2.2.2.2.2.2.2.2.2.2.2.2.2.2.2.2.2.2.2.2.2.2.2.2.2.2.2.2.2.2.1)
  have fc_80 := (fc_58.other W142 ND.2.2.2.2.2.2.2.2.2.2.2.2.2.2.2.2.2.2.2.2.2.2.2.2.2.2.2.2.2.2.2.2.2.2.2.2.2.2.2.2.2.2.1)
  have fc_81 := (fc_60.other W142 (Ne.symm ND.2.2.2.2.2.2.2.2.2.2.2.2.2.2.2.2.2.2.2.2.2.2.2.2.2.2.2.2.2.2.2.2.2.2.2.2.2.2.2.2.2.2.2.2.2.2.2.2.2.2.2.2.1))
  have fc_82 := (fc_61.other W142 (Ne.symm ND.2.2.2.2.2.2.2.2.2.2.2.2.2.2.2.2.2.2.2.2.2.2.2.2.2.2.2.2.2.2.2.2.2.2.2.2.2.2.2.2.2.2.2.2.2.2.2.2.2.2.2.2.2.1))
  have fc_83 := ((fc_53.other W132 ND.2.2.2.2.2.2.1).other W142 ND.2.2.2.2.2.2.2.1)
  have fc_84 := ((fc_54.other W132 ND.2.2.2.2.2.2.2.2.2.2.2.2.2.2.2.1).other W142 ND.2.2.2.2.2.2.2.2.2.2.2.2.2.2.2.2.1)
  have fc_85 := (fc_62.other W142 ND.2.2.2.2.2.2.2.2.2.2.2.2.2.2.2.2.2.2.2.2.2.2.2.2.1)
  have fc_86 := (fc_63.other W142 ND.2.2.2.2.2.2.2.2.2.2.2.2.2.2.2.2.2.2.2.2.2.2.2.2.2.2.2.2.2.2.2.2.2.2.2.2.2.2.2.2.2.2.2.2.2.2.1)
  have fc_87 := (V132.other W142 ND.2.2.2.2.2.2.2.2.2.2.2.2.2.2.2.2.2.2.2.2.2.2.2.2.2.2.2.2.2.2.2.2.2.2.2.2.2.2.2.2.2.2.2.2.2.2.2.2.2.1)
  have K142 : Keep h0 h142 [a1, tl, th, ts, cS, cD, cL, cH, cC] := K132.wr W142 (Or.inl (List.mem_of_getElem? (i := 6) rfl))
  have Z142 : n0 ≤ h142.size := Nat.le_trans Z132 (Keep.of_wr W142).1
  have N142 := Fr.snoc X142 N132 g_cL
  refine own_by st142 ?_
  have sg144 : ∀ t, own_S p e below T142 (mkF m 144 (own_ARIFFU a1 (1 : Int32) f2 f3) [(.ref a1)]) t → own_S p e below T142 (mkF m 143 (own_ARIFFU a1 (1 : Int32) f2 f3) []) t := by
    intro t k
    refine XS.aloadN X142.here hx rfl (hb hby d10_143) rfl rfl ?_
    exact k
  refine own_by sg144 ?_
  obtain ⟨T144, X144, e144, st144⟩ := getF X142 hx hZ hown (host := "") (Or.inl (own_w hw 34 rfl)) Via.refl e142 fc_76 (g := (mkF m 144 (own_ARIFFU a1 (1 : Int32) f2 f3) [(.ref a1)])) rfl rfl (hb hby d10_144)
  refine own_by st144 ?_
  have sg148 : ∀ t, own_S p e below T144 (mkF m 148 (own_ARIFFU a1 (1 : Int32) f2 f3) [(.ref a1), (.ref cH)]) t → own_S p e below T144 (mkF m 147 (own_ARIFFU a1 (1 : Int32) f2 f3) [(.ref cH)]) t := by
    intro t k
    refine XS.aloadN X144.here hx rfl (hb hby d10_147) rfl rfl ?_
    exact k
  refine own_by sg148 ?_
  obtain ⟨T148, X148, e148, st148⟩ := getF X144 hx hZ hown (host := "") (Or.inl (own_w hw 81 rfl)) Via.refl e144 fc_66 (g := (mkF m 148 (own_ARIFFU a1 (1 : Int32) f2 f3) [(.ref a1), (.ref cH)])) rfl rfl (hb hby d10_148)
  refine own_by st148 ?_
  have sg152 : ∀ t, own_S p e below T148 (mkF m 152 (own_ARIFFU a1 (1 : Int32) f2 f3) [(.float f3), (.int kk), (.ref cH)]) t → own_S p e below T148 (mkF m 151 (own_ARIFFU a1 (1 : Int32) f2 f3) [(.int kk), (.ref cH)]) t := by
    intro t k
    refine XS.floadN X148.here hx rfl (hb hby d10_151) rfl ?_
    exact k
  refine own_by sg152 ?_
  obtain ⟨cl152, Ar152, qa152, Sa152, Na152, Ha152, Ga152⟩ := id fc_81
  obtain ⟨T152, h152, X152, e152, W152, st152⟩ := stF X148 hx hZ e148 Ar152 (j := kk) (inb_of Sa152 (by rw [hkk]; exact own_of16 hl)) (g := (mkF m 152 (own_ARIFFU a1 (1 : Int32) f2 f3) [(.float f3), (.int kk), (.ref cH)])) rfl rfl (hb hby d10_152)
  have V152 : Arv Z h152 cH kcH .float (16 : Int32) (((hist ++ [(n, (1 : Int32), f2, f3, c21)]).map (fun z : own_E => z.2.2.2.1) ++ g4.tail).map Value.float) (.float (0 : UInt32)) := by
    have q := Arv.set Ar152 qa152 Sa152 Na152 Ha152 Ga152 rfl W152 hist.length (by rw [hkk]; exact own_ofto (by omega)) (by simp; omega)
    rw [show Value.float f3 = Value.float ((fun z : own_E => z.2.2.2.1) ((n, (1 : Int32), f2, f3, c21))) from rfl, own_setk _ hist g4 _ _ G4 hl] at q; exact q
  have fc_88 := (((((((E_q.wr W6).wr W13).wr W24).wr W122).wr W132).wr W142).wr W152)
  have fc_89 := (fc_78.other W152 ND.2.2.2.2.2.2.2.2.2.2.2.2.2.2.2.2.2.2.2.2.2.2.2.2.2.2.2.2.2.2.2.2.1)
  have fc_90 := (fc_79.other W152 ND.2.2.2.2.2.2.2.2.2.2.2.2.2.2.2.2.2.2.2.2.2.2.2.2.2.2.2.2.2.2.2.2.2.2.2.2.2.2.1)
  have fc_91 := (fc_80.other W152 ND.2.2.2.2.2.2.2.2.2.2.2.2.2.2.2.2.2.2.2.2.2.2.2.2.2.2.2.2.2.2.2.2.2.2.2.2.2.2.2.2.2.2.2.1)
  have fc_92 := (fc_82.other W152 (Ne.symm ND.2.2.2.2.2.2.2.2.2.2.2.2.2.2.2.2.2.2.2.2.2.2.2.2.2.2.2.2.2.2.2.2.2.2.2.2.2.2.2.2.2.2.2.2.2.2.2.2.2.2.2.2.2.2))
  have fc_93 := (fc_85.other W152 ND.2.2.2.2.2.2.2.2.2.2.2.2.2.2.2.2.2.2.2.2.2.2.2.2.2.1)
  have fc_94 := (fc_86.other W152 ND.2.2.2.2.2.2.2.2.2.2.2.2.2.2.2.2.2.2.2.2.2.2.2.2.2.2.2.2.2.2.2.2.2.2.2.2.2.2.2.2.2.2.2.2.2.2.2.1)
  have fc_95 := (fc_87.other W152 ND.2.2.2.2.2.2.2.2.2.2.2.2.2.2.2.2.2.2.2.2.2.2.2.2.2.2.2.2.2.2.2.2.2.2.2.2.2.2.2.2.2.2.2.2.2.2.2.2.2.2.1)
  have fc_96 := (V142.other W152 ND.2.2.2.2.2.2.2.2.2.2.2.2.2.2.2.2.2.2.2.2.2.2.2.2.2.2.2.2.2.2.2.2.2.2.2.2.2.2.2.2.2.2.2.2.2.2.2.2.2.2.2.2.1)
  have K152 : Keep h0 h152 [a1, tl, th, ts, cS, cD, cL, cH, cC] := K142.wr W152 (Or.inl (List.mem_of_getElem? (i := 7) rfl))
  have Z152 : n0 ≤ h152.size := Nat.le_trans Z142 (Keep.of_wr W152).1
  have N152 := Fr.snoc X152 N142 g_cH
  refine own_by st152 ?_
  have sg154 : ∀ t, own_S p e below T152 (mkF m 154 (own_ARIFFU a1 (1 : Int32) f2 f3) [(.ref a1)]) t → own_S p e below T152 (mkF m 153 (own_ARIFFU a1 (1 : Int32) f2 f3) []) t := by
    intro t k
    refine XS.aloadN X152.here hx rfl (hb hby d10_153) rfl rfl ?_
    exact k
  refine own_by sg154 ?_
  obtain ⟨T154, X154, e154, st154⟩ := getF X152 hx hZ hown (host := "") (Or.inl (own_w hw 36 rfl)) Via.refl e152 (fc_77.other W152 (Or.inl n_a1_cH)) (g := (mkF m 154 (own_ARIFFU a1 (1 : Int32) f2 f3) [(.ref a1)])) rfl rfl (hb hby d10_154)
  refine own_by st154 ?_
  have sg158 : ∀ t, own_S p e below T154 (mkF m 158 (own_ARIFFU a1 (1 : Int32) f2 f3) [(.ref a1), (.ref cC)]) t → own_S p e below T154 (mkF m 157 (own_ARIFFU a1 (1 : Int32) f2 f3) [(.ref cC)]) t := by
    intro t k
    refine XS.aloadN X154.here hx rfl (hb hby d10_157) rfl rfl ?_
    exact k
  refine own_by sg158 ?_
  obtain ⟨T158, X158, e158, st158⟩ := getF X154 hx hZ hown (host := "") (Or.inl (own_w hw 81 rfl)) Via.refl e154 (fc_66.other W152 (Or.inl n_a1_cH)) (g := (mkF m 158 (own_ARIFFU a1 (1 : Int32) f2 f3) [(.ref a1), (.ref cC)])) rfl rfl (hb hby d10_158)
  refine own_by st158 ?_
  have sg162 : ∀ t, own_S p e below T158 (mkF m 162 (own_ARIFFU a1 (1 : Int32) f2 f3) [(.ref a1), (.int kk), (.ref cC)]) t → own_S p e below T158 (mkF m 161 (own_ARIFFU a1 (1 : Int32) f2 f3) [(.int kk), (.ref cC)]) t := by
    intro t k
    refine XS.aloadN X158.here hx rfl (hb hby d10_161) rfl rfl ?_
    exact k
  refine own_by sg162 ?_
  obtain ⟨T162, X162, e162, st162⟩ := getF X158 hx hZ hown (host := "") (Or.inl (own_w hw 53 rfl)) Via.refl e158 (fc_69.other W152 (Or.inl n_a1_cH)) (g := (mkF m 162 (own_ARIFFU a1 (1 : Int32) f2 f3) [(.ref a1), (.int kk), (.ref cC)])) rfl rfl (hb hby d10_162)
  refine own_by st162 ?_
  have sg166 : ∀ t, own_S p e below T162 (mkF m 166 (own_ARIFFU a1 (1 : Int32) f2 f3) [(.int (1 : Int32)), (.ref ts), (.int kk), (.ref cC)]) t → own_S p e below T162 (mkF m 165 (own_ARIFFU a1 (1 : Int32) f2 f3) [(.ref ts), (.int kk), (.ref cC)]) t := by
    intro t k
    refine XS.iloadN X162.here hx rfl (hb hby d10_165) rfl ?_
    exact k
  refine own_by sg166 ?_
  obtain ⟨cl166, Ar166, qa166, Sa166, Na166, Ha166, Ga166⟩ := id fc_93
  have sg167 : ∀ t, own_S p e below T162 (mkF m 167 (own_ARIFFU a1 (1 : Int32) f2 f3) [(.float c21), (.int kk), (.ref cC)]) t → own_S p e below T162 (mkF m 166 (own_ARIFFU a1 (1 : Int32) f2 f3) [(.int (1 : Int32)), (.ref ts), (.int kk), (.ref cC)]) t := by
    intro t k
    refine X162.faload hx (j := (1 : Int32)) (v := (.float c21)) (by rw [e162]; exact Ar166.1) (State.isArrayOf_alike hZ.alike Ar166.2.1) Ar166.2.2 (inb_of Sa166 ⟨by decide, by decide⟩) (Ha166 1 (by rw [Sa166]; decide)) (g := (mkF m 166 (own_ARIFFU a1 (1 : Int32) f2 f3) [(.int (1 : Int32)), (.ref ts), (.int kk), (.ref cC)])) rfl rfl (hb hby d10_166) _ ?_
    exact k
  refine own_by sg167 ?_
  obtain ⟨cl167, Ar167, qa167, Sa167, Na167, Ha167, Ga167⟩ := id fc_92
  obtain ⟨T167, h167, X167, e167, W167, st167⟩ := stF X162 hx hZ e162 Ar167 (j := kk) (inb_of Sa167 (by rw [hkk]; exact own_of16 hl)) (g := (mkF m 167 (own_ARIFFU a1 (1 : Int32) f2 f3) [(.float c21), (.int kk), (.ref cC)])) rfl rfl (hb hby d10_167)
  have V167 : Arv Z h167 cC kcC .float (16 : Int32) (((hist ++ [(n, (1 : Int32), f2, f3, c21)]).map (fun z : own_E => z.2.2.2.2) ++ g5.tail).map Value.float) (.float (0 : UInt32)) := by
    have q := Arv.set Ar167 qa167 Sa167 Na167 Ha167 Ga167 rfl W167 hist.length (by rw [hkk]; exact own_ofto (by omega)) (by simp; omega)
    rw [show Value.float c21 = Value.float ((fun z : own_E => z.2.2.2.2) ((n, (1 : Int32), f2, f3, c21))) from rfl, own_setk _ hist g5 _ _ G5 hl] at q; exact q
  have fc_97 := ((fc_64.other W152 (Or.inl n_a1_cH)).other W167 (Or.inl n_a1_cC))
  have fc_98 := ((fc_65.other W152 (Or.inl n_a1_cH)).other W167 (Or.inl n_a1_cC))
  have fc_99 := ((fc_66.other W152 (Or.inl n_a1_cH)).other W167 (Or.inl n_a1_cC))
  have fc_100 := ((fc_67.other W152 (Or.inl n_a1_cH)).other W167 (Or.inl n_a1_cC))
  have fc_101 := ((fc_68.other W152 (Or.inl n_a1_cH)).other W167 (Or.inl n_a1_cC))
  have fc_102 := ((fc_69.other W152 (Or.inl n_a1_cH)).other W167 (Or.inl n_a1_cC))
  have fc_103 := ((fc_70.other W152 (Or.inl n_a1_cH)).other W167 (Or.inl n_a1_cC))
  have fc_104 := ((fc_71.other W152 (Or.inl n_a1_cH)).other W167 (Or.inl n_a1_cC))
  have fc_105 := ((fc_72.other W152 (Or.inl n_a1_cH)).other W167 (Or.inl n_a1_cC))
  have fc_106 := ((fc_73.other W152 (Or.inl n_a1_cH)).other W167 (Or.inl n_a1_cC))
  have fc_107 := ((fc_74.other W152 (Or.inl n_a1_cH)).other W167 (Or.inl n_a1_cC))
  have fc_108 := ((fc_75.other W152 (Or.inl n_a1_cH)).other W167 (Or.inl n_a1_cC))
  have fc_109 := ((fc_76.other W152 (Or.inl n_a1_cH)).other W167 (Or.inl n_a1_cC))
  have fc_110 := ((fc_77.other W152 (Or.inl n_a1_cH)).other W167 (Or.inl n_a1_cC))
  have fc_111 := (fc_89.other W167 ND.2.2.2.2.2.2.2.2.2.2.2.2.2.2.2.2.2.2.2.2.2.2.2.2.2.2.2.2.2.2.2.2.2.1)
  have fc_112 := (fc_90.other W167 ND.2.2.2.2.2.2.2.2.2.2.2.2.2.2.2.2.2.2.2.2.2.2.2.2.2.2.2.2.2.2.2.2.2.2.2.2.2.2.2.1)
  have fc_113 := (fc_91.other W167 ND.2.2.2.2.2.2.2.2.2.2.2.2.2.2.2.2.2.2.2.2.2.2.2.2.2.2.2.2.2.2.2.2.2.2.2.2.2.2.2.2.2.2.2.2.1)
  have fc_114 := ((fc_83.other W152 ND.2.2.2.2.2.2.2.2.1).other W167 ND.2.2.2.2.2.2.2.2.2.1)
  have fc_115 := ((fc_84.other W152 ND.2.2.2.2.2.2.2.2.2.2.2.2.2.2.2.2.2.1).other W167 ND.2.2.2.2.2.2.2.2.2.2.2.2.2.2.2.2.2.2.1)
  have fc_116 := (fc_93.other W167 ND.2.2.2.2.2.2.2.2.2.2.2.2.2.2.2.2.2.2.2.2.2.2.2.2.2.2.1)
  have fc_117 := (fc_94.other W167 ND.2.2.2.2.2.2.2.2.2.2.2.2.2.2.2.2.2.2.2.2.2.2.2.2.2.2.2.2.2.2.2.2.2.2.2.2.2.2.2.2.2.2.2.2.2.2.2.2.1)
  have fc_118 := (fc_95.other W167 ND.2.2.2.2.2.2.2.2.2.2.2.2.2.2.2.2.2.2.2.2.2.2.2.2.2.2.2.2.2.2.2.2.2.2.2.2.2.2.2.2.2.2.2.2.2.2.2.2.2.2.2.1)
  have fc_119 := (fc_96.other W167 ND.2.2.2.2.2.2.2.2.2.2.2.2.2.2.2.2.2.2.2.2.2.2.2.2.2.2.2.2.2.2.2.2.2.2.2.2.2.2.2.2.2.2.2.2.2.2.2.2.2.2.2.2.2.1)
  have fc_120 := (V152.other W167 ND.2.2.2.2.2.2.2.2.2.2.2.2.2.2.2.2.2.2.2.2.2.2.2.2.2.2.2.2.2.2.2.2.2.2.2.2.2.2.2.2.2.2.2.2.2.2.2.2.2.2.2.2.2.2)
  have K167 : Keep h0 h167 [a1, tl, th, ts, cS, cD, cL, cH, cC] := K152.wr W167 (Or.inl (List.mem_of_getElem? (i := 8) rfl))
  have Z167 : n0 ≤ h167.size := Nat.le_trans Z152 (Keep.of_wr W167).1
  have N167 := Fr.snoc X167 N152 g_cC
  refine own_by st167 ?_
  have sg170 : ∀ t, own_S p e below T167 (mkF m 170 (own_ARIFFU a1 (1 : Int32) f2 f3) [(.ref a1), (.ref a1)]) t → own_S p e below T167 (mkF m 168 (own_ARIFFU a1 (1 : Int32) f2 f3) []) t := by
    intro t k
    refine XS.aloadN X167.here hx rfl (hb hby d10_168) rfl rfl ?_
    show own_S p e below T167 (mkF m 169 (own_ARIFFU a1 (1 : Int32) f2 f3) [(.ref a1)]) _
    refine XS.dup X167.here hx rfl (hb hby d10_169) rfl rfl ?_
    exact k
  refine own_by sg170 ?_
  obtain ⟨T170, X170, e170, st170⟩ := getF X167 hx hZ hown (host := "") (Or.inl (own_w hw 81 rfl)) Via.refl e167 fc_99 (g := (mkF m 170 (own_ARIFFU a1 (1 : Int32) f2 f3) [(.ref a1), (.ref a1)])) rfl rfl (hb hby d10_170)
  refine own_by st170 ?_
  have sg175 : ∀ t, own_S p e below T170 (mkF m 175 (own_ARIFFU a1 (1 : Int32) f2 f3) [(.int (kk + (1 : Int32))), (.ref a1)]) t → own_S p e below T170 (mkF m 173 (own_ARIFFU a1 (1 : Int32) f2 f3) [(.int kk), (.ref a1)]) t := by
    intro t k
    refine XS.iconst X170.here hx rfl (hb hby d10_173) ?_
    show own_S p e below T170 (mkF m 174 (own_ARIFFU a1 (1 : Int32) f2 f3) [(.int (1 : Int32)), (.int kk), (.ref a1)]) _
    refine XS.iadd X170.here hx rfl (hb hby d10_174) rfl ?_
    exact k
  refine own_by sg175 ?_
  obtain ⟨T175, h175, X175, e175, W175, st175⟩ := putF X170 hx hZ hown (host := "") (Or.inl (own_w hw 81 rfl)) Via.refl e170 fc_99 (fc_88.wr W167) (Or.inl (own_w hw 82 rfl)) (own_w hw 7 rfl) (ty := .int) (by decide) rfl rfl (g := (mkF m 175 (own_ARIFFU a1 (1 : Int32) f2 f3) [(.int (kk + (1 : Int32))), (.ref a1)])) rfl rfl (hb hby d10_175)
  have Fw175 := fc_99.same W175
  have fc_121 := (fc_97.other W175 (Or.inr (slot_ne (Or.inr (own_w hw 39 rfl)) (Or.inl (own_w hw 82 rfl)) (by decide) (t := .int) (t' := .int) (by decide) (by decide))))
  have fc_122 := (fc_98.other W175 (Or.inr (slot_ne (Or.inl (own_w hw 84 rfl)) (Or.inl (own_w hw 82 rfl)) (by decide) (t := .int) (t' := .int) (by decide) (by decide))))
  have fc_123 := (fc_100.other W175 (Or.inr (slot_ne (Or.inr (own_w hw 50 rfl)) (Or.inl (own_w hw 82 rfl)) (by decide) (t := (.array .float)) (t' := .int) (by decide) (by decide))))
  have fc_124 := (fc_101.other W175 (Or.inr (slot_ne (Or.inr (own_w hw 52 rfl)) (Or.inl (own_w hw 82 rfl)) (by decide) (t := (.array .float)) (t' := .int) (by decide) (by decide))))
  have fc_125 := (fc_102.other W175 (Or.inr (slot_ne (Or.inr (own_w hw 54 rfl)) (Or.inl (own_w hw 82 rfl)) (by decide) (t := (.array .float)) (t' := .int) (by decide) (by decide))))
  have fc_126 := (fc_103.other W175 (Or.inr (slot_ne (Or.inr (own_w hw 56 rfl)) (Or.inl (own_w hw 82 rfl)) (by decide) (t := (.array .float)) (t' := .int) (by decide) (by decide))))
  have fc_127 := (fc_104.other W175 (Or.inr (slot_ne (Or.inr (own_w hw 58 rfl)) (Or.inl (own_w hw 82 rfl)) (by decide) (t := (.array .float)) (t' := .int) (by decide) (by decide))))
  have fc_128 := (fc_105.other W175 (Or.inr (slot_ne (Or.inr (own_w hw 60 rfl)) (Or.inl (own_w hw 82 rfl)) (by decide) (t := (.array .float)) (t' := .int) (by decide) (by decide))))
  have fc_129 := (fc_106.other W175 (Or.inr (slot_ne (Or.inl (own_w hw 29 rfl)) (Or.inl (own_w hw 82 rfl)) (by decide) (t := (.array .int)) (t' := .int) (by decide) (by decide))))
  have fc_130 := (fc_107.other W175 (Or.inr (slot_ne (Or.inl (own_w hw 31 rfl)) (Or.inl (own_w hw 82 rfl)) (by decide) (t := (.array .int)) (t' := .int) (by decide) (by decide))))
  have fc_131 := (fc_108.other W175 (Or.inr (slot_ne (Or.inl (own_w hw 33 rfl)) (Or.inl (own_w hw 82 rfl)) (by decide) (t := (.array .float)) (t' := .int) (by decide) (by decide))))
  have fc_132 := (fc_109.other W175 (Or.inr (slot_ne (Or.inl (own_w hw 35 rfl)) (Or.inl (own_w hw 82 rfl)) (by decide) (t := (.array .float)) (t' := .int) (by decide) (by decide))))
  have fc_133 := (fc_110.other W175 (Or.inr (slot_ne (Or.inl (own_w hw 37 rfl)) (Or.inl (own_w hw 82 rfl)) (by decide) (t := (.array .float)) (t' := .int) (by decide) (by decide))))
  have K175 : Keep h0 h175 [a1, tl, th, ts, cS, cD, cL, cH, cC] := K167.wr W175 (Or.inl (List.mem_of_getElem? (i := 0) rfl))
  have Z175 : n0 ≤ h175.size := Nat.le_trans Z167 (Keep.of_wr W175).1
  have N175 := Fr.snoc X175 N167 g_a1
  refine own_by st175 ?_
  obtain ⟨fs, hr, hrun, hended, hW, hsame⟩ := X175.leave (v := none) (fun _ => rfl)
  refine ⟨_, _, ?_, hrun, hended, _, _, rfl, ?_, ⟨_, rfl⟩, hW, hsame.mono (by decide) (by decide)⟩
  · exact X175.returnOut hx Bd.returns (hb hby d10_178) hr
  · show Q101 Z a1 f2 f3 tl th ts sl sh ss cS cD cL cH cC n l0 l1 u0 u1 s0 s1 hist h0 n0 _ T175.heap _
    rw [e175]
    exact ⟨rfl, N175, K175, (by rw [← hc21]; exact ⟨_, _, _, _, _, _, _, _, _, _, _, _, _, _, _, _, ND, ⟨own_tl hist _ g1 G1 hl, own_tl hist _ g2 G2 hl, own_tl hist _ g3 G3 hl, own_tl hist _ g4 G4 hl, own_tl hist _ g5 G5 hl⟩, ((fc_88.wr W167).wr W175), fc_121, fc_123, fc_124, fc_125, fc_126, fc_127, fc_128, fc_129, fc_130, fc_131, fc_132, fc_133, fc_122, (by have q := Fw175; rw [hkk, own_ofsucc hist ((n, (1 : Int32), f2, f3, c21))] at q; exact q), (fc_114.other W175 (Ne.symm n_a1_tl)), (fc_115.other W175 (Ne.symm n_a1_th)), (fc_116.other W175 (Ne.symm n_a1_ts)), (fc_111.other W175 (Ne.symm n_a1_sl)), (fc_112.other W175 (Ne.symm n_a1_sh)), (fc_113.other W175 (Ne.symm n_a1_ss)), (fc_117.other W175 (Ne.symm n_a1_cS)), (fc_118.other W175 (Ne.symm n_a1_cD)), (fc_119.other W175 (Ne.symm n_a1_cL)), (fc_120.other W175 (Ne.symm n_a1_cH)), (V167.other W175 (Ne.symm n_a1_cC))⟩)⟩
theorem d7_0 : decode prog_33_method_5_code 0 = .ok (.iconst 0, 1) := by decide +kernel
theorem d7_1 : decode prog_33_method_5_code 1 = .ok (.istore 4, 2) := by decide +kernel
theorem d7_3 : decode prog_33_method_5_code 3 = .ok (.iload 4, 2) := by decide +kernel
theorem d7_5 : decode prog_33_method_5_code 5 = .ok (.aload_n 0, 1) := by decide +kernel
theorem d7_6 : decode prog_33_method_5_code 6 = .ok (.getfield 37, 3) := by decide +kernel
theorem d7_9 : decode prog_33_method_5_code 9 = .ok (.if_icmp .ge 97, 3) := by decide +kernel
theorem d7_12 : decode prog_33_method_5_code 12 = .ok (.aload_n 1, 1) := by decide +kernel
theorem d7_13 : decode prog_33_method_5_code 13 = .ok (.iload 4, 2) := by decide +kernel
theorem d7_15 : decode prog_33_method_5_code 15 = .ok (.faload, 1) := by decide +kernel
theorem d7_16 : decode prog_33_method_5_code 16 = .ok (.fstore 5, 2) := by decide +kernel
theorem d7_18 : decode prog_33_method_5_code 18 = .ok (.fload 5, 2) := by decide +kernel
theorem d7_20 : decode prog_33_method_5_code 20 = .ok (.aload_n 0, 1) := by decide +kernel
theorem d7_21 : decode prog_33_method_5_code 21 = .ok (.getfield 46, 3) := by decide +kernel
theorem d7_24 : decode prog_33_method_5_code 24 = .ok (.iload 4, 2) := by decide +kernel
theorem d7_26 : decode prog_33_method_5_code 26 = .ok (.faload, 1) := by decide +kernel
theorem d7_27 : decode prog_33_method_5_code 27 = .ok (.fcmp .g, 1) := by decide +kernel
theorem d7_28 : decode prog_33_method_5_code 28 = .ok (.ifCond .lt 16, 3) := by decide +kernel
theorem d7_31 : decode prog_33_method_5_code 31 = .ok (.fload 5, 2) := by decide +kernel
theorem d7_33 : decode prog_33_method_5_code 33 = .ok (.aload_n 0, 1) := by decide +kernel
theorem d7_34 : decode prog_33_method_5_code 34 = .ok (.getfield 49, 3) := by decide +kernel
theorem d7_37 : decode prog_33_method_5_code 37 = .ok (.iload 4, 2) := by decide +kernel
theorem d7_39 : decode prog_33_method_5_code 39 = .ok (.faload, 1) := by decide +kernel
theorem d7_40 : decode prog_33_method_5_code 40 = .ok (.fcmp .l, 1) := by decide +kernel
theorem d7_41 : decode prog_33_method_5_code 41 = .ok (.ifCond .le 33, 3) := by decide +kernel
theorem d7_44 : decode prog_33_method_5_code 44 = .ok (.aload_n 0, 1) := by decide +kernel
theorem d7_45 : decode prog_33_method_5_code 45 = .ok (.iload 4, 2) := by decide +kernel
theorem d7_47 : decode prog_33_method_5_code 47 = .ok (.aload_n 0, 1) := by decide +kernel
theorem d7_48 : decode prog_33_method_5_code 48 = .ok (.getfield 46, 3) := by decide +kernel
theorem d7_51 : decode prog_33_method_5_code 51 = .ok (.iload 4, 2) := by decide +kernel
theorem d7_53 : decode prog_33_method_5_code 53 = .ok (.faload, 1) := by decide +kernel
theorem d7_54 : decode prog_33_method_5_code 54 = .ok (.fload 5, 2) := by decide +kernel
theorem d7_56 : decode prog_33_method_5_code 56 = .ok (.invokestatic 86, 3) := by decide +kernel
theorem d7_59 : decode prog_33_method_5_code 59 = .ok (.aload_n 0, 1) := by decide +kernel
theorem d7_60 : decode prog_33_method_5_code 60 = .ok (.getfield 49, 3) := by decide +kernel
theorem d7_63 : decode prog_33_method_5_code 63 = .ok (.iload 4, 2) := by decide +kernel
theorem d7_65 : decode prog_33_method_5_code 65 = .ok (.faload, 1) := by decide +kernel
theorem d7_66 : decode prog_33_method_5_code 66 = .ok (.fload 5, 2) := by decide +kernel
theorem d7_68 : decode prog_33_method_5_code 68 = .ok (.invokestatic 92, 3) := by decide +kernel
theorem d7_71 : decode prog_33_method_5_code 71 = .ok (.invokevirtual 95, 3) := by decide +kernel
theorem d7_74 : decode prog_33_method_5_code 74 = .ok (.aload_n 2, 1) := by decide +kernel
theorem d7_75 : decode prog_33_method_5_code 75 = .ok (.iload_n 3, 1) := by decide +kernel
theorem d7_76 : decode prog_33_method_5_code 76 = .ok (.iload 4, 2) := by decide +kernel
theorem d7_78 : decode prog_33_method_5_code 78 = .ok (.iadd, 1) := by decide +kernel
theorem d7_79 : decode prog_33_method_5_code 79 = .ok (.fload 5, 2) := by decide +kernel
theorem d7_81 : decode prog_33_method_5_code 81 = .ok (.aload_n 0, 1) := by decide +kernel
theorem d7_82 : decode prog_33_method_5_code 82 = .ok (.getfield 46, 3) := by decide +kernel
theorem d7_85 : decode prog_33_method_5_code 85 = .ok (.iload 4, 2) := by decide +kernel
theorem d7_87 : decode prog_33_method_5_code 87 = .ok (.faload, 1) := by decide +kernel
theorem d7_88 : decode prog_33_method_5_code 88 = .ok (.aload_n 0, 1) := by decide +kernel
theorem d7_89 : decode prog_33_method_5_code 89 = .ok (.getfield 52, 3) := by decide +kernel
theorem d7_92 : decode prog_33_method_5_code 92 = .ok (.iload 4, 2) := by decide +kernel
theorem d7_94 : decode prog_33_method_5_code 94 = .ok (.faload, 1) := by decide +kernel
theorem d7_95 : decode prog_33_method_5_code 95 = .ok (.invokestatic 99, 3) := by decide +kernel
theorem d7_98 : decode prog_33_method_5_code 98 = .ok (.i2b, 1) := by decide +kernel
theorem d7_99 : decode prog_33_method_5_code 99 = .ok (.bastore, 1) := by decide +kernel
theorem d7_100 : decode prog_33_method_5_code 100 = .ok (.iinc 4 1, 3) := by decide +kernel
theorem d7_103 : decode prog_33_method_5_code 103 = .ok (.goto (-100), 3) := by decide +kernel
theorem d7_106 : decode prog_33_method_5_code 106 = .ok (.aload_n 0, 1) := by decide +kernel
theorem d7_107 : decode prog_33_method_5_code 107 = .ok (.dup, 1) := by decide +kernel
theorem d7_108 : decode prog_33_method_5_code 108 = .ok (.getfield 103, 3) := by decide +kernel
theorem d7_111 : decode prog_33_method_5_code 111 = .ok (.iconst 1, 1) := by decide +kernel
theorem d7_112 : decode prog_33_method_5_code 112 = .ok (.iadd, 1) := by decide +kernel
theorem d7_113 : decode prog_33_method_5_code 113 = .ok (.putfield 103, 3) := by decide +kernel
theorem d7_116 : decode prog_33_method_5_code 116 = .ok (.return_, 1) := by decide +kernel
theorem pn_7 : plainFor (⟨"com/example/reverie/reverie/ScalarQuantizer", "encode", "([F[BI)V"⟩ : MethodName) = true := by first | exact plainFor_of_name (by first | (simp [plainName, overriddenIn]; done) | decide +kernel) | decide +kernel | exact Jvm.Free.JP.mathPlain rfl (by decide +kernel)
theorem pd_7_0 : parseMethodDescriptor "(FF)F" = some ⟨[.float, .float], some .float⟩ := by decide +kernel
theorem pd_7_1 : parseMethodDescriptor "(IFF)V" = some ⟨[.int, .float, .float], none⟩ := by decide +kernel
theorem pd_7_2 : parseMethodDescriptor "(FFF)I" = some ⟨[.float, .float, .float], some .int⟩ := by decide +kernel
theorem ef_7 (m : MethodId) (a1 : Addr) (a2 : Addr) (a3 : Addr) : entryFrame m #[(.ref a1), (.ref a2), (.ref a3), (.int (0 : Int32))] 6 = mkF m 0 #[.val (.ref a1), .val (.ref a2), .val (.ref a3), .val (.int (0 : Int32)), .unset, .unset] [] := by first | (simp [entryFrame, mkF, argsToLocals, Value.category]; done) | rfl
def Q7 (Z : State) (a1 : Addr) (a2 : Addr) (a3 : Addr) (tl : Addr) (th : Addr) (ts : Addr) (sl : Addr) (sh : Addr) (ss : Addr) (cS : Addr) (cD : Addr) (cL : Addr) (cH : Addr) (cC : Addr) (n : Int32) (l0 : UInt32) (l1 : UInt32) (u0 : UInt32) (u1 : UInt32) (s0 : UInt32) (s1 : UInt32) (hist : List own_E) (kv : ClassId) (kc : ClassId) (v0 : UInt32) (v1 : UInt32) (o0 : Int32) (o1 : Int32) (h0 : Heap) (n0 : Nat) (v : Option Value) (h : Heap) (L : List Loc) : Prop := v = none ∧ Fr n0 L ∧ Keep h0 h [a1, tl, th, ts, cS, cD, cL, cH, cC, a3] ∧ own_Q Z h a1 tl th ts sl sh ss cS cD cL cH cC (n + (1 : Int32)) (own_l v0 l0 u0) (own_l v1 l1 u1) (own_u v0 l0 u0) (own_u v1 l1 u1) (own_s v0 l0 u0 s0) (own_s v1 l1 u1 s1) (own_h n (1 : Int32) v1 l1 u1 (own_h n (0 : Int32) v0 l0 u0 hist)) ∧ Arv Z h a3 kc .byte (2 : Int32) [(.int ((own_code v0 (own_l v0 l0 u0) (own_s v0 l0 u0 s0)).toInt8.toInt32)), (.int ((own_code v1 (own_l v1 l1 u1) (own_s v1 l1 u1 s1)).toInt8.toInt32))] (.int (0 : Int32))
set_option maxRecDepth 65536 in
set_option maxHeartbeats 40000000 in
theorem rm7 (l : Launch) (Z : State) (a0 : Array Value) (hw : ∀ d ∈ tables_1, d.before a0 Z = true) (ws : List Jvm.Cond) (a1 : Addr) (a2 : Addr) (a3 : Addr) (tl : Addr) (th : Addr) (ts : Addr) (sl : Addr) (sh : Addr) (ss : Addr) (cS : Addr) (cD : Addr) (cL : Addr) (cH : Addr) (cC : Addr) (n : Int32) (l0 : UInt32) (l1 : UInt32) (u0 : UInt32) (u1 : UInt32) (s0 : UInt32) (s1 : UInt32) (hist : List own_E) (kv : ClassId) (kc : ClassId) (v0 : UInt32) (v1 : UInt32) (o0 : Int32) (o1 : Int32) (h0 : Heap) (n0 : Nat) (Z0 : n0 ≤ h0.size) (QQ : own_Q Z h0 a1 tl th ts sl sh ss cS cD cL cH cC n l0 l1 u0 u1 s0 s1 hist) (hl : hist.length < 14) (ge : ∀ x ∈ [a1, tl, th, ts, sl, sh, ss, cS, cD, cL, cH, cC], n0 ≤ x) (AV : Arv Z h0 a2 kv .float (2 : Int32) [(.float v0), (.float v1)] (.float (0 : UInt32))) (AC : Arv Z h0 a3 kc .byte (2 : Int32) [(.int o0), (.int o1)] (.int (0 : Int32))) (g_a3 : n0 ≤ a3) (ap2 : a2 ∉ [a1, tl, th, ts, sl, sh, ss, cS, cD, cL, cH, cC]) (ap3 : a3 ∉ [a1, tl, th, ts, sl, sh, ss, cS, cD, cL, cH, cC]) (n23 : a2 ≠ a3) (hv0 : own_sh v0) (hv1 : own_sh v1) (ok0 : own_ok l0 u0 s0) (ok1 : own_ok l1 u1 s1) :
    MetFree l (⟨"com/example/reverie/reverie/ScalarQuantizer", "encode", "([F[BI)V"⟩ : MethodName) (head1 (Jvm.Cond.code (⟨"com/example/reverie/reverie/ScalarQuantizer", "encode", "([F[BI)V"⟩ : MethodName) prog_33_method_5_code 6 none :: ws) ({ frames := 3, cells := 0, slots := 0, locals := 70 } : Room)) (fun a U => a = #[(.ref a1), (.ref a2), (.ref a3), (.int (0 : Int32))] ∧ Z.Warmed39 U.vm ∧ U.heap = h0) (fun _ _ _ _ _ => True) (fun _ U o U' => ∃ v L, o = .returned v ∧ Q7 Z a1 a2 a3 tl th ts sl sh ss cS cD cL cH cC n l0 l1 u0 u1 s0 s1 hist kv kc v0 v1 o0 o1 h0 n0 v U'.heap L ∧ FrameEnd U o U' L ({ frames := 3, cells := 0, slots := 0, locals := 70 } : Room).cells ({ frames := 3, cells := 0, slots := 0, locals := 70 } : Room).slots) := by
  refine MetFree.of_bodySF pn_7 hisR ?_
  intro p e s m args below meth c s₁ Bd hml0 hP hK
  obtain ⟨rfl, hZ, hh⟩ := hP
  have hx := Bd.exec
  have hby := Bd.bytes
  have hml : c.maxLocals = 6 := hml0
  have hown : s.vm.findClass "com/example/reverie/reverie/ScalarQuantizer" = some m.cls := findClass_of_methodNamed Bd.named
  have hnm := (name_of_methodNamed Bd.named Bd.method).1
  have X0 : Stand p l e ({ frames := 3, cells := 0, slots := 0, locals := 70 } : Room) s m #[(.ref a1), (.ref a2), (.ref a3), (.int (0 : Int32))] below meth c s₁ [] 0 0 := Stand.of_body Bd
  have e0 : s₁.heap = h0 := by rw [← hh, Bd.state]; rfl
  have N0 := Fr.nil n0
  refine own_at (castTop (ef_7 m a1 a2 a3)) ?_
  obtain ⟨ktl, kth, kts, ksl, ksh, kss, kcS, kcD, kcL, kcH, kcC, g1, g2, g3, g4, g5, ND, ⟨G1, G2, G3, G4, G5⟩, E_q, F_dim, F_tl, F_th, F_ts, F_sl, F_sh, F_ss, F_cS, F_cD, F_cL, F_cH, F_cC, F_ec, F_cc, A_tl, A_th, A_ts, A_sl, A_sh, A_ss, A_cS, A_cD, A_cL, A_cH, A_cC⟩ := id QQ
  have n_a1_tl : a1 ≠ tl := E_q.neArv A_tl (own_w hw 7 rfl)
  have n_a1_th : a1 ≠ th := E_q.neArv A_th (own_w hw 7 rfl)
  have n_a1_ts : a1 ≠ ts := E_q.neArv A_ts (own_w hw 7 rfl)
  have n_a1_sl : a1 ≠ sl := E_q.neArv A_sl (own_w hw 7 rfl)
  have n_a1_sh : a1 ≠ sh := E_q.neArv A_sh (own_w hw 7 rfl)
  have n_a1_ss : a1 ≠ ss := E_q.neArv A_ss (own_w hw 7 rfl)
  have n_a1_cS : a1 ≠ cS := E_q.neArv A_cS (own_w hw 7 rfl)
  have n_a1_cD : a1 ≠ cD := E_q.neArv A_cD (own_w hw 7 rfl)
  have n_a1_cL : a1 ≠ cL := E_q.neArv A_cL (own_w hw 7 rfl)
  have n_a1_cH : a1 ≠ cH := E_q.neArv A_cH (own_w hw 7 rfl)
  have n_a1_cC : a1 ≠ cC := E_q.neArv A_cC (own_w hw 7 rfl)
  obtain ⟨kk, hkk⟩ : ∃ z : Int32, z = Int32.ofNat hist.length := ⟨_, rfl⟩
  rw [← hkk] at F_cc
  have g_a1 : n0 ≤ a1 := ge a1 (List.mem_of_getElem? (i := 0) rfl)
  have g_tl : n0 ≤ tl := ge tl (List.mem_of_getElem? (i := 1) rfl)
  have g_th : n0 ≤ th := ge th (List.mem_of_getElem? (i := 2) rfl)
  have g_ts : n0 ≤ ts := ge ts (List.mem_of_getElem? (i := 3) rfl)
  have g_sl : n0 ≤ sl := ge sl (List.mem_of_getElem? (i := 4) rfl)
  have g_sh : n0 ≤ sh := ge sh (List.mem_of_getElem? (i := 5) rfl)
  have g_ss : n0 ≤ ss := ge ss (List.mem_of_getElem? (i := 6) rfl)
  have g_cS : n0 ≤ cS := ge cS (List.mem_of_getElem? (i := 7) rfl)
  have g_cD : n0 ≤ cD := ge cD (List.mem_of_getElem? (i := 8) rfl)
  have g_cL : n0 ≤ cL := ge cL (List.mem_of_getElem? (i := 9) rfl)
  have g_cH : n0 ≤ cH := ge cH (List.mem_of_getElem? (i := 10) rfl)
  have g_cC : n0 ≤ cC := ge cC (List.mem_of_getElem? (i := 11) rfl)
  have n_a2_a1 : a2 ≠ a1 := fun q => ap2 (q ▸ List.mem_of_getElem? (i := 0) rfl)
  have n_a2_tl : a2 ≠ tl := fun q => ap2 (q ▸ List.mem_of_getElem? (i := 1) rfl)
  have n_a2_th : a2 ≠ th := fun q => ap2 (q ▸ List.mem_of_getElem? (i := 2) rfl)
  have n_a2_ts : a2 ≠ ts := fun q => ap2 (q ▸ List.mem_of_getElem? (i := 3) rfl)
  have n_a2_sl : a2 ≠ sl := fun q => ap2 (q ▸ List.mem_of_getElem? (i := 4) rfl)
  have n_a2_sh : a2 ≠ sh := fun q => ap2 (q ▸ List.mem_of_getElem? (i := 5) rfl)
  have n_a2_ss : a2 ≠ ss := fun q => ap2 (q ▸ List.mem_of_getElem? (i := 6) rfl)
  have n_a2_cS : a2 ≠ cS := fun q => ap2 (q ▸ List.mem_of_getElem? (i := 7) rfl)
  have n_a2_cD : a2 ≠ cD := fun q => ap2 (q ▸ List.mem_of_getElem? (i := 8) rfl)
  have n_a2_cL : a2 ≠ cL := fun q => ap2 (q ▸ List.mem_of_getElem? (i := 9) rfl)
  have n_a2_cH : a2 ≠ cH := fun q => ap2 (q ▸ List.mem_of_getElem? (i := 10) rfl)
  have n_a2_cC : a2 ≠ cC := fun q => ap2 (q ▸ List.mem_of_getElem? (i := 11) rfl)
  have n_a3_a1 : a3 ≠ a1 := fun q => ap3 (q ▸ List.mem_of_getElem? (i := 0) rfl)
  have n_a3_tl : a3 ≠ tl := fun q => ap3 (q ▸ List.mem_of_getElem? (i := 1) rfl)
  have n_a3_th : a3 ≠ th := fun q => ap3 (q ▸ List.mem_of_getElem? (i := 2) rfl)
  have n_a3_ts : a3 ≠ ts := fun q => ap3 (q ▸ List.mem_of_getElem? (i := 3) rfl)
  have n_a3_sl : a3 ≠ sl := fun q => ap3 (q ▸ List.mem_of_getElem? (i := 4) rfl)
  have n_a3_sh : a3 ≠ sh := fun q => ap3 (q ▸ List.mem_of_getElem? (i := 5) rfl)
  have n_a3_ss : a3 ≠ ss := fun q => ap3 (q ▸ List.mem_of_getElem? (i := 6) rfl)
  have n_a3_cS : a3 ≠ cS := fun q => ap3 (q ▸ List.mem_of_getElem? (i := 7) rfl)
  have n_a3_cD : a3 ≠ cD := fun q => ap3 (q ▸ List.mem_of_getElem? (i := 8) rfl)
  have n_a3_cL : a3 ≠ cL := fun q => ap3 (q ▸ List.mem_of_getElem? (i := 9) rfl)
  have n_a3_cH : a3 ≠ cH := fun q => ap3 (q ▸ List.mem_of_getElem? (i := 10) rfl)
  have n_a3_cC : a3 ≠ cC := fun q => ap3 (q ▸ List.mem_of_getElem? (i := 11) rfl)
  have K0 := Keep.refl h0 [a1, tl, th, ts, cS, cD, cL, cH, cC, a3]
  have sg3 : ∀ t, own_S p e below s₁ (mkF m 3 (own_ARRRIIU a1 a2 a3 (0 : Int32) (0 : Int32)) []) t → own_S p e below s₁ (mkF m 0 (own_ARRRIUU a1 a2 a3 (0 : Int32)) []) t := by
    intro t k
    refine XS.iconst X0.here hx rfl (hb hby d7_0) ?_
    show own_S p e below s₁ (mkF m 1 (own_ARRRIUU a1 a2 a3 (0 : Int32)) [(.int (0 : Int32))]) _
    refine XS.istore X0.here hx rfl (hb hby d7_1) rfl (l' := (own_ARRRIIU a1 a2 a3 (0 : Int32) (0 : Int32))) rfl ?_
    exact k
  refine own_by sg3 ?_
  obtain ⟨TE0, LE0, HE0, XE0, NE0, eE0, KE0, QE0, AE0, stE0⟩ : ∃ (T' : State) (L' : List Loc) (H' : Heap), Stand p l e ({ frames := 3, cells := 0, slots := 0, locals := 70 } : Room) s m #[(.ref a1), (.ref a2), (.ref a3), (.int (0 : Int32))] below meth c T' L' 0 0 ∧ Fr n0 L' ∧ T'.heap = H' ∧ Keep h0 H' [a1, tl, th, ts, cS, cD, cL, cH, cC, a3] ∧ own_Q Z H' a1 tl th ts sl sh ss cS cD cL cH cC n (own_l v0 l0 u0) l1 (own_u v0 l0 u0) u1 (own_s v0 l0 u0 s0) s1 (own_h n (0 : Int32) v0 l0 u0 hist) ∧ Arv Z H' a3 kc .byte (2 : Int32) [(.int ((own_code v0 (own_l v0 l0 u0) (own_s v0 l0 u0 s0)).toInt8.toInt32)), (.int o1)] (.int (0 : Int32)) ∧ ∀ t, own_S p e below T' (mkF m 3 (own_ARRRIIF a1 a2 a3 (0 : Int32) (1 : Int32) v0) []) t → own_S p e below s₁ (mkF m 3 (own_ARRRIIU a1 a2 a3 (0 : Int32) (0 : Int32)) []) t := by
    have sg6 : ∀ t, own_S p e below s₁ (mkF m 6 (own_ARRRIIU a1 a2 a3 (0 : Int32) (0 : Int32)) [(.ref a1), (.int (0 : Int32))]) t → own_S p e below s₁ (mkF m 3 (own_ARRRIIU a1 a2 a3 (0 : Int32) (0 : Int32)) []) t := by
      intro t k
      refine XS.iload X0.here hx rfl (hb hby d7_3) rfl ?_
      show own_S p e below s₁ (mkF m 5 (own_ARRRIIU a1 a2 a3 (0 : Int32) (0 : Int32)) [(.int (0 : Int32))]) _
      refine XS.aloadN X0.here hx rfl (hb hby d7_5) rfl rfl ?_
      exact k
    obtain ⟨T6, X6, e6, st6⟩ := getF X0 hx hZ hown (host := "") (Or.inl (own_w hw 38 rfl)) Via.refl e0 F_dim (g := (mkF m 6 (own_ARRRIIU a1 a2 a3 (0 : Int32) (0 : Int32)) [(.ref a1), (.int (0 : Int32))])) rfl rfl (hb hby d7_6)
    have sg15 : ∀ t, own_S p e below T6 (mkF m 15 (own_ARRRIIU a1 a2 a3 (0 : Int32) (0 : Int32)) [(.int (0 : Int32)), (.ref a2)]) t → own_S p e below T6 (mkF m 9 (own_ARRRIIU a1 a2 a3 (0 : Int32) (0 : Int32)) [(.int (2 : Int32)), (.int (0 : Int32))]) t := by
      intro t k
      refine XS.icmpNo X6.here hx rfl (hb hby d7_9) rfl (tlt (by decide : (0 : Int32) < (2 : Int32))).2.1 ?_
      show own_S p e below T6 (mkF m 12 (own_ARRRIIU a1 a2 a3 (0 : Int32) (0 : Int32)) []) _
      refine XS.aloadN X6.here hx rfl (hb hby d7_12) rfl rfl ?_
      show own_S p e below T6 (mkF m 13 (own_ARRRIIU a1 a2 a3 (0 : Int32) (0 : Int32)) [(.ref a2)]) _
      refine XS.iload X6.here hx rfl (hb hby d7_13) rfl ?_
      exact k
    obtain ⟨cl15, Ar15, qa15, Sa15, Na15, Ha15, Ga15⟩ := id AV
    have sg18 : ∀ t, own_S p e below T6 (mkF m 18 (own_ARRRIIF a1 a2 a3 (0 : Int32) (0 : Int32) v0) []) t → own_S p e below T6 (mkF m 15 (own_ARRRIIU a1 a2 a3 (0 : Int32) (0 : Int32)) [(.int (0 : Int32)), (.ref a2)]) t := by
      intro t k
      refine X6.faload hx (j := (0 : Int32)) (v := (.float v0)) (by rw [e6]; exact Ar15.1) (State.isArrayOf_alike hZ.alike Ar15.2.1) Ar15.2.2 (inb_of Sa15 ⟨by decide, by decide⟩) (Ha15 0 (by rw [Sa15]; decide)) (g := (mkF m 15 (own_ARRRIIU a1 a2 a3 (0 : Int32) (0 : Int32)) [(.int (0 : Int32)), (.ref a2)])) rfl rfl (hb hby d7_15) _ ?_
      show own_S p e below T6 (mkF m 16 (own_ARRRIIU a1 a2 a3 (0 : Int32) (0 : Int32)) [(.float v0)]) _
      refine XS.fstore X6.here hx rfl (hb hby d7_16) rfl (l' := (own_ARRRIIF a1 a2 a3 (0 : Int32) (0 : Int32) v0)) rfl ?_
      exact k
    by_cases ho0 : own_out v0 l0 u0
    · obtain ⟨Tj, Xj, ej, stj⟩ : ∃ T' : State, Stand p l e ({ frames := 3, cells := 0, slots := 0, locals := 70 } : Room) s m #[(.ref a1), (.ref a2), (.ref a3), (.int (0 : Int32))] below meth c T' [] 0 0 ∧ T'.heap = h0 ∧ ∀ t, own_S p e below T' (mkF m 44 (own_ARRRIIF a1 a2 a3 (0 : Int32) (0 : Int32) v0) []) t → own_S p e below T6 (mkF m 18 (own_ARRRIIF a1 a2 a3 (0 : Int32) (0 : Int32) v0) []) t := by
        have sg21 : ∀ t, own_S p e below T6 (mkF m 21 (own_ARRRIIF a1 a2 a3 (0 : Int32) (0 : Int32) v0) [(.ref a1), (.float v0)]) t → own_S p e below T6 (mkF m 18 (own_ARRRIIF a1 a2 a3 (0 : Int32) (0 : Int32) v0) []) t := by
          intro t k
          refine XS.fload X6.here hx rfl (hb hby d7_18) rfl ?_
          show own_S p e below T6 (mkF m 20 (own_ARRRIIF a1 a2 a3 (0 : Int32) (0 : Int32) v0) [(.float v0)]) _
          refine XS.aloadN X6.here hx rfl (hb hby d7_20) rfl rfl ?_
          exact k
        obtain ⟨T21, X21, e21, st21⟩ := getF X6 hx hZ hown (host := "") (Or.inl (own_w hw 49 rfl)) Via.refl e6 F_tl (g := (mkF m 21 (own_ARRRIIF a1 a2 a3 (0 : Int32) (0 : Int32) v0) [(.ref a1), (.float v0)])) rfl rfl (hb hby d7_21)
        have sg26 : ∀ t, own_S p e below T21 (mkF m 26 (own_ARRRIIF a1 a2 a3 (0 : Int32) (0 : Int32) v0) [(.int (0 : Int32)), (.ref tl), (.float v0)]) t → own_S p e below T21 (mkF m 24 (own_ARRRIIF a1 a2 a3 (0 : Int32) (0 : Int32) v0) [(.ref tl), (.float v0)]) t := by
          intro t k
          refine XS.iload X21.here hx rfl (hb hby d7_24) rfl ?_
          exact k
        obtain ⟨cl26, Ar26, qa26, Sa26, Na26, Ha26, Ga26⟩ := id A_tl
        have sg28 : ∀ t, own_S p e below T21 (mkF m 28 (own_ARRRIIF a1 a2 a3 (0 : Int32) (0 : Int32) v0) [(.int (cmpValue (FP.fcmp v0 l0) .g))]) t → own_S p e below T21 (mkF m 26 (own_ARRRIIF a1 a2 a3 (0 : Int32) (0 : Int32) v0) [(.int (0 : Int32)), (.ref tl), (.float v0)]) t := by
          intro t k
          refine X21.faload hx (j := (0 : Int32)) (v := (.float l0)) (by rw [e21]; exact Ar26.1) (State.isArrayOf_alike hZ.alike Ar26.2.1) Ar26.2.2 (inb_of Sa26 ⟨by decide, by decide⟩) (Ha26 0 (by rw [Sa26]; decide)) (g := (mkF m 26 (own_ARRRIIF a1 a2 a3 (0 : Int32) (0 : Int32) v0) [(.int (0 : Int32)), (.ref tl), (.float v0)])) rfl rfl (hb hby d7_26) _ ?_
          show own_S p e below T21 (mkF m 27 (own_ARRRIIF a1 a2 a3 (0 : Int32) (0 : Int32) v0) [(.float l0), (.float v0)]) _
          refine XS.fcmpS X21.here hx rfl (hb hby d7_27) rfl rfl ?_
          exact k
        by_cases hc28 : (cmpValue (FP.fcmp v0 l0) .g) < (0 : Int32)
        · have sg44 : ∀ t, own_S p e below T21 (mkF m 44 (own_ARRRIIF a1 a2 a3 (0 : Int32) (0 : Int32) v0) []) t → own_S p e below T21 (mkF m 28 (own_ARRRIIF a1 a2 a3 (0 : Int32) (0 : Int32) v0) [(.int (cmpValue (FP.fcmp v0 l0) .g))]) t := by
            intro t k
            refine XS.ifYes X21.here hx rfl (pc0 := 28) (pc' := 44) rfl (hb hby d7_28) rfl ((if0 _ _).trans (tlt hc28).1) (by decide) (by decide) ?_
            exact k
          exact ⟨T21, X21, e21, fun t k => (sg21 t (st21 t (sg26 t (sg28 t (sg44 t k)))))⟩
        · have sg34 : ∀ t, own_S p e below T21 (mkF m 34 (own_ARRRIIF a1 a2 a3 (0 : Int32) (0 : Int32) v0) [(.ref a1), (.float v0)]) t → own_S p e below T21 (mkF m 28 (own_ARRRIIF a1 a2 a3 (0 : Int32) (0 : Int32) v0) [(.int (cmpValue (FP.fcmp v0 l0) .g))]) t := by
            intro t k
            refine XS.ifNo X21.here hx rfl (hb hby d7_28) rfl ((if0 _ _).trans (flt hc28).1) ?_
            show own_S p e below T21 (mkF m 31 (own_ARRRIIF a1 a2 a3 (0 : Int32) (0 : Int32) v0) []) _
            refine XS.fload X21.here hx rfl (hb hby d7_31) rfl ?_
            show own_S p e below T21 (mkF m 33 (own_ARRRIIF a1 a2 a3 (0 : Int32) (0 : Int32) v0) [(.float v0)]) _
            refine XS.aloadN X21.here hx rfl (hb hby d7_33) rfl rfl ?_
            exact k
          obtain ⟨T34, X34, e34, st34⟩ := getF X21 hx hZ hown (host := "") (Or.inl (own_w hw 51 rfl)) Via.refl e21 F_th (g := (mkF m 34 (own_ARRRIIF a1 a2 a3 (0 : Int32) (0 : Int32) v0) [(.ref a1), (.float v0)])) rfl rfl (hb hby d7_34)
          have sg39 : ∀ t, own_S p e below T34 (mkF m 39 (own_ARRRIIF a1 a2 a3 (0 : Int32) (0 : Int32) v0) [(.int (0 : Int32)), (.ref th), (.float v0)]) t → own_S p e below T34 (mkF m 37 (own_ARRRIIF a1 a2 a3 (0 : Int32) (0 : Int32) v0) [(.ref th), (.float v0)]) t := by
            intro t k
            refine XS.iload X34.here hx rfl (hb hby d7_37) rfl ?_
            exact k
          obtain ⟨cl39, Ar39, qa39, Sa39, Na39, Ha39, Ga39⟩ := id A_th
          have sg44 : ∀ t, own_S p e below T34 (mkF m 44 (own_ARRRIIF a1 a2 a3 (0 : Int32) (0 : Int32) v0) []) t → own_S p e below T34 (mkF m 39 (own_ARRRIIF a1 a2 a3 (0 : Int32) (0 : Int32) v0) [(.int (0 : Int32)), (.ref th), (.float v0)]) t := by
            intro t k
            refine X34.faload hx (j := (0 : Int32)) (v := (.float u0)) (by rw [e34]; exact Ar39.1) (State.isArrayOf_alike hZ.alike Ar39.2.1) Ar39.2.2 (inb_of Sa39 ⟨by decide, by decide⟩) (Ha39 0 (by rw [Sa39]; decide)) (g := (mkF m 39 (own_ARRRIIF a1 a2 a3 (0 : Int32) (0 : Int32) v0) [(.int (0 : Int32)), (.ref th), (.float v0)])) rfl rfl (hb hby d7_39) _ ?_
            show own_S p e below T34 (mkF m 40 (own_ARRRIIF a1 a2 a3 (0 : Int32) (0 : Int32) v0) [(.float u0), (.float v0)]) _
            refine XS.fcmpS X34.here hx rfl (hb hby d7_40) rfl rfl ?_
            show own_S p e below T34 (mkF m 41 (own_ARRRIIF a1 a2 a3 (0 : Int32) (0 : Int32) v0) [(.int (cmpValue (FP.fcmp v0 u0) .l))]) _
            refine XS.ifNo X34.here hx rfl (hb hby d7_41) rfl ((if0 _ _).trans (tlt (ho0.resolve_left hc28 : (0 : Int32) < (cmpValue (FP.fcmp v0 u0) .l))).2.2.2) ?_
            exact k
          exact ⟨T34, X34, e34, fun t k => (sg21 t (st21 t (sg26 t (sg28 t (sg34 t (st34 t (sg39 t (sg44 t k))))))))⟩
      have sg48 : ∀ t, own_S p e below Tj (mkF m 48 (own_ARRRIIF a1 a2 a3 (0 : Int32) (0 : Int32) v0) [(.ref a1), (.int (0 : Int32)), (.ref a1)]) t → own_S p e below Tj (mkF m 44 (own_ARRRIIF a1 a2 a3 (0 : Int32) (0 : Int32) v0) []) t := by
        intro t k
        refine XS.aloadN Xj.here hx rfl (hb hby d7_44) rfl rfl ?_
        show own_S p e below Tj (mkF m 45 (own_ARRRIIF a1 a2 a3 (0 : Int32) (0 : Int32) v0) [(.ref a1)]) _
        refine XS.iload Xj.here hx rfl (hb hby d7_45) rfl ?_
        show own_S p e below Tj (mkF m 47 (own_ARRRIIF a1 a2 a3 (0 : Int32) (0 : Int32) v0) [(.int (0 : Int32)), (.ref a1)]) _
        refine XS.aloadN Xj.here hx rfl (hb hby d7_47) rfl rfl ?_
        exact k
      obtain ⟨T48, X48, e48, st48⟩ := getF Xj hx hZ hown (host := "") (Or.inl (own_w hw 49 rfl)) Via.refl ej F_tl (g := (mkF m 48 (own_ARRRIIF a1 a2 a3 (0 : Int32) (0 : Int32) v0) [(.ref a1), (.int (0 : Int32)), (.ref a1)])) rfl rfl (hb hby d7_48)
      have sg53 : ∀ t, own_S p e below T48 (mkF m 53 (own_ARRRIIF a1 a2 a3 (0 : Int32) (0 : Int32) v0) [(.int (0 : Int32)), (.ref tl), (.int (0 : Int32)), (.ref a1)]) t → own_S p e below T48 (mkF m 51 (own_ARRRIIF a1 a2 a3 (0 : Int32) (0 : Int32) v0) [(.ref tl), (.int (0 : Int32)), (.ref a1)]) t := by
        intro t k
        refine XS.iload X48.here hx rfl (hb hby d7_51) rfl ?_
        exact k
      obtain ⟨cl53, Ar53, qa53, Sa53, Na53, Ha53, Ga53⟩ := id A_tl
      have sg56 : ∀ t, own_S p e below T48 (mkF m 56 (own_ARRRIIF a1 a2 a3 (0 : Int32) (0 : Int32) v0) [(.float v0), (.float l0), (.int (0 : Int32)), (.ref a1)]) t → own_S p e below T48 (mkF m 53 (own_ARRRIIF a1 a2 a3 (0 : Int32) (0 : Int32) v0) [(.int (0 : Int32)), (.ref tl), (.int (0 : Int32)), (.ref a1)]) t := by
        intro t k
        refine X48.faload hx (j := (0 : Int32)) (v := (.float l0)) (by rw [e48]; exact Ar53.1) (State.isArrayOf_alike hZ.alike Ar53.2.1) Ar53.2.2 (inb_of Sa53 ⟨by decide, by decide⟩) (Ha53 0 (by rw [Sa53]; decide)) (g := (mkF m 53 (own_ARRRIIF a1 a2 a3 (0 : Int32) (0 : Int32) v0) [(.int (0 : Int32)), (.ref tl), (.int (0 : Int32)), (.ref a1)])) rfl rfl (hb hby d7_53) _ ?_
        show own_S p e below T48 (mkF m 54 (own_ARRRIIF a1 a2 a3 (0 : Int32) (0 : Int32) v0) [(.float l0), (.int (0 : Int32)), (.ref a1)]) _
        refine XS.fload X48.here hx rfl (hb hby d7_54) rfl ?_
        exact k
      obtain ⟨T56, X56, e56, st56⟩ := natS X48 hx hZ hown (y := (⟨"java/lang/Math", "min", "(FF)F"⟩ : MethodName)) (own_w hw 66 rfl) (own_w hw 67 rfl) (own_w hw 68 rfl) (own_w hw 69 rfl) (by decide) e48 (W := 2) (F := fun a' => a' = #[.float l0, .float v0] ∧ NoNaN32 l0 ∧ NoNaN32 v0) (fun hc => Jvm.Free.Fl.Abs.minF_pays l0 v0 hc (by decide) (by decide)) (g := (mkF m 56 (own_ARRRIIF a1 a2 a3 (0 : Int32) (0 : Int32) v0) [(.float v0), (.float l0), (.int (0 : Int32)), (.ref a1)])) rfl (by rw [hml]; rfl) (argsL := [.float l0, .float v0]) (rest := [(.int (0 : Int32)), (.ref a1)]) (lenOf pd_7_0 rfl) rfl (by show 2 * 0 + _ ≤ _; exact Nat.le_of_eq rfl) (hb hby d7_56) (by decide) (by decide) ⟨rfl, ok0.nn.1, hv0.fin.noNaN⟩ rfl
      have sg60 : ∀ t, own_S p e below T56 (mkF m 60 (own_ARRRIIF a1 a2 a3 (0 : Int32) (0 : Int32) v0) [(.ref a1), (.float (Jvm.Native.java_lang_Math.nans.pick32 false l0 v0)), (.int (0 : Int32)), (.ref a1)]) t → own_S p e below T56 (mkF m 59 (own_ARRRIIF a1 a2 a3 (0 : Int32) (0 : Int32) v0) [(.float (Jvm.Native.java_lang_Math.nans.pick32 false l0 v0)), (.int (0 : Int32)), (.ref a1)]) t := by
        intro t k
        refine XS.aloadN X56.here hx rfl (hb hby d7_59) rfl rfl ?_
        exact k
      obtain ⟨T60, X60, e60, st60⟩ := getF X56 hx hZ hown (host := "") (Or.inl (own_w hw 51 rfl)) Via.refl e56 F_th (g := (mkF m 60 (own_ARRRIIF a1 a2 a3 (0 : Int32) (0 : Int32) v0) [(.ref a1), (.float (Jvm.Native.java_lang_Math.nans.pick32 false l0 v0)), (.int (0 : Int32)), (.ref a1)])) rfl rfl (hb hby d7_60)
      have sg65 : ∀ t, own_S p e below T60 (mkF m 65 (own_ARRRIIF a1 a2 a3 (0 : Int32) (0 : Int32) v0) [(.int (0 : Int32)), (.ref th), (.float (Jvm.Native.java_lang_Math.nans.pick32 false l0 v0)), (.int (0 : Int32)), (.ref a1)]) t → own_S p e below T60 (mkF m 63 (own_ARRRIIF a1 a2 a3 (0 : Int32) (0 : Int32) v0) [(.ref th), (.float (Jvm.Native.java_lang_Math.nans.pick32 false l0 v0)), (.int (0 : Int32)), (.ref a1)]) t := by
        intro t k
        refine XS.iload X60.here hx rfl (hb hby d7_63) rfl ?_
        exact k
      obtain ⟨cl65, Ar65, qa65, Sa65, Na65, Ha65, Ga65⟩ := id A_th
      have sg68 : ∀ t, own_S p e below T60 (mkF m 68 (own_ARRRIIF a1 a2 a3 (0 : Int32) (0 : Int32) v0) [(.float v0), (.float u0), (.float (Jvm.Native.java_lang_Math.nans.pick32 false l0 v0)), (.int (0 : Int32)), (.ref a1)]) t → own_S p e below T60 (mkF m 65 (own_ARRRIIF a1 a2 a3 (0 : Int32) (0 : Int32) v0) [(.int (0 : Int32)), (.ref th), (.float (Jvm.Native.java_lang_Math.nans.pick32 false l0 v0)), (.int (0 : Int32)), (.ref a1)]) t := by
        intro t k
        refine X60.faload hx (j := (0 : Int32)) (v := (.float u0)) (by rw [e60]; exact Ar65.1) (State.isArrayOf_alike hZ.alike Ar65.2.1) Ar65.2.2 (inb_of Sa65 ⟨by decide, by decide⟩) (Ha65 0 (by rw [Sa65]; decide)) (g := (mkF m 65 (own_ARRRIIF a1 a2 a3 (0 : Int32) (0 : Int32) v0) [(.int (0 : Int32)), (.ref th), (.float (Jvm.Native.java_lang_Math.nans.pick32 false l0 v0)), (.int (0 : Int32)), (.ref a1)])) rfl rfl (hb hby d7_65) _ ?_
        show own_S p e below T60 (mkF m 66 (own_ARRRIIF a1 a2 a3 (0 : Int32) (0 : Int32) v0) [(.float u0), (.float (Jvm.Native.java_lang_Math.nans.pick32 false l0 v0)), (.int (0 : Int32)), (.ref a1)]) _
        refine XS.fload X60.here hx rfl (hb hby d7_66) rfl ?_
        exact k
      obtain ⟨T68, X68, e68, st68⟩ := natS X60 hx hZ hown (y := (⟨"java/lang/Math", "max", "(FF)F"⟩ : MethodName)) (own_w hw 70 rfl) (own_w hw 71 rfl) (own_w hw 68 rfl) (own_w hw 72 rfl) (by decide) e60 (W := 3) (F := fun a' => a' = #[.float u0, .float v0] ∧ NoNaN32 u0 ∧ NoNaN32 v0) (fun hc => Jvm.Free.Fl.Abs.maxF_pays u0 v0 hc (by decide) (by decide)) (g := (mkF m 68 (own_ARRRIIF a1 a2 a3 (0 : Int32) (0 : Int32) v0) [(.float v0), (.float u0), (.float (Jvm.Native.java_lang_Math.nans.pick32 false l0 v0)), (.int (0 : Int32)), (.ref a1)])) rfl (by rw [hml]; rfl) (argsL := [.float u0, .float v0]) (rest := [(.float (Jvm.Native.java_lang_Math.nans.pick32 false l0 v0)), (.int (0 : Int32)), (.ref a1)]) (lenOf pd_7_0 rfl) rfl (by show 2 * 0 + _ ≤ _; exact Nat.le_of_eq rfl) (hb hby d7_68) (by decide) (by decide) ⟨rfl, ok0.nn.2, hv0.fin.noNaN⟩ rfl
      obtain ⟨cq71, q71, q71'⟩ := E_q.cell
      obtain ⟨_, _, ⟨T71, L71, k71, n71⟩, -, X71, ⟨Lc71, hQ71, l71, y71, z71⟩, st71⟩ := X68.privateBack hx (y := (⟨"com/example/reverie/reverie/ScalarQuantizer", "setRange", "(IFF)V"⟩ : MethodName)) hown (mvT hZ (own_w hw 73 rfl)) (mvT hZ (own_w hw 74 rfl)) (own_selp (z := (⟨"com/example/reverie/reverie/ScalarQuantizer", "encode", "([F[BI)V"⟩ : MethodName)) (Cond.privateMethod_at (mvP hZ (own_w hw 75 rfl) (args := #[]))) (mvT hZ (own_w hw 74 rfl)) (mvT hZ (own_w hw 64 rfl)) rfl (by decide)) (Cond.privateMethod_at (mvP hZ (own_w hw 75 rfl) (args := #[]))) (mvT hZ (own_w hw 76 rfl)) (by decide) (backOf (W := 0) (rm100 l Z a0 hw [] a1 (Jvm.Native.java_lang_Math.nans.pick32 false l0 v0) (Jvm.Native.java_lang_Math.nans.pick32 true u0 v0) tl th ts sl sh ss cS cD cL cH cC n l0 l1 u0 u1 s0 s1 hist h0 n0 Z0 (ok0.pk hv0).1 (ok0.pk hv0).2 (⟨_, _, _, _, _, _, _, _, _, _, _, _, _, _, _, _, ND, ⟨G1, G2, G3, G4, G5⟩, E_q, F_dim, F_tl, F_th, F_ts, F_sl, F_sh, F_ss, F_cS, F_cD, F_cL, F_cH, F_cC, F_ec, (by rw [← hkk]; exact F_cc), A_tl, A_th, A_ts, A_sl, A_sh, A_ss, A_cS, A_cD, A_cL, A_cH, A_cC⟩) (by omega) ge) hZ (own_w hw 76 rfl) (own_w hw 8 rfl) (by decide) (by decide)) (g := (mkF m 71 (own_ARRRIIF a1 a2 a3 (0 : Int32) (0 : Int32) v0) [(.float (Jvm.Native.java_lang_Math.nans.pick32 true u0 v0)), (.float (Jvm.Native.java_lang_Math.nans.pick32 false l0 v0)), (.int (0 : Int32)), (.ref a1)])) rfl (by rw [hml]; rfl) (Steps.refl _) (a := a1) (by rw [e68]; exact q71) q71' (argsL := [(.int (0 : Int32)), (.float (Jvm.Native.java_lang_Math.nans.pick32 false l0 v0)), (.float (Jvm.Native.java_lang_Math.nans.pick32 true u0 v0))]) (rest := []) (lenOf pd_7_1 rfl) rfl (by show 2 * 0 + _ ≤ _; exact Nat.le_of_eq rfl) (hb hby d7_71) (fun _ _ => ⟨rfl, e68, (by decide : 0 + 0 ≤ _), (by decide : 0 + 0 ≤ _)⟩)
      dsimp only [Pt.U, Pt.locs, Pt.cells, Pt.slots] at X71 l71 y71 z71 st71 hQ71
      subst l71 y71 z71
      obtain ⟨rfl, N71q, Kq71, QQ71⟩ := hQ71
      have N71 := Fr.app N0 N71q
      have fc := (A_sl.keep Kq71 (List.not_mem_cons_of_ne_of_not_mem (Ne.symm n_a1_sl) (List.not_mem_cons_of_ne_of_not_mem (Ne.symm ND.2.2.1) (List.not_mem_cons_of_ne_of_not_mem (Ne.symm ND.2.2.2.2.2.2.2.2.2.2.2.1) (List.not_mem_cons_of_ne_of_not_mem (Ne.symm ND.2.2.2.2.2.2.2.2.2.2.2.2.2.2.2.2.2.2.2.1) (List.not_mem_cons_of_ne_of_not_mem ND.2.2.2.2.2.2.2.2.2.2.2.2.2.2.2.2.2.2.2.2.2.2.2.2.2.2.2.2.2.1 (List.not_mem_cons_of_ne_of_not_mem ND.2.2.2.2.2.2.2.2.2.2.2.2.2.2.2.2.2.2.2.2.2.2.2.2.2.2.2.2.2.2.1 (List.not_mem_cons_of_ne_of_not_mem ND.2.2.2.2.2.2.2.2.2.2.2.2.2.2.2.2.2.2.2.2.2.2.2.2.2.2.2.2.2.2.2.1 (List.not_mem_cons_of_ne_of_not_mem ND.2.2.2.2.2.2.2.2.2.2.2.2.2.2.2.2.2.2.2.2.2.2.2.2.2.2.2.2.2.2.2.2.1 (List.not_mem_cons_of_ne_of_not_mem ND.2.2.2.2.2.2.2.2.2.2.2.2.2.2.2.2.2.2.2.2.2.2.2.2.2.2.2.2.2.2.2.2.2.1 List.not_mem_nil))))))))))
      have fc_2 := (A_sh.keep Kq71 (List.not_mem_cons_of_ne_of_not_mem (Ne.symm n_a1_sh) (List.not_mem_cons_of_ne_of_not_mem (Ne.symm ND.2.2.2.1) (List.not_mem_cons_of_ne_of_not_mem (Ne.symm ND.2.2.2.2.2.2.2.2.2.2.2.2.1) (List.not_mem_cons_of_ne_of_not_mem (Ne.symm ND.2.2.2.2.2.2.2.2.2.2.2.2.2.2.2.2.2.2.2.2.1) (List.not_mem_cons_of_ne_of_not_mem ND.2.2.2.2.2.2.2.2.2.2.2.2.2.2.2.2.2.2.2.2.2.2.2.2.2.2.2.2.2.2.2.2.2.2.2.1 (List.not_mem_cons_of_ne_of_not_mem ND.2.2.2.2.2.2.2.2.2.2.2.2.2.2.2.2.2.2.2.2.2.2.2.2.2.2.2.2.2.2.2.2.2.2.2.2.1 (List.not_mem_cons_of_ne_of_not_mem ND.2.2.2.2.2.2.2.2.2.2.2.2.2.2.2.2.2.2.2.2.2.2.2.2.2.2.2.2.2.2.2.2.2.2.2.2.2.1 (List.not_mem_cons_of_ne_of_not_mem ND.2.2.2.2.2.2.2.2.2.2.2.2.2.2.2.2.2.2.2.2.2.2.2.2.2.2.2.2.2.2.2.2.2.2.2.2.2.2.1 (List.not_mem_cons_of_ne_of_not_mem ND.2.2.2.2.2.2.2.2.2.2.2.2.2.2.2.2.2.2.2.2.2.2.2.2.2.2.2.2.2.2.2.2.2.2.2.2.2.2.2.1 List.not_mem_nil))))))))))
      have fc_3 := (A_ss.keep Kq71 (List.not_mem_cons_of_ne_of_not_mem (Ne.symm n_a1_ss) (List.not_mem_cons_of_ne_of_not_mem (Ne.symm ND.2.2.2.2.1) (List.not_mem_cons_of_ne_of_not_mem (Ne.symm ND.2.2.2.2.2.2.2.2.2.2.2.2.2.1) (List.not_mem_cons_of_ne_of_not_mem (Ne.symm ND.2.2.2.2.2.2.2.2.2.2.2.2.2.2.2.2.2.2.2.2.2.1) (List.not_mem_cons_of_ne_of_not_mem ND.2.2.2.2.2.2.2.2.2.2.2.2.2.2.2.2.2.2.2.2.2.2.2.2.2.2.2.2.2.2.2.2.2.2.2.2.2.2.2.2.1 (List.not_mem_cons_of_ne_of_not_mem ND.2.2.2.2.2.2.2.2.2.2.2.2.2.2.2.2.2.2.2.2.2.2.2.2.2.2.2.2.2.2.2.2.2.2.2.2.2.2.2.2.2.1 (List.not_mem_cons_of_ne_of_not_mem ND.2.2.2.2.2.2.2.2.2.2.2.2.2.2.2.2.2.2.2.2.2.2.2.2.2.2.2.2.2.2.2.2.2.2.2.2.2.2.2.2.2.2.1 (List.not_mem_cons_of_ne_of_not_mem ND.2.2.2.2.2.2.2.2.2.2.2.2.2.2.2.2.2.2.2.2.2.2.2.2.2.2.2.2.2.2.2.2.2.2.2.2.2.2.2.2.2.2.2.1 (List.not_mem_cons_of_ne_of_not_mem ND.2.2.2.2.2.2.2.2.2.2.2.2.2.2.2.2.2.2.2.2.2.2.2.2.2.2.2.2.2.2.2.2.2.2.2.2.2.2.2.2.2.2.2.2.1 List.not_mem_nil))))))))))
      have fc_4 := (AV.keep Kq71 (List.not_mem_cons_of_ne_of_not_mem n_a2_a1 (List.not_mem_cons_of_ne_of_not_mem n_a2_tl (List.not_mem_cons_of_ne_of_not_mem n_a2_th (List.not_mem_cons_of_ne_of_not_mem n_a2_ts (List.not_mem_cons_of_ne_of_not_mem n_a2_cS (List.not_mem_cons_of_ne_of_not_mem n_a2_cD (List.not_mem_cons_of_ne_of_not_mem n_a2_cL (List.not_mem_cons_of_ne_of_not_mem n_a2_cH (List.not_mem_cons_of_ne_of_not_mem n_a2_cC List.not_mem_nil))))))))))
      have fc_5 := (AC.keep Kq71 (List.not_mem_cons_of_ne_of_not_mem n_a3_a1 (List.not_mem_cons_of_ne_of_not_mem n_a3_tl (List.not_mem_cons_of_ne_of_not_mem n_a3_th (List.not_mem_cons_of_ne_of_not_mem n_a3_ts (List.not_mem_cons_of_ne_of_not_mem n_a3_cS (List.not_mem_cons_of_ne_of_not_mem n_a3_cD (List.not_mem_cons_of_ne_of_not_mem n_a3_cL (List.not_mem_cons_of_ne_of_not_mem n_a3_cH (List.not_mem_cons_of_ne_of_not_mem n_a3_cC List.not_mem_nil))))))))))
      have K71 : Keep h0 T71.heap [a1, tl, th, ts, cS, cD, cL, cH, cC, a3] := K0.trans Kq71 (fun x hx => Or.inl (show x ∈ [a1, tl, th, ts, cS, cD, cL, cH, cC] ++ [a3] from List.mem_append_left _ hx))
      have Z71 : n0 ≤ T71.heap.size := Nat.le_trans Z0 Kq71.1
      obtain ⟨ktl, kth, kts, ksl, ksh, kss, kcS, kcD, kcL, kcH, kcC, g1, g2, g3, g4, g5, ND, ⟨G1, G2, G3, G4, G5⟩, E_q, F_dim, F_tl, F_th, F_ts, F_sl, F_sh, F_ss, F_cS, F_cD, F_cL, F_cH, F_cC, F_ec, F_cc, A_tl, A_th, A_ts, A_sl, A_sh, A_ss, A_cS, A_cD, A_cL, A_cH, A_cC⟩ := id QQ71
      have n_a1_tl : a1 ≠ tl := E_q.neArv A_tl (own_w hw 7 rfl)
      have n_a1_th : a1 ≠ th := E_q.neArv A_th (own_w hw 7 rfl)
      have n_a1_ts : a1 ≠ ts := E_q.neArv A_ts (own_w hw 7 rfl)
      have n_a1_sl : a1 ≠ sl := E_q.neArv A_sl (own_w hw 7 rfl)
      have n_a1_sh : a1 ≠ sh := E_q.neArv A_sh (own_w hw 7 rfl)
      have n_a1_ss : a1 ≠ ss := E_q.neArv A_ss (own_w hw 7 rfl)
      have n_a1_cS : a1 ≠ cS := E_q.neArv A_cS (own_w hw 7 rfl)
      have n_a1_cD : a1 ≠ cD := E_q.neArv A_cD (own_w hw 7 rfl)
      have n_a1_cL : a1 ≠ cL := E_q.neArv A_cL (own_w hw 7 rfl)
      have n_a1_cH : a1 ≠ cH := E_q.neArv A_cH (own_w hw 7 rfl)
      have n_a1_cC : a1 ≠ cC := E_q.neArv A_cC (own_w hw 7 rfl)
      obtain ⟨kk, hkk⟩ : ∃ z : Int32, z = Int32.ofNat (hist ++ [(n, (0 : Int32), (Jvm.Native.java_lang_Math.nans.pick32 false l0 v0), (Jvm.Native.java_lang_Math.nans.pick32 true u0 v0), own_scale (Jvm.Native.java_lang_Math.nans.pick32 false l0 v0) (Jvm.Native.java_lang_Math.nans.pick32 true u0 v0))]).length := ⟨_, rfl⟩
      rw [← hkk] at F_cc
      have sg82 : ∀ t, own_S p e below T71 (mkF m 82 (own_ARRRIIF a1 a2 a3 (0 : Int32) (0 : Int32) v0) [(.ref a1), (.float v0), (.int (0 : Int32)), (.ref a3)]) t → own_S p e below T71 (mkF m 74 (own_ARRRIIF a1 a2 a3 (0 : Int32) (0 : Int32) v0) []) t := by
        intro t k
        refine XS.aloadN X71.here hx rfl (hb hby d7_74) rfl rfl ?_
        show own_S p e below T71 (mkF m 75 (own_ARRRIIF a1 a2 a3 (0 : Int32) (0 : Int32) v0) [(.ref a3)]) _
        refine XS.iloadN X71.here hx rfl (hb hby d7_75) rfl ?_
        show own_S p e below T71 (mkF m 76 (own_ARRRIIF a1 a2 a3 (0 : Int32) (0 : Int32) v0) [(.int (0 : Int32)), (.ref a3)]) _
        refine XS.iload X71.here hx rfl (hb hby d7_76) rfl ?_
        show own_S p e below T71 (mkF m 78 (own_ARRRIIF a1 a2 a3 (0 : Int32) (0 : Int32) v0) [(.int (0 : Int32)), (.int (0 : Int32)), (.ref a3)]) _
        refine XS.iadd X71.here hx rfl (hb hby d7_78) rfl ?_
        show own_S p e below T71 (mkF m 79 (own_ARRRIIF a1 a2 a3 (0 : Int32) (0 : Int32) v0) [(.int (0 : Int32)), (.ref a3)]) _
        refine XS.fload X71.here hx rfl (hb hby d7_79) rfl ?_
        show own_S p e below T71 (mkF m 81 (own_ARRRIIF a1 a2 a3 (0 : Int32) (0 : Int32) v0) [(.float v0), (.int (0 : Int32)), (.ref a3)]) _
        refine XS.aloadN X71.here hx rfl (hb hby d7_81) rfl rfl ?_
        exact k
      obtain ⟨T82, X82, e82, st82⟩ := getF X71 hx hZ hown (host := "") (Or.inl (own_w hw 49 rfl)) Via.refl rfl F_tl (g := (mkF m 82 (own_ARRRIIF a1 a2 a3 (0 : Int32) (0 : Int32) v0) [(.ref a1), (.float v0), (.int (0 : Int32)), (.ref a3)])) rfl rfl (hb hby d7_82)
      have sg87 : ∀ t, own_S p e below T82 (mkF m 87 (own_ARRRIIF a1 a2 a3 (0 : Int32) (0 : Int32) v0) [(.int (0 : Int32)), (.ref tl), (.float v0), (.int (0 : Int32)), (.ref a3)]) t → own_S p e below T82 (mkF m 85 (own_ARRRIIF a1 a2 a3 (0 : Int32) (0 : Int32) v0) [(.ref tl), (.float v0), (.int (0 : Int32)), (.ref a3)]) t := by
        intro t k
        refine XS.iload X82.here hx rfl (hb hby d7_85) rfl ?_
        exact k
      obtain ⟨cl87, Ar87, qa87, Sa87, Na87, Ha87, Ga87⟩ := id A_tl
      have sg89 : ∀ t, own_S p e below T82 (mkF m 89 (own_ARRRIIF a1 a2 a3 (0 : Int32) (0 : Int32) v0) [(.ref a1), (.float (Jvm.Native.java_lang_Math.nans.pick32 false l0 v0)), (.float v0), (.int (0 : Int32)), (.ref a3)]) t → own_S p e below T82 (mkF m 87 (own_ARRRIIF a1 a2 a3 (0 : Int32) (0 : Int32) v0) [(.int (0 : Int32)), (.ref tl), (.float v0), (.int (0 : Int32)), (.ref a3)]) t := by
        intro t k
        refine X82.faload hx (j := (0 : Int32)) (v := (.float (Jvm.Native.java_lang_Math.nans.pick32 false l0 v0))) (by rw [e82]; exact Ar87.1) (State.isArrayOf_alike hZ.alike Ar87.2.1) Ar87.2.2 (inb_of Sa87 ⟨by decide, by decide⟩) (Ha87 0 (by rw [Sa87]; decide)) (g := (mkF m 87 (own_ARRRIIF a1 a2 a3 (0 : Int32) (0 : Int32) v0) [(.int (0 : Int32)), (.ref tl), (.float v0), (.int (0 : Int32)), (.ref a3)])) rfl rfl (hb hby d7_87) _ ?_
        show own_S p e below T82 (mkF m 88 (own_ARRRIIF a1 a2 a3 (0 : Int32) (0 : Int32) v0) [(.float (Jvm.Native.java_lang_Math.nans.pick32 false l0 v0)), (.float v0), (.int (0 : Int32)), (.ref a3)]) _
        refine XS.aloadN X82.here hx rfl (hb hby d7_88) rfl rfl ?_
        exact k
      obtain ⟨T89, X89, e89, st89⟩ := getF X82 hx hZ hown (host := "") (Or.inl (own_w hw 53 rfl)) Via.refl e82 F_ts (g := (mkF m 89 (own_ARRRIIF a1 a2 a3 (0 : Int32) (0 : Int32) v0) [(.ref a1), (.float (Jvm.Native.java_lang_Math.nans.pick32 false l0 v0)), (.float v0), (.int (0 : Int32)), (.ref a3)])) rfl rfl (hb hby d7_89)
      have sg94 : ∀ t, own_S p e below T89 (mkF m 94 (own_ARRRIIF a1 a2 a3 (0 : Int32) (0 : Int32) v0) [(.int (0 : Int32)), (.ref ts), (.float (Jvm.Native.java_lang_Math.nans.pick32 false l0 v0)), (.float v0), (.int (0 : Int32)), (.ref a3)]) t → own_S p e below T89 (mkF m 92 (own_ARRRIIF a1 a2 a3 (0 : Int32) (0 : Int32) v0) [(.ref ts), (.float (Jvm.Native.java_lang_Math.nans.pick32 false l0 v0)), (.float v0), (.int (0 : Int32)), (.ref a3)]) t := by
        intro t k
        refine XS.iload X89.here hx rfl (hb hby d7_92) rfl ?_
        exact k
      obtain ⟨cl94, Ar94, qa94, Sa94, Na94, Ha94, Ga94⟩ := id A_ts
      have sg95 : ∀ t, own_S p e below T89 (mkF m 95 (own_ARRRIIF a1 a2 a3 (0 : Int32) (0 : Int32) v0) [(.float (own_scale (Jvm.Native.java_lang_Math.nans.pick32 false l0 v0) (Jvm.Native.java_lang_Math.nans.pick32 true u0 v0))), (.float (Jvm.Native.java_lang_Math.nans.pick32 false l0 v0)), (.float v0), (.int (0 : Int32)), (.ref a3)]) t → own_S p e below T89 (mkF m 94 (own_ARRRIIF a1 a2 a3 (0 : Int32) (0 : Int32) v0) [(.int (0 : Int32)), (.ref ts), (.float (Jvm.Native.java_lang_Math.nans.pick32 false l0 v0)), (.float v0), (.int (0 : Int32)), (.ref a3)]) t := by
        intro t k
        refine X89.faload hx (j := (0 : Int32)) (v := (.float (own_scale (Jvm.Native.java_lang_Math.nans.pick32 false l0 v0) (Jvm.Native.java_lang_Math.nans.pick32 true u0 v0)))) (by rw [e89]; exact Ar94.1) (State.isArrayOf_alike hZ.alike Ar94.2.1) Ar94.2.2 (inb_of Sa94 ⟨by decide, by decide⟩) (Ha94 0 (by rw [Sa94]; decide)) (g := (mkF m 94 (own_ARRRIIF a1 a2 a3 (0 : Int32) (0 : Int32) v0) [(.int (0 : Int32)), (.ref ts), (.float (Jvm.Native.java_lang_Math.nans.pick32 false l0 v0)), (.float v0), (.int (0 : Int32)), (.ref a3)])) rfl rfl (hb hby d7_94) _ ?_
        exact k
      obtain ⟨_, _, ⟨T95, L95, k95, n95⟩, -, X95, ⟨Lc95, hQ95, l95, y95, z95⟩, st95⟩ := Jvm.LawKit.callS X89 hx (y := (⟨"com/example/reverie/reverie/ScalarQuantizer", "code", "(FFF)I"⟩ : MethodName)) hown (mvT hZ (own_w hw 85 rfl)) (mvT hZ (own_w hw 86 rfl)) (mvT hZ (own_w hw 8 rfl)) (mvT hZ (own_w hw 87 rfl)) (by decide) (backOf (W := 2) (rm12 l Z a0 hw [] v0 (Jvm.Native.java_lang_Math.nans.pick32 false l0 v0) (own_scale (Jvm.Native.java_lang_Math.nans.pick32 false l0 v0) (Jvm.Native.java_lang_Math.nans.pick32 true u0 v0)) T71.heap n0 Z71 hv0.fin (ok0.pk hv0).1.fin (own_scale_fin (ok0.pk hv0).1 (ok0.pk hv0).2)) hZ (own_w hw 87 rfl) (own_w hw 8 rfl) (by decide) (by decide)) (g := (mkF m 95 (own_ARRRIIF a1 a2 a3 (0 : Int32) (0 : Int32) v0) [(.float (own_scale (Jvm.Native.java_lang_Math.nans.pick32 false l0 v0) (Jvm.Native.java_lang_Math.nans.pick32 true u0 v0))), (.float (Jvm.Native.java_lang_Math.nans.pick32 false l0 v0)), (.float v0), (.int (0 : Int32)), (.ref a3)])) rfl (by rw [hml]; rfl) (argsL := [(.float v0), (.float (Jvm.Native.java_lang_Math.nans.pick32 false l0 v0)), (.float (own_scale (Jvm.Native.java_lang_Math.nans.pick32 false l0 v0) (Jvm.Native.java_lang_Math.nans.pick32 true u0 v0)))]) (rest := [(.int (0 : Int32)), (.ref a3)]) (lenOf pd_7_2 rfl) rfl (by show 2 * 0 + _ ≤ _; exact Nat.le_of_eq rfl) (hb hby d7_95) (fun _ _ => ⟨rfl, e89, (by decide : 0 + 0 ≤ _), (by decide : 0 + 0 ≤ _)⟩)
      dsimp only [Pt.U, Pt.locs, Pt.cells, Pt.slots] at X95 l95 y95 z95 st95 hQ95
      subst l95 y95 z95
      obtain ⟨rfl, N95q, hq95⟩ := hQ95
      have N95 := Fr.app N71 N95q
      obtain ⟨c95, hc95⟩ : ∃ z : Int32, z = (own_code v0 (Jvm.Native.java_lang_Math.nans.pick32 false l0 v0) (own_scale (Jvm.Native.java_lang_Math.nans.pick32 false l0 v0) (Jvm.Native.java_lang_Math.nans.pick32 true u0 v0))) := ⟨_, rfl⟩
      rw [← hc95] at st95
      obtain ⟨k99, hk99⟩ : ∃ z : Int32, z = (c95.toInt8.toInt32) := ⟨_, rfl⟩
      have sg99 : ∀ t, own_S p e below T95 (mkF m 99 (own_ARRRIIF a1 a2 a3 (0 : Int32) (0 : Int32) v0) [(.int k99), (.int (0 : Int32)), (.ref a3)]) t → own_S p e below T95 (mkF m 98 (own_ARRRIIF a1 a2 a3 (0 : Int32) (0 : Int32) v0) [(.int c95), (.int (0 : Int32)), (.ref a3)]) t := by
        intro t k
        rw [hk99] at k
        refine XS.i2b X95.here hx rfl (hb hby d7_98) rfl ?_
        exact k
      have nb_k99 : k99.toInt8.toInt32 = k99 := by rw [hk99]; exact own_i2b2 _
      obtain ⟨cl99, Ar99, qa99, Sa99, Na99, Ha99, Ga99⟩ := id fc_5
      obtain ⟨T99, h99, X99, e99, W99, st99⟩ := stB X95 hx hZ hq95 Ar99 (j := (0 : Int32)) (inb_of Sa99 ⟨by decide, by decide⟩) (g := (mkF m 99 (own_ARRRIIF a1 a2 a3 (0 : Int32) (0 : Int32) v0) [(.int k99), (.int (0 : Int32)), (.ref a3)])) rfl rfl (hb hby d7_99)
      have V99 : Arv Z h99 a3 kc .byte (2 : Int32) [(.int k99), (.int o1)] (.int (0 : Int32)) := by
        have q := Arv.set Ar99 qa99 Sa99 Na99 Ha99 Ga99 (fits_nar_byte _) W99 0 rfl (Nat.le_of_ble_eq_true rfl)
        rw [nb_k99] at q
        exact q
      have K99 : Keep h0 h99 [a1, tl, th, ts, cS, cD, cL, cH, cC, a3] := K71.wr W99 (Or.inl (List.mem_of_getElem? (i := 9) rfl))
      have Z99 : n0 ≤ h99.size := Nat.le_trans Z71 (Keep.of_wr W99).1
      have N99 := Fr.snoc X99 N95 g_a3
      have sg3_2 : ∀ t, own_S p e below T99 (mkF m 3 (own_ARRRIIF a1 a2 a3 (0 : Int32) (1 : Int32) v0) []) t → own_S p e below T99 (mkF m 100 (own_ARRRIIF a1 a2 a3 (0 : Int32) (0 : Int32) v0) []) t := by
        intro t k
        refine XS.iinc X99.here hx rfl (hb hby d7_100) rfl (l' := (own_ARRRIIF a1 a2 a3 (0 : Int32) (1 : Int32) v0)) rfl ?_
        show own_S p e below T99 (mkF m 103 (own_ARRRIIF a1 a2 a3 (0 : Int32) (1 : Int32) v0) []) _
        refine XS.goto X99.here hx rfl (pc0 := 103) (pc' := 3) rfl (hb hby d7_103) (by decide) (by decide) ?_
        exact k
      exact ⟨T99, _, _, X99, N99, e99, K99, (by rw [own_l_pos ho0, own_u_pos ho0, own_s_pos ho0, own_h_pos ho0]; exact (⟨_, _, _, _, _, _, _, _, _, _, _, _, _, _, _, _, ND, ⟨G1, G2, G3, G4, G5⟩, (E_q.wr W99), (F_dim.other W99 (Or.inl (Ne.symm n_a3_a1))), (F_tl.other W99 (Or.inl (Ne.symm n_a3_a1))), (F_th.other W99 (Or.inl (Ne.symm n_a3_a1))), (F_ts.other W99 (Or.inl (Ne.symm n_a3_a1))), (F_sl.other W99 (Or.inl (Ne.symm n_a3_a1))), (F_sh.other W99 (Or.inl (Ne.symm n_a3_a1))), (F_ss.other W99 (Or.inl (Ne.symm n_a3_a1))), (F_cS.other W99 (Or.inl (Ne.symm n_a3_a1))), (F_cD.other W99 (Or.inl (Ne.symm n_a3_a1))), (F_cL.other W99 (Or.inl (Ne.symm n_a3_a1))), (F_cH.other W99 (Or.inl (Ne.symm n_a3_a1))), (F_cC.other W99 (Or.inl (Ne.symm n_a3_a1))), (F_ec.other W99 (Or.inl (Ne.symm n_a3_a1))), (by rw [← hkk]; exact (F_cc.other W99 (Or.inl (Ne.symm n_a3_a1)))), (A_tl.other W99 (Ne.symm n_a3_tl)), (A_th.other W99 (Ne.symm n_a3_th)), (A_ts.other W99 (Ne.symm n_a3_ts)), (A_sl.other W99 (Ne.symm n_a3_sl)), (A_sh.other W99 (Ne.symm n_a3_sh)), (A_ss.other W99 (Ne.symm n_a3_ss)), (A_cS.other W99 (Ne.symm n_a3_cS)), (A_cD.other W99 (Ne.symm n_a3_cD)), (A_cL.other W99 (Ne.symm n_a3_cL)), (A_cH.other W99 (Ne.symm n_a3_cH)), (A_cC.other W99 (Ne.symm n_a3_cC))⟩)), (by rw [own_l_pos ho0, own_s_pos ho0]; rw [← hc95, ← hk99]; exact V99), fun t k => (sg6 t (st6 t (sg15 t (sg18 t (stj t (sg48 t (st48 t (sg53 t (sg56 t (st56 t (sg60 t (st60 t (sg65 t (sg68 t (st68 t ((fun t k => st71.trans k) t (sg82 t (st82 t (sg87 t (sg89 t (st89 t (sg94 t (sg95 t (st95 t (sg99 t (st99 t (sg3_2 t k)))))))))))))))))))))))))))⟩
    · have sg21 : ∀ t, own_S p e below T6 (mkF m 21 (own_ARRRIIF a1 a2 a3 (0 : Int32) (0 : Int32) v0) [(.ref a1), (.float v0)]) t → own_S p e below T6 (mkF m 18 (own_ARRRIIF a1 a2 a3 (0 : Int32) (0 : Int32) v0) []) t := by
        intro t k
        refine XS.fload X6.here hx rfl (hb hby d7_18) rfl ?_
        show own_S p e below T6 (mkF m 20 (own_ARRRIIF a1 a2 a3 (0 : Int32) (0 : Int32) v0) [(.float v0)]) _
        refine XS.aloadN X6.here hx rfl (hb hby d7_20) rfl rfl ?_
        exact k
      obtain ⟨T21, X21, e21, st21⟩ := getF X6 hx hZ hown (host := "") (Or.inl (own_w hw 49 rfl)) Via.refl e6 F_tl (g := (mkF m 21 (own_ARRRIIF a1 a2 a3 (0 : Int32) (0 : Int32) v0) [(.ref a1), (.float v0)])) rfl rfl (hb hby d7_21)
      have sg26 : ∀ t, own_S p e below T21 (mkF m 26 (own_ARRRIIF a1 a2 a3 (0 : Int32) (0 : Int32) v0) [(.int (0 : Int32)), (.ref tl), (.float v0)]) t → own_S p e below T21 (mkF m 24 (own_ARRRIIF a1 a2 a3 (0 : Int32) (0 : Int32) v0) [(.ref tl), (.float v0)]) t := by
        intro t k
        refine XS.iload X21.here hx rfl (hb hby d7_24) rfl ?_
        exact k
      obtain ⟨cl26, Ar26, qa26, Sa26, Na26, Ha26, Ga26⟩ := id A_tl
      have sg34 : ∀ t, own_S p e below T21 (mkF m 34 (own_ARRRIIF a1 a2 a3 (0 : Int32) (0 : Int32) v0) [(.ref a1), (.float v0)]) t → own_S p e below T21 (mkF m 26 (own_ARRRIIF a1 a2 a3 (0 : Int32) (0 : Int32) v0) [(.int (0 : Int32)), (.ref tl), (.float v0)]) t := by
        intro t k
        refine X21.faload hx (j := (0 : Int32)) (v := (.float l0)) (by rw [e21]; exact Ar26.1) (State.isArrayOf_alike hZ.alike Ar26.2.1) Ar26.2.2 (inb_of Sa26 ⟨by decide, by decide⟩) (Ha26 0 (by rw [Sa26]; decide)) (g := (mkF m 26 (own_ARRRIIF a1 a2 a3 (0 : Int32) (0 : Int32) v0) [(.int (0 : Int32)), (.ref tl), (.float v0)])) rfl rfl (hb hby d7_26) _ ?_
        show own_S p e below T21 (mkF m 27 (own_ARRRIIF a1 a2 a3 (0 : Int32) (0 : Int32) v0) [(.float l0), (.float v0)]) _
        refine XS.fcmpS X21.here hx rfl (hb hby d7_27) rfl rfl ?_
        show own_S p e below T21 (mkF m 28 (own_ARRRIIF a1 a2 a3 (0 : Int32) (0 : Int32) v0) [(.int (cmpValue (FP.fcmp v0 l0) .g))]) _
        refine XS.ifNo X21.here hx rfl (hb hby d7_28) rfl ((if0 _ _).trans (flt (fun q => ho0 (Or.inl q) : ¬ ((cmpValue (FP.fcmp v0 l0) .g) < (0 : Int32)))).1) ?_
        show own_S p e below T21 (mkF m 31 (own_ARRRIIF a1 a2 a3 (0 : Int32) (0 : Int32) v0) []) _
        refine XS.fload X21.here hx rfl (hb hby d7_31) rfl ?_
        show own_S p e below T21 (mkF m 33 (own_ARRRIIF a1 a2 a3 (0 : Int32) (0 : Int32) v0) [(.float v0)]) _
        refine XS.aloadN X21.here hx rfl (hb hby d7_33) rfl rfl ?_
        exact k
      obtain ⟨T34, X34, e34, st34⟩ := getF X21 hx hZ hown (host := "") (Or.inl (own_w hw 51 rfl)) Via.refl e21 F_th (g := (mkF m 34 (own_ARRRIIF a1 a2 a3 (0 : Int32) (0 : Int32) v0) [(.ref a1), (.float v0)])) rfl rfl (hb hby d7_34)
      have sg39 : ∀ t, own_S p e below T34 (mkF m 39 (own_ARRRIIF a1 a2 a3 (0 : Int32) (0 : Int32) v0) [(.int (0 : Int32)), (.ref th), (.float v0)]) t → own_S p e below T34 (mkF m 37 (own_ARRRIIF a1 a2 a3 (0 : Int32) (0 : Int32) v0) [(.ref th), (.float v0)]) t := by
        intro t k
        refine XS.iload X34.here hx rfl (hb hby d7_37) rfl ?_
        exact k
      obtain ⟨cl39, Ar39, qa39, Sa39, Na39, Ha39, Ga39⟩ := id A_th
      have sg82 : ∀ t, own_S p e below T34 (mkF m 82 (own_ARRRIIF a1 a2 a3 (0 : Int32) (0 : Int32) v0) [(.ref a1), (.float v0), (.int (0 : Int32)), (.ref a3)]) t → own_S p e below T34 (mkF m 39 (own_ARRRIIF a1 a2 a3 (0 : Int32) (0 : Int32) v0) [(.int (0 : Int32)), (.ref th), (.float v0)]) t := by
        intro t k
        refine X34.faload hx (j := (0 : Int32)) (v := (.float u0)) (by rw [e34]; exact Ar39.1) (State.isArrayOf_alike hZ.alike Ar39.2.1) Ar39.2.2 (inb_of Sa39 ⟨by decide, by decide⟩) (Ha39 0 (by rw [Sa39]; decide)) (g := (mkF m 39 (own_ARRRIIF a1 a2 a3 (0 : Int32) (0 : Int32) v0) [(.int (0 : Int32)), (.ref th), (.float v0)])) rfl rfl (hb hby d7_39) _ ?_
        show own_S p e below T34 (mkF m 40 (own_ARRRIIF a1 a2 a3 (0 : Int32) (0 : Int32) v0) [(.float u0), (.float v0)]) _
        refine XS.fcmpS X34.here hx rfl (hb hby d7_40) rfl rfl ?_
        show own_S p e below T34 (mkF m 41 (own_ARRRIIF a1 a2 a3 (0 : Int32) (0 : Int32) v0) [(.int (cmpValue (FP.fcmp v0 u0) .l))]) _
        refine XS.ifYes X34.here hx rfl (pc0 := 41) (pc' := 74) rfl (hb hby d7_41) rfl ((if0 _ _).trans (flt (fun q => ho0 (Or.inr q) : ¬ ((0 : Int32) < (cmpValue (FP.fcmp v0 u0) .l)))).2.2.2) (by decide) (by decide) ?_
        show own_S p e below T34 (mkF m 74 (own_ARRRIIF a1 a2 a3 (0 : Int32) (0 : Int32) v0) []) _
        refine XS.aloadN X34.here hx rfl (hb hby d7_74) rfl rfl ?_
        show own_S p e below T34 (mkF m 75 (own_ARRRIIF a1 a2 a3 (0 : Int32) (0 : Int32) v0) [(.ref a3)]) _
        refine XS.iloadN X34.here hx rfl (hb hby d7_75) rfl ?_
        show own_S p e below T34 (mkF m 76 (own_ARRRIIF a1 a2 a3 (0 : Int32) (0 : Int32) v0) [(.int (0 : Int32)), (.ref a3)]) _
        refine XS.iload X34.here hx rfl (hb hby d7_76) rfl ?_
        show own_S p e below T34 (mkF m 78 (own_ARRRIIF a1 a2 a3 (0 : Int32) (0 : Int32) v0) [(.int (0 : Int32)), (.int (0 : Int32)), (.ref a3)]) _
        refine XS.iadd X34.here hx rfl (hb hby d7_78) rfl ?_
        show own_S p e below T34 (mkF m 79 (own_ARRRIIF a1 a2 a3 (0 : Int32) (0 : Int32) v0) [(.int (0 : Int32)), (.ref a3)]) _
        refine XS.fload X34.here hx rfl (hb hby d7_79) rfl ?_
        show own_S p e below T34 (mkF m 81 (own_ARRRIIF a1 a2 a3 (0 : Int32) (0 : Int32) v0) [(.float v0), (.int (0 : Int32)), (.ref a3)]) _
        refine XS.aloadN X34.here hx rfl (hb hby d7_81) rfl rfl ?_
        exact k
      obtain ⟨T82, X82, e82, st82⟩ := getF X34 hx hZ hown (host := "") (Or.inl (own_w hw 49 rfl)) Via.refl e34 F_tl (g := (mkF m 82 (own_ARRRIIF a1 a2 a3 (0 : Int32) (0 : Int32) v0) [(.ref a1), (.float v0), (.int (0 : Int32)), (.ref a3)])) rfl rfl (hb hby d7_82)
      have sg87 : ∀ t, own_S p e below T82 (mkF m 87 (own_ARRRIIF a1 a2 a3 (0 : Int32) (0 : Int32) v0) [(.int (0 : Int32)), (.ref tl), (.float v0), (.int (0 : Int32)), (.ref a3)]) t → own_S p e below T82 (mkF m 85 (own_ARRRIIF a1 a2 a3 (0 : Int32) (0 : Int32) v0) [(.ref tl), (.float v0), (.int (0 : Int32)), (.ref a3)]) t := by
        intro t k
        refine XS.iload X82.here hx rfl (hb hby d7_85) rfl ?_
        exact k
      obtain ⟨cl87, Ar87, qa87, Sa87, Na87, Ha87, Ga87⟩ := id A_tl
      have sg89 : ∀ t, own_S p e below T82 (mkF m 89 (own_ARRRIIF a1 a2 a3 (0 : Int32) (0 : Int32) v0) [(.ref a1), (.float l0), (.float v0), (.int (0 : Int32)), (.ref a3)]) t → own_S p e below T82 (mkF m 87 (own_ARRRIIF a1 a2 a3 (0 : Int32) (0 : Int32) v0) [(.int (0 : Int32)), (.ref tl), (.float v0), (.int (0 : Int32)), (.ref a3)]) t := by
        intro t k
        refine X82.faload hx (j := (0 : Int32)) (v := (.float l0)) (by rw [e82]; exact Ar87.1) (State.isArrayOf_alike hZ.alike Ar87.2.1) Ar87.2.2 (inb_of Sa87 ⟨by decide, by decide⟩) (Ha87 0 (by rw [Sa87]; decide)) (g := (mkF m 87 (own_ARRRIIF a1 a2 a3 (0 : Int32) (0 : Int32) v0) [(.int (0 : Int32)), (.ref tl), (.float v0), (.int (0 : Int32)), (.ref a3)])) rfl rfl (hb hby d7_87) _ ?_
        show own_S p e below T82 (mkF m 88 (own_ARRRIIF a1 a2 a3 (0 : Int32) (0 : Int32) v0) [(.float l0), (.float v0), (.int (0 : Int32)), (.ref a3)]) _
        refine XS.aloadN X82.here hx rfl (hb hby d7_88) rfl rfl ?_
        exact k
      obtain ⟨T89, X89, e89, st89⟩ := getF X82 hx hZ hown (host := "") (Or.inl (own_w hw 53 rfl)) Via.refl e82 F_ts (g := (mkF m 89 (own_ARRRIIF a1 a2 a3 (0 : Int32) (0 : Int32) v0) [(.ref a1), (.float l0), (.float v0), (.int (0 : Int32)), (.ref a3)])) rfl rfl (hb hby d7_89)
      have sg94 : ∀ t, own_S p e below T89 (mkF m 94 (own_ARRRIIF a1 a2 a3 (0 : Int32) (0 : Int32) v0) [(.int (0 : Int32)), (.ref ts), (.float l0), (.float v0), (.int (0 : Int32)), (.ref a3)]) t → own_S p e below T89 (mkF m 92 (own_ARRRIIF a1 a2 a3 (0 : Int32) (0 : Int32) v0) [(.ref ts), (.float l0), (.float v0), (.int (0 : Int32)), (.ref a3)]) t := by
        intro t k
        refine XS.iload X89.here hx rfl (hb hby d7_92) rfl ?_
        exact k
      obtain ⟨cl94, Ar94, qa94, Sa94, Na94, Ha94, Ga94⟩ := id A_ts
      have sg95 : ∀ t, own_S p e below T89 (mkF m 95 (own_ARRRIIF a1 a2 a3 (0 : Int32) (0 : Int32) v0) [(.float s0), (.float l0), (.float v0), (.int (0 : Int32)), (.ref a3)]) t → own_S p e below T89 (mkF m 94 (own_ARRRIIF a1 a2 a3 (0 : Int32) (0 : Int32) v0) [(.int (0 : Int32)), (.ref ts), (.float l0), (.float v0), (.int (0 : Int32)), (.ref a3)]) t := by
        intro t k
        refine X89.faload hx (j := (0 : Int32)) (v := (.float s0)) (by rw [e89]; exact Ar94.1) (State.isArrayOf_alike hZ.alike Ar94.2.1) Ar94.2.2 (inb_of Sa94 ⟨by decide, by decide⟩) (Ha94 0 (by rw [Sa94]; decide)) (g := (mkF m 94 (own_ARRRIIF a1 a2 a3 (0 : Int32) (0 : Int32) v0) [(.int (0 : Int32)), (.ref ts), (.float l0), (.float v0), (.int (0 : Int32)), (.ref a3)])) rfl rfl (hb hby d7_94) _ ?_
        exact k
      obtain ⟨_, _, ⟨T95, L95, k95, n95⟩, -, X95, ⟨Lc95, hQ95, l95, y95, z95⟩, st95⟩ := Jvm.LawKit.callS X89 hx (y := (⟨"com/example/reverie/reverie/ScalarQuantizer", "code", "(FFF)I"⟩ : MethodName)) hown (mvT hZ (own_w hw 85 rfl)) (mvT hZ (own_w hw 86 rfl)) (mvT hZ (own_w hw 8 rfl)) (mvT hZ (own_w hw 87 rfl)) (by decide) (backOf (W := 2) (rm12 l Z a0 hw [] v0 l0 s0 h0 n0 Z0 hv0.fin (ok0.in hv0 ho0).1.fin (ok0.in hv0 ho0).2.2) hZ (own_w hw 87 rfl) (own_w hw 8 rfl) (by decide) (by decide)) (g := (mkF m 95 (own_ARRRIIF a1 a2 a3 (0 : Int32) (0 : Int32) v0) [(.float s0), (.float l0), (.float v0), (.int (0 : Int32)), (.ref a3)])) rfl (by rw [hml]; rfl) (argsL := [(.float v0), (.float l0), (.float s0)]) (rest := [(.int (0 : Int32)), (.ref a3)]) (lenOf pd_7_2 rfl) rfl (by show 2 * 0 + _ ≤ _; exact Nat.le_of_eq rfl) (hb hby d7_95) (fun _ _ => ⟨rfl, e89, (by decide : 0 + 0 ≤ _), (by decide : 0 + 0 ≤ _)⟩)
      dsimp only [Pt.U, Pt.locs, Pt.cells, Pt.slots] at X95 l95 y95 z95 st95 hQ95
      subst l95 y95 z95
      obtain ⟨rfl, N95q, hq95⟩ := hQ95
      have N95 := Fr.app N0 N95q
      obtain ⟨c95, hc95⟩ : ∃ z : Int32, z = (own_code v0 l0 s0) := ⟨_, rfl⟩
      rw [← hc95] at st95
      obtain ⟨k99, hk99⟩ : ∃ z : Int32, z = (c95.toInt8.toInt32) := ⟨_, rfl⟩
      have sg99 : ∀ t, own_S p e below T95 (mkF m 99 (own_ARRRIIF a1 a2 a3 (0 : Int32) (0 : Int32) v0) [(.int k99), (.int (0 : Int32)), (.ref a3)]) t → own_S p e below T95 (mkF m 98 (own_ARRRIIF a1 a2 a3 (0 : Int32) (0 : Int32) v0) [(.int c95), (.int (0 : Int32)), (.ref a3)]) t := by
        intro t k
        rw [hk99] at k
        refine XS.i2b X95.here hx rfl (hb hby d7_98) rfl ?_
        exact k
      have nb_k99 : k99.toInt8.toInt32 = k99 := by rw [hk99]; exact own_i2b2 _
      obtain ⟨cl99, Ar99, qa99, Sa99, Na99, Ha99, Ga99⟩ := id AC
      obtain ⟨T99, h99, X99, e99, W99, st99⟩ := stB X95 hx hZ hq95 Ar99 (j := (0 : Int32)) (inb_of Sa99 ⟨by decide, by decide⟩) (g := (mkF m 99 (own_ARRRIIF a1 a2 a3 (0 : Int32) (0 : Int32) v0) [(.int k99), (.int (0 : Int32)), (.ref a3)])) rfl rfl (hb hby d7_99)
      have V99 : Arv Z h99 a3 kc .byte (2 : Int32) [(.int k99), (.int o1)] (.int (0 : Int32)) := by
        have q := Arv.set Ar99 qa99 Sa99 Na99 Ha99 Ga99 (fits_nar_byte _) W99 0 rfl (Nat.le_of_ble_eq_true rfl)
        rw [nb_k99] at q
        exact q
      have K99 : Keep h0 h99 [a1, tl, th, ts, cS, cD, cL, cH, cC, a3] := K0.wr W99 (Or.inl (List.mem_of_getElem? (i := 9) rfl))
      have Z99 : n0 ≤ h99.size := Nat.le_trans Z0 (Keep.of_wr W99).1
      have N99 := Fr.snoc X99 N95 g_a3
      have sg3_2 : ∀ t, own_S p e below T99 (mkF m 3 (own_ARRRIIF a1 a2 a3 (0 : Int32) (1 : Int32) v0) []) t → own_S p e below T99 (mkF m 100 (own_ARRRIIF a1 a2 a3 (0 : Int32) (0 : Int32) v0) []) t := by
        intro t k
        refine XS.iinc X99.here hx rfl (hb hby d7_100) rfl (l' := (own_ARRRIIF a1 a2 a3 (0 : Int32) (1 : Int32) v0)) rfl ?_
        show own_S p e below T99 (mkF m 103 (own_ARRRIIF a1 a2 a3 (0 : Int32) (1 : Int32) v0) []) _
        refine XS.goto X99.here hx rfl (pc0 := 103) (pc' := 3) rfl (hb hby d7_103) (by decide) (by decide) ?_
        exact k
      exact ⟨T99, _, _, X99, N99, e99, K99, (by rw [own_l_neg ho0, own_u_neg ho0, own_s_neg ho0, own_h_neg ho0]; exact (⟨_, _, _, _, _, _, _, _, _, _, _, _, _, _, _, _, ND, ⟨G1, G2, G3, G4, G5⟩, (E_q.wr W99), (F_dim.other W99 (Or.inl (Ne.symm n_a3_a1))), (F_tl.other W99 (Or.inl (Ne.symm n_a3_a1))), (F_th.other W99 (Or.inl (Ne.symm n_a3_a1))), (F_ts.other W99 (Or.inl (Ne.symm n_a3_a1))), (F_sl.other W99 (Or.inl (Ne.symm n_a3_a1))), (F_sh.other W99 (Or.inl (Ne.symm n_a3_a1))), (F_ss.other W99 (Or.inl (Ne.symm n_a3_a1))), (F_cS.other W99 (Or.inl (Ne.symm n_a3_a1))), (F_cD.other W99 (Or.inl (Ne.symm n_a3_a1))), (F_cL.other W99 (Or.inl (Ne.symm n_a3_a1))), (F_cH.other W99 (Or.inl (Ne.symm n_a3_a1))), (F_cC.other W99 (Or.inl (Ne.symm n_a3_a1))), (F_ec.other W99 (Or.inl (Ne.symm n_a3_a1))), (by rw [← hkk]; exact (F_cc.other W99 (Or.inl (Ne.symm n_a3_a1)))), (A_tl.other W99 (Ne.symm n_a3_tl)), (A_th.other W99 (Ne.symm n_a3_th)), (A_ts.other W99 (Ne.symm n_a3_ts)), (A_sl.other W99 (Ne.symm n_a3_sl)), (A_sh.other W99 (Ne.symm n_a3_sh)), (A_ss.other W99 (Ne.symm n_a3_ss)), (A_cS.other W99 (Ne.symm n_a3_cS)), (A_cD.other W99 (Ne.symm n_a3_cD)), (A_cL.other W99 (Ne.symm n_a3_cL)), (A_cH.other W99 (Ne.symm n_a3_cH)), (A_cC.other W99 (Ne.symm n_a3_cC))⟩)), (by rw [own_l_neg ho0, own_s_neg ho0]; rw [← hc95, ← hk99]; exact V99), fun t k => (sg6 t (st6 t (sg15 t (sg18 t (sg21 t (st21 t (sg26 t (sg34 t (st34 t (sg39 t (sg82 t (st82 t (sg87 t (sg89 t (st89 t (sg94 t (sg95 t (st95 t (sg99 t (st99 t (sg3_2 t k)))))))))))))))))))))⟩
  have ZE0 : n0 ≤ HE0.size := Nat.le_trans Z0 KE0.1
  obtain ⟨ktl, kth, kts, ksl, ksh, kss, kcS, kcD, kcL, kcH, kcC, g1, g2, g3, g4, g5, ND, ⟨G1, G2, G3, G4, G5⟩, E_q, F_dim, F_tl, F_th, F_ts, F_sl, F_sh, F_ss, F_cS, F_cD, F_cL, F_cH, F_cC, F_ec, F_cc, A_tl, A_th, A_ts, A_sl, A_sh, A_ss, A_cS, A_cD, A_cL, A_cH, A_cC⟩ := id QE0
  have n_a1_tl : a1 ≠ tl := E_q.neArv A_tl (own_w hw 7 rfl)
  have n_a1_th : a1 ≠ th := E_q.neArv A_th (own_w hw 7 rfl)
  have n_a1_ts : a1 ≠ ts := E_q.neArv A_ts (own_w hw 7 rfl)
  have n_a1_sl : a1 ≠ sl := E_q.neArv A_sl (own_w hw 7 rfl)
  have n_a1_sh : a1 ≠ sh := E_q.neArv A_sh (own_w hw 7 rfl)
  have n_a1_ss : a1 ≠ ss := E_q.neArv A_ss (own_w hw 7 rfl)
  have n_a1_cS : a1 ≠ cS := E_q.neArv A_cS (own_w hw 7 rfl)
  have n_a1_cD : a1 ≠ cD := E_q.neArv A_cD (own_w hw 7 rfl)
  have n_a1_cL : a1 ≠ cL := E_q.neArv A_cL (own_w hw 7 rfl)
  have n_a1_cH : a1 ≠ cH := E_q.neArv A_cH (own_w hw 7 rfl)
  have n_a1_cC : a1 ≠ cC := E_q.neArv A_cC (own_w hw 7 rfl)
  obtain ⟨kk, hkk⟩ : ∃ z : Int32, z = Int32.ofNat (own_h n (0 : Int32) v0 l0 u0 hist).length := ⟨_, rfl⟩
  rw [← hkk] at F_cc
  have AVE0 := AV.keep KE0 (List.not_mem_cons_of_ne_of_not_mem n_a2_a1 (List.not_mem_cons_of_ne_of_not_mem n_a2_tl (List.not_mem_cons_of_ne_of_not_mem n_a2_th (List.not_mem_cons_of_ne_of_not_mem n_a2_ts (List.not_mem_cons_of_ne_of_not_mem n_a2_cS (List.not_mem_cons_of_ne_of_not_mem n_a2_cD (List.not_mem_cons_of_ne_of_not_mem n_a2_cL (List.not_mem_cons_of_ne_of_not_mem n_a2_cH (List.not_mem_cons_of_ne_of_not_mem n_a2_cC (List.not_mem_cons_of_ne_of_not_mem n23 List.not_mem_nil))))))))))
  have hlE0 : (own_h n (0 : Int32) v0 l0 u0 hist).length ≤ hist.length + 1 := own_h_len
  refine own_by stE0 ?_
  obtain ⟨TE1, LE1, HE1, XE1, NE1, eE1, KE1, QE1, AE1, stE1⟩ : ∃ (T' : State) (L' : List Loc) (H' : Heap), Stand p l e ({ frames := 3, cells := 0, slots := 0, locals := 70 } : Room) s m #[(.ref a1), (.ref a2), (.ref a3), (.int (0 : Int32))] below meth c T' L' 0 0 ∧ Fr n0 L' ∧ T'.heap = H' ∧ Keep h0 H' [a1, tl, th, ts, cS, cD, cL, cH, cC, a3] ∧ own_Q Z H' a1 tl th ts sl sh ss cS cD cL cH cC n (own_l v0 l0 u0) (own_l v1 l1 u1) (own_u v0 l0 u0) (own_u v1 l1 u1) (own_s v0 l0 u0 s0) (own_s v1 l1 u1 s1) (own_h n (1 : Int32) v1 l1 u1 (own_h n (0 : Int32) v0 l0 u0 hist)) ∧ Arv Z H' a3 kc .byte (2 : Int32) [(.int ((own_code v0 (own_l v0 l0 u0) (own_s v0 l0 u0 s0)).toInt8.toInt32)), (.int ((own_code v1 (own_l v1 l1 u1) (own_s v1 l1 u1 s1)).toInt8.toInt32))] (.int (0 : Int32)) ∧ ∀ t, own_S p e below T' (mkF m 3 (own_ARRRIIF a1 a2 a3 (0 : Int32) (2 : Int32) v1) []) t → own_S p e below TE0 (mkF m 3 (own_ARRRIIF a1 a2 a3 (0 : Int32) (1 : Int32) v0) []) t := by
    have sg6 : ∀ t, own_S p e below TE0 (mkF m 6 (own_ARRRIIF a1 a2 a3 (0 : Int32) (1 : Int32) v0) [(.ref a1), (.int (1 : Int32))]) t → own_S p e below TE0 (mkF m 3 (own_ARRRIIF a1 a2 a3 (0 : Int32) (1 : Int32) v0) []) t := by
      intro t k
      refine XS.iload XE0.here hx rfl (hb hby d7_3) rfl ?_
      show own_S p e below TE0 (mkF m 5 (own_ARRRIIF a1 a2 a3 (0 : Int32) (1 : Int32) v0) [(.int (1 : Int32))]) _
      refine XS.aloadN XE0.here hx rfl (hb hby d7_5) rfl rfl ?_
      exact k
    obtain ⟨T6, X6, e6, st6⟩ := getF XE0 hx hZ hown (host := "") (Or.inl (own_w hw 38 rfl)) Via.refl eE0 F_dim (g := (mkF m 6 (own_ARRRIIF a1 a2 a3 (0 : Int32) (1 : Int32) v0) [(.ref a1), (.int (1 : Int32))])) rfl rfl (hb hby d7_6)
    have sg15 : ∀ t, own_S p e below T6 (mkF m 15 (own_ARRRIIF a1 a2 a3 (0 : Int32) (1 : Int32) v0) [(.int (1 : Int32)), (.ref a2)]) t → own_S p e below T6 (mkF m 9 (own_ARRRIIF a1 a2 a3 (0 : Int32) (1 : Int32) v0) [(.int (2 : Int32)), (.int (1 : Int32))]) t := by
      intro t k
      refine XS.icmpNo X6.here hx rfl (hb hby d7_9) rfl (tlt (by decide : (1 : Int32) < (2 : Int32))).2.1 ?_
      show own_S p e below T6 (mkF m 12 (own_ARRRIIF a1 a2 a3 (0 : Int32) (1 : Int32) v0) []) _
      refine XS.aloadN X6.here hx rfl (hb hby d7_12) rfl rfl ?_
      show own_S p e below T6 (mkF m 13 (own_ARRRIIF a1 a2 a3 (0 : Int32) (1 : Int32) v0) [(.ref a2)]) _
      refine XS.iload X6.here hx rfl (hb hby d7_13) rfl ?_
      exact k
    obtain ⟨cl15, Ar15, qa15, Sa15, Na15, Ha15, Ga15⟩ := id AVE0
    have sg18 : ∀ t, own_S p e below T6 (mkF m 18 (own_ARRRIIF a1 a2 a3 (0 : Int32) (1 : Int32) v1) []) t → own_S p e below T6 (mkF m 15 (own_ARRRIIF a1 a2 a3 (0 : Int32) (1 : Int32) v0) [(.int (1 : Int32)), (.ref a2)]) t := by
      intro t k
      refine X6.faload hx (j := (1 : Int32)) (v := (.float v1)) (by rw [e6]; exact Ar15.1) (State.isArrayOf_alike hZ.alike Ar15.2.1) Ar15.2.2 (inb_of Sa15 ⟨by decide, by decide⟩) (Ha15 1 (by rw [Sa15]; decide)) (g := (mkF m 15 (own_ARRRIIF a1 a2 a3 (0 : Int32) (1 : Int32) v0) [(.int (1 : Int32)), (.ref a2)])) rfl rfl (hb hby d7_15) _ ?_
      show own_S p e below T6 (mkF m 16 (own_ARRRIIF a1 a2 a3 (0 : Int32) (1 : Int32) v0) [(.float v1)]) _
      refine XS.fstore X6.here hx rfl (hb hby d7_16) rfl (l' := (own_ARRRIIF a1 a2 a3 (0 : Int32) (1 : Int32) v1)) rfl ?_
      exact k
    by_cases ho1 : own_out v1 l1 u1
    · obtain ⟨Tj, Xj, ej, stj⟩ : ∃ T' : State, Stand p l e ({ frames := 3, cells := 0, slots := 0, locals := 70 } : Room) s m #[(.ref a1), (.ref a2), (.ref a3), (.int (0 : Int32))] below meth c T' LE0 0 0 ∧ T'.heap = HE0 ∧ ∀ t, own_S p e below T' (mkF m 44 (own_ARRRIIF a1 a2 a3 (0 : Int32) (1 : Int32) v1) []) t → own_S p e below T6 (mkF m 18 (own_ARRRIIF a1 a2 a3 (0 : Int32) (1 : Int32) v1) []) t := by
        have sg21 : ∀ t, own_S p e below T6 (mkF m 21 (own_ARRRIIF a1 a2 a3 (0 : Int32) (1 : Int32) v1) [(.ref a1), (.float v1)]) t → own_S p e below T6 (mkF m 18 (own_ARRRIIF a1 a2 a3 (0 : Int32) (1 : Int32) v1) []) t := by
          intro t k
          refine XS.fload X6.here hx rfl (hb hby d7_18) rfl ?_
          show own_S p e below T6 (mkF m 20 (own_ARRRIIF a1 a2 a3 (0 : Int32) (1 : Int32) v1) [(.float v1)]) _
          refine XS.aloadN X6.here hx rfl (hb hby d7_20) rfl rfl ?_
          exact k
        obtain ⟨T21, X21, e21, st21⟩ := getF X6 hx hZ hown (host := "") (Or.inl (own_w hw 49 rfl)) Via.refl e6 F_tl (g := (mkF m 21 (own_ARRRIIF a1 a2 a3 (0 : Int32) (1 : Int32) v1) [(.ref a1), (.float v1)])) rfl rfl (hb hby d7_21)
        have sg26 : ∀ t, own_S p e below T21 (mkF m 26 (own_ARRRIIF a1 a2 a3 (0 : Int32) (1 : Int32) v1) [(.int (1 : Int32)), (.ref tl), (.float v1)]) t → own_S p e below T21 (mkF m 24 (own_ARRRIIF a1 a2 a3 (0 : Int32) (1 : Int32) v1) [(.ref tl), (.float v1)]) t := by
          intro t k
          refine XS.iload X21.here hx rfl (hb hby d7_24) rfl ?_
          exact k
        obtain ⟨cl26, Ar26, qa26, Sa26, Na26, Ha26, Ga26⟩ := id A_tl
        have sg28 : ∀ t, own_S p e below T21 (mkF m 28 (own_ARRRIIF a1 a2 a3 (0 : Int32) (1 : Int32) v1) [(.int (cmpValue (FP.fcmp v1 l1) .g))]) t → own_S p e below T21 (mkF m 26 (own_ARRRIIF a1 a2 a3 (0 : Int32) (1 : Int32) v1) [(.int (1 : Int32)), (.ref tl), (.float v1)]) t := by
          intro t k
          refine X21.faload hx (j := (1 : Int32)) (v := (.float l1)) (by rw [e21]; exact Ar26.1) (State.isArrayOf_alike hZ.alike Ar26.2.1) Ar26.2.2 (inb_of Sa26 ⟨by decide, by decide⟩) (Ha26 1 (by rw [Sa26]; decide)) (g := (mkF m 26 (own_ARRRIIF a1 a2 a3 (0 : Int32) (1 : Int32) v1) [(.int (1 : Int32)), (.ref tl), (.float v1)])) rfl rfl (hb hby d7_26) _ ?_
          show own_S p e below T21 (mkF m 27 (own_ARRRIIF a1 a2 a3 (0 : Int32) (1 : Int32) v1) [(.float l1), (.float v1)]) _
          refine XS.fcmpS X21.here hx rfl (hb hby d7_27) rfl rfl ?_
          exact k
        by_cases hc28 : (cmpValue (FP.fcmp v1 l1) .g) < (0 : Int32)
        · have sg44 : ∀ t, own_S p e below T21 (mkF m 44 (own_ARRRIIF a1 a2 a3 (0 : Int32) (1 : Int32) v1) []) t → own_S p e below T21 (mkF m 28 (own_ARRRIIF a1 a2 a3 (0 : Int32) (1 : Int32) v1) [(.int (cmpValue (FP.fcmp v1 l1) .g))]) t := by
            intro t k
            refine XS.ifYes X21.here hx rfl (pc0 := 28) (pc' := 44) rfl (hb hby d7_28) rfl ((if0 _ _).trans (tlt hc28).1) (by decide) (by decide) ?_
            exact k
          exact ⟨T21, X21, e21, fun t k => (sg21 t (st21 t (sg26 t (sg28 t (sg44 t k)))))⟩
        · have sg34 : ∀ t, own_S p e below T21 (mkF m 34 (own_ARRRIIF a1 a2 a3 (0 : Int32) (1 : Int32) v1) [(.ref a1), (.float v1)]) t → own_S p e below T21 (mkF m 28 (own_ARRRIIF a1 a2 a3 (0 : Int32) (1 : Int32) v1) [(.int (cmpValue (FP.fcmp v1 l1) .g))]) t := by
            intro t k
            refine XS.ifNo X21.here hx rfl (hb hby d7_28) rfl ((if0 _ _).trans (flt hc28).1) ?_
            show own_S p e below T21 (mkF m 31 (own_ARRRIIF a1 a2 a3 (0 : Int32) (1 : Int32) v1) []) _
            refine XS.fload X21.here hx rfl (hb hby d7_31) rfl ?_
            show own_S p e below T21 (mkF m 33 (own_ARRRIIF a1 a2 a3 (0 : Int32) (1 : Int32) v1) [(.float v1)]) _
            refine XS.aloadN X21.here hx rfl (hb hby d7_33) rfl rfl ?_
            exact k
          obtain ⟨T34, X34, e34, st34⟩ := getF X21 hx hZ hown (host := "") (Or.inl (own_w hw 51 rfl)) Via.refl e21 F_th (g := (mkF m 34 (own_ARRRIIF a1 a2 a3 (0 : Int32) (1 : Int32) v1) [(.ref a1), (.float v1)])) rfl rfl (hb hby d7_34)
          have sg39 : ∀ t, own_S p e below T34 (mkF m 39 (own_ARRRIIF a1 a2 a3 (0 : Int32) (1 : Int32) v1) [(.int (1 : Int32)), (.ref th), (.float v1)]) t → own_S p e below T34 (mkF m 37 (own_ARRRIIF a1 a2 a3 (0 : Int32) (1 : Int32) v1) [(.ref th), (.float v1)]) t := by
            intro t k
            refine XS.iload X34.here hx rfl (hb hby d7_37) rfl ?_
            exact k
          obtain ⟨cl39, Ar39, qa39, Sa39, Na39, Ha39, Ga39⟩ := id A_th
          have sg44 : ∀ t, own_S p e below T34 (mkF m 44 (own_ARRRIIF a1 a2 a3 (0 : Int32) (1 : Int32) v1) []) t → own_S p e below T34 (mkF m 39 (own_ARRRIIF a1 a2 a3 (0 : Int32) (1 : Int32) v1) [(.int (1 : Int32)), (.ref th), (.float v1)]) t := by
            intro t k
            refine X34.faload hx (j := (1 : Int32)) (v := (.float u1)) (by rw [e34]; exact Ar39.1) (State.isArrayOf_alike hZ.alike Ar39.2.1) Ar39.2.2 (inb_of Sa39 ⟨by decide, by decide⟩) (Ha39 1 (by rw [Sa39]; decide)) (g := (mkF m 39 (own_ARRRIIF a1 a2 a3 (0 : Int32) (1 : Int32) v1) [(.int (1 : Int32)), (.ref th), (.float v1)])) rfl rfl (hb hby d7_39) _ ?_
            show own_S p e below T34 (mkF m 40 (own_ARRRIIF a1 a2 a3 (0 : Int32) (1 : Int32) v1) [(.float u1), (.float v1)]) _
            refine XS.fcmpS X34.here hx rfl (hb hby d7_40) rfl rfl ?_
            show own_S p e below T34 (mkF m 41 (own_ARRRIIF a1 a2 a3 (0 : Int32) (1 : Int32) v1) [(.int (cmpValue (FP.fcmp v1 u1) .l))]) _
            refine XS.ifNo X34.here hx rfl (hb hby d7_41) rfl ((if0 _ _).trans (tlt (ho1.resolve_left hc28 : (0 : Int32) < (cmpValue (FP.fcmp v1 u1) .l))).2.2.2) ?_
            exact k
          exact ⟨T34, X34, e34, fun t k => (sg21 t (st21 t (sg26 t (sg28 t (sg34 t (st34 t (sg39 t (sg44 t k))))))))⟩
      have sg48 : ∀ t, own_S p e below Tj (mkF m 48 (own_ARRRIIF a1 a2 a3 (0 : Int32) (1 : Int32) v1) [(.ref a1), (.int (1 : Int32)), (.ref a1)]) t → own_S p e below Tj (mkF m 44 (own_ARRRIIF a1 a2 a3 (0 : Int32) (1 : Int32) v1) []) t := by
        intro t k
        refine XS.aloadN Xj.here hx rfl (hb hby d7_44) rfl rfl ?_
        show own_S p e below Tj (mkF m 45 (own_ARRRIIF a1 a2 a3 (0 : Int32) (1 : Int32) v1) [(.ref a1)]) _
        refine XS.iload Xj.here hx rfl (hb hby d7_45) rfl ?_
        show own_S p e below Tj (mkF m 47 (own_ARRRIIF a1 a2 a3 (0 : Int32) (1 : Int32) v1) [(.int (1 : Int32)), (.ref a1)]) _
        refine XS.aloadN Xj.here hx rfl (hb hby d7_47) rfl rfl ?_
        exact k
      obtain ⟨T48, X48, e48, st48⟩ := getF Xj hx hZ hown (host := "") (Or.inl (own_w hw 49 rfl)) Via.refl ej F_tl (g := (mkF m 48 (own_ARRRIIF a1 a2 a3 (0 : Int32) (1 : Int32) v1) [(.ref a1), (.int (1 : Int32)), (.ref a1)])) rfl rfl (hb hby d7_48)
      have sg53 : ∀ t, own_S p e below T48 (mkF m 53 (own_ARRRIIF a1 a2 a3 (0 : Int32) (1 : Int32) v1) [(.int (1 : Int32)), (.ref tl), (.int (1 : Int32)), (.ref a1)]) t → own_S p e below T48 (mkF m 51 (own_ARRRIIF a1 a2 a3 (0 : Int32) (1 : Int32) v1) [(.ref tl), (.int (1 : Int32)), (.ref a1)]) t := by
        intro t k
        refine XS.iload X48.here hx rfl (hb hby d7_51) rfl ?_
        exact k
      obtain ⟨cl53, Ar53, qa53, Sa53, Na53, Ha53, Ga53⟩ := id A_tl
      have sg56 : ∀ t, own_S p e below T48 (mkF m 56 (own_ARRRIIF a1 a2 a3 (0 : Int32) (1 : Int32) v1) [(.float v1), (.float l1), (.int (1 : Int32)), (.ref a1)]) t → own_S p e below T48 (mkF m 53 (own_ARRRIIF a1 a2 a3 (0 : Int32) (1 : Int32) v1) [(.int (1 : Int32)), (.ref tl), (.int (1 : Int32)), (.ref a1)]) t := by
        intro t k
        refine X48.faload hx (j := (1 : Int32)) (v := (.float l1)) (by rw [e48]; exact Ar53.1) (State.isArrayOf_alike hZ.alike Ar53.2.1) Ar53.2.2 (inb_of Sa53 ⟨by decide, by decide⟩) (Ha53 1 (by rw [Sa53]; decide)) (g := (mkF m 53 (own_ARRRIIF a1 a2 a3 (0 : Int32) (1 : Int32) v1) [(.int (1 : Int32)), (.ref tl), (.int (1 : Int32)), (.ref a1)])) rfl rfl (hb hby d7_53) _ ?_
        show own_S p e below T48 (mkF m 54 (own_ARRRIIF a1 a2 a3 (0 : Int32) (1 : Int32) v1) [(.float l1), (.int (1 : Int32)), (.ref a1)]) _
        refine XS.fload X48.here hx rfl (hb hby d7_54) rfl ?_
        exact k
      obtain ⟨T56, X56, e56, st56⟩ := natS X48 hx hZ hown (y := (⟨"java/lang/Math", "min", "(FF)F"⟩ : MethodName)) (own_w hw 66 rfl) (own_w hw 67 rfl) (own_w hw 68 rfl) (own_w hw 69 rfl) (by decide) e48 (W := 2) (F := fun a' => a' = #[.float l1, .float v1] ∧ NoNaN32 l1 ∧ NoNaN32 v1) (fun hc => Jvm.Free.Fl.Abs.minF_pays l1 v1 hc (by decide) (by decide)) (g := (mkF m 56 (own_ARRRIIF a1 a2 a3 (0 : Int32) (1 : Int32) v1) [(.float v1), (.float l1), (.int (1 : Int32)), (.ref a1)])) rfl (by rw [hml]; rfl) (argsL := [.float l1, .float v1]) (rest := [(.int (1 : Int32)), (.ref a1)]) (lenOf pd_7_0 rfl) rfl (by show 2 * 0 + _ ≤ _; exact Nat.le_of_eq rfl) (hb hby d7_56) (by decide) (by decide) ⟨rfl, ok1.nn.1, hv1.fin.noNaN⟩ rfl
      have sg60 : ∀ t, own_S p e below T56 (mkF m 60 (own_ARRRIIF a1 a2 a3 (0 : Int32) (1 : Int32) v1) [(.ref a1), (.float (Jvm.Native.java_lang_Math.nans.pick32 false l1 v1)), (.int (1 : Int32)), (.ref a1)]) t → own_S p e below T56 (mkF m 59 (own_ARRRIIF a1 a2 a3 (0 : Int32) (1 : Int32) v1) [(.float (Jvm.Native.java_lang_Math.nans.pick32 false l1 v1)), (.int (1 : Int32)), (.ref a1)]) t := by
        intro t k
        refine XS.aloadN X56.here hx rfl (hb hby d7_59) rfl rfl ?_
        exact k
      obtain ⟨T60, X60, e60, st60⟩ := getF X56 hx hZ hown (host := "") (Or.inl (own_w hw 51 rfl)) Via.refl e56 F_th (g := (mkF m 60 (own_ARRRIIF a1 a2 a3 (0 : Int32) (1 : Int32) v1) [(.ref a1), (.float (Jvm.Native.java_lang_Math.nans.pick32 false l1 v1)), (.int (1 : Int32)), (.ref a1)])) rfl rfl (hb hby d7_60)
      have sg65 : ∀ t, own_S p e below T60 (mkF m 65 (own_ARRRIIF a1 a2 a3 (0 : Int32) (1 : Int32) v1) [(.int (1 : Int32)), (.ref th), (.float (Jvm.Native.java_lang_Math.nans.pick32 false l1 v1)), (.int (1 : Int32)), (.ref a1)]) t → own_S p e below T60 (mkF m 63 (own_ARRRIIF a1 a2 a3 (0 : Int32) (1 : Int32) v1) [(.ref th), (.float (Jvm.Native.java_lang_Math.nans.pick32 false l1 v1)), (.int (1 : Int32)), (.ref a1)]) t := by
        intro t k
        refine XS.iload X60.here hx rfl (hb hby d7_63) rfl ?_
        exact k
      obtain ⟨cl65, Ar65, qa65, Sa65, Na65, Ha65, Ga65⟩ := id A_th
      have sg68 : ∀ t, own_S p e below T60 (mkF m 68 (own_ARRRIIF a1 a2 a3 (0 : Int32) (1 : Int32) v1) [(.float v1), (.float u1), (.float (Jvm.Native.java_lang_Math.nans.pick32 false l1 v1)), (.int (1 : Int32)), (.ref a1)]) t → own_S p e below T60 (mkF m 65 (own_ARRRIIF a1 a2 a3 (0 : Int32) (1 : Int32) v1) [(.int (1 : Int32)), (.ref th), (.float (Jvm.Native.java_lang_Math.nans.pick32 false l1 v1)), (.int (1 : Int32)), (.ref a1)]) t := by
        intro t k
        refine X60.faload hx (j := (1 : Int32)) (v := (.float u1)) (by rw [e60]; exact Ar65.1) (State.isArrayOf_alike hZ.alike Ar65.2.1) Ar65.2.2 (inb_of Sa65 ⟨by decide, by decide⟩) (Ha65 1 (by rw [Sa65]; decide)) (g := (mkF m 65 (own_ARRRIIF a1 a2 a3 (0 : Int32) (1 : Int32) v1) [(.int (1 : Int32)), (.ref th), (.float (Jvm.Native.java_lang_Math.nans.pick32 false l1 v1)), (.int (1 : Int32)), (.ref a1)])) rfl rfl (hb hby d7_65) _ ?_
        show own_S p e below T60 (mkF m 66 (own_ARRRIIF a1 a2 a3 (0 : Int32) (1 : Int32) v1) [(.float u1), (.float (Jvm.Native.java_lang_Math.nans.pick32 false l1 v1)), (.int (1 : Int32)), (.ref a1)]) _
        refine XS.fload X60.here hx rfl (hb hby d7_66) rfl ?_
        exact k
      obtain ⟨T68, X68, e68, st68⟩ := natS X60 hx hZ hown (y := (⟨"java/lang/Math", "max", "(FF)F"⟩ : MethodName)) (own_w hw 70 rfl) (own_w hw 71 rfl) (own_w hw 68 rfl) (own_w hw 72 rfl) (by decide) e60 (W := 3) (F := fun a' => a' = #[.float u1, .float v1] ∧ NoNaN32 u1 ∧ NoNaN32 v1) (fun hc => Jvm.Free.Fl.Abs.maxF_pays u1 v1 hc (by decide) (by decide)) (g := (mkF m 68 (own_ARRRIIF a1 a2 a3 (0 : Int32) (1 : Int32) v1) [(.float v1), (.float u1), (.float (Jvm.Native.java_lang_Math.nans.pick32 false l1 v1)), (.int (1 : Int32)), (.ref a1)])) rfl (by rw [hml]; rfl) (argsL := [.float u1, .float v1]) (rest := [(.float (Jvm.Native.java_lang_Math.nans.pick32 false l1 v1)), (.int (1 : Int32)), (.ref a1)]) (lenOf pd_7_0 rfl) rfl (by show 2 * 0 + _ ≤ _; exact Nat.le_of_eq rfl) (hb hby d7_68) (by decide) (by decide) ⟨rfl, ok1.nn.2, hv1.fin.noNaN⟩ rfl
      obtain ⟨cq71, q71, q71'⟩ := E_q.cell
      obtain ⟨_, _, ⟨T71, L71, k71, n71⟩, -, X71, ⟨Lc71, hQ71, l71, y71, z71⟩, st71⟩ := X68.privateBack hx (y := (⟨"com/example/reverie/reverie/ScalarQuantizer", "setRange", "(IFF)V"⟩ : MethodName)) hown (mvT hZ (own_w hw 73 rfl)) (mvT hZ (own_w hw 74 rfl)) (own_selp (z := (⟨"com/example/reverie/reverie/ScalarQuantizer", "encode", "([F[BI)V"⟩ : MethodName)) (Cond.privateMethod_at (mvP hZ (own_w hw 75 rfl) (args := #[]))) (mvT hZ (own_w hw 74 rfl)) (mvT hZ (own_w hw 64 rfl)) rfl (by decide)) (Cond.privateMethod_at (mvP hZ (own_w hw 75 rfl) (args := #[]))) (mvT hZ (own_w hw 76 rfl)) (by decide) (backOf (W := 0) (rm101 l Z a0 hw [] a1 (Jvm.Native.java_lang_Math.nans.pick32 false l1 v1) (Jvm.Native.java_lang_Math.nans.pick32 true u1 v1) tl th ts sl sh ss cS cD cL cH cC n (own_l v0 l0 u0) l1 (own_u v0 l0 u0) u1 (own_s v0 l0 u0 s0) s1 (own_h n (0 : Int32) v0 l0 u0 hist) HE0 n0 ZE0 (ok1.pk hv1).1 (ok1.pk hv1).2 (⟨_, _, _, _, _, _, _, _, _, _, _, _, _, _, _, _, ND, ⟨G1, G2, G3, G4, G5⟩, E_q, F_dim, F_tl, F_th, F_ts, F_sl, F_sh, F_ss, F_cS, F_cD, F_cL, F_cH, F_cC, F_ec, (by rw [← hkk]; exact F_cc), A_tl, A_th, A_ts, A_sl, A_sh, A_ss, A_cS, A_cD, A_cL, A_cH, A_cC⟩) (by omega) ge) hZ (own_w hw 76 rfl) (own_w hw 8 rfl) (by decide) (by decide)) (g := (mkF m 71 (own_ARRRIIF a1 a2 a3 (0 : Int32) (1 : Int32) v1) [(.float (Jvm.Native.java_lang_Math.nans.pick32 true u1 v1)), (.float (Jvm.Native.java_lang_Math.nans.pick32 false l1 v1)), (.int (1 : Int32)), (.ref a1)])) rfl (by rw [hml]; rfl) (Steps.refl _) (a := a1) (by rw [e68]; exact q71) q71' (argsL := [(.int (1 : Int32)), (.float (Jvm.Native.java_lang_Math.nans.pick32 false l1 v1)), (.float (Jvm.Native.java_lang_Math.nans.pick32 true u1 v1))]) (rest := []) (lenOf pd_7_1 rfl) rfl (by show 2 * 0 + _ ≤ _; exact Nat.le_of_eq rfl) (hb hby d7_71) (fun _ _ => ⟨rfl, e68, (by decide : 0 + 0 ≤ _), (by decide : 0 + 0 ≤ _)⟩)
      dsimp only [Pt.U, Pt.locs, Pt.cells, Pt.slots] at X71 l71 y71 z71 st71 hQ71
      subst l71 y71 z71
      obtain ⟨rfl, N71q, Kq71, QQ71⟩ := hQ71
      have N71 := Fr.app NE0 N71q
      have fc := (A_sl.keep Kq71 (List.not_mem_cons_of_ne_of_not_mem (Ne.symm n_a1_sl) (List.not_mem_cons_of_ne_of_not_mem (Ne.symm ND.2.2.1) (List.not_mem_cons_of_ne_of_not_mem (Ne.symm ND.2.2.2.2.2.2.2.2.2.2.2.1) (List.not_mem_cons_of_ne_of_not_mem (Ne.symm ND.2.2.2.2.2.2.2.2.2.2.2.2.2.2.2.2.2.2.2.1) (List.not_mem_cons_of_ne_of_not_mem ND.2.2.2.2.2.2.2.2.2.2.2.2.2.2.2.2.2.2.2.2.2.2.2.2.2.2.2.2.2.1 (List.not_mem_cons_of_ne_of_not_mem ND.2.2.2.2.2.2.2.2.2.2.2.2.2.2.2.2.2.2.2.2.2.2.2.2.2.2.2.2.2.2.1 (List.not_mem_cons_of_ne_of_not_mem ND.2.2.2.2.2.2.2.2.2.2.2.2.2.2.2.2.2.2.2.2.2.2.2.2.2.2.2.2.2.2.2.1 (List.not_mem_cons_of_ne_of_not_mem ND.2.2.2.2.2.2.2.2.2.2.2.2.2.2.2.2.2.2.2.2.2.2.2.2.2.2.2.2.2.2.2.2.1 (List.not_mem_cons_of_ne_of_not_mem ND.2.2.2.2.2.2.2.2.2.2.2.2.2.2.2.2.2.2.2.2.2.2.2.2.2.2.2.2.2.2.2.2.2.1 List.not_mem_nil))))))))))
      have fc_2 := (A_sh.keep Kq71 (List.not_mem_cons_of_ne_of_not_mem (Ne.symm n_a1_sh) (List.not_mem_cons_of_ne_of_not_mem (Ne.symm ND.2.2.2.1) (List.not_mem_cons_of_ne_of_not_mem (Ne.symm ND.2.2.2.2.2.2.2.2.2.2.2.2.1) (List.not_mem_cons_of_ne_of_not_mem (Ne.symm ND.2.2.2.2.2.2.2.2.2.2.2.2.2.2.2.2.2.2.2.2.1) (List.not_mem_cons_of_ne_of_not_mem ND.2.2.2.2.2.2.2.2.2.2.2.2.2.2.2.2.2.2.2.2.2.2.2.2.2.2.2.2.2.2.2.2.2.2.2.1 (List.not_mem_cons_of_ne_of_not_mem ND.2.2.2.2.2.2.2.2.2.2.2.2.2.2.2.2.2.2.2.2.2.2.2.2.2.2.2.2.2.2.2.2.2.2.2.2.1 (List.not_mem_cons_of_ne_of_not_mem ND.2.2.2.2.2.2.2.2.2.2.2.2.2.2.2.2.2.2.2.2.2.2.2.2.2.2.2.2.2.2.2.2.2.2.2.2.2.1 (List.not_mem_cons_of_ne_of_not_mem ND.2.2.2.2.2.2.2.2.2.2.2.2.2.2.2.2.2.2.2.2.2.2.2.2.2.2.2.2.2.2.2.2.2.2.2.2.2.2.1 (List.not_mem_cons_of_ne_of_not_mem ND.2.2.2.2.2.2.2.2.2.2.2.2.2.2.2.2.2.2.2.2.2.2.2.2.2.2.2.2.2.2.2.2.2.2.2.2.2.2.2.1 List.not_mem_nil))))))))))
      have fc_3 := (A_ss.keep Kq71 (List.not_mem_cons_of_ne_of_not_mem (Ne.symm n_a1_ss) (List.not_mem_cons_of_ne_of_not_mem (Ne.symm ND.2.2.2.2.1) (List.not_mem_cons_of_ne_of_not_mem (Ne.symm ND.2.2.2.2.2.2.2.2.2.2.2.2.2.1) (List.not_mem_cons_of_ne_of_not_mem (Ne.symm ND.2.2.2.2.2.2.2.2.2.2.2.2.2.2.2.2.2.2.2.2.2.1) (List.not_mem_cons_of_ne_of_not_mem ND.2.2.2.2.2.2.2.2.2.2.2.2.2.2.2.2.2.2.2.2.2.2.2.2.2.2.2.2.2.2.2.2.2.2.2.2.2.2.2.2.1 (List.not_mem_cons_of_ne_of_not_mem ND.2.2.2.2.2.2.2.2.2.2.2.2.2.2.2.2.2.2.2.2.2.2.2.2.2.2.2.2.2.2.2.2.2.2.2.2.2.2.2.2.2.1 (List.not_mem_cons_of_ne_of_not_mem ND.2.2.2.2.2.2.2.2.2.2.2.2.2.2.2.2.2.2.2.2.2.2.2.2.2.2.2.2.2.2.2.2.2.2.2.2.2.2.2.2.2.2.1 (List.not_mem_cons_of_ne_of_not_mem ND.2.2.2.2.2.2.2.2.2.2.2.2.2.2.2.2.2.2.2.2.2.2.2.2.2.2.2.2.2.2.2.2.2.2.2.2.2.2.2.2.2.2.2.1 (List.not_mem_cons_of_ne_of_not_mem ND.2.2.2.2.2.2.2.2.2.2.2.2.2.2.2.2.2.2.2.2.2.2.2.2.2.2.2.2.2.2.2.2.2.2.2.2.2.2.2.2.2.2.2.2.1 List.not_mem_nil))))))))))
      have fc_4 := (AVE0.keep Kq71 (List.not_mem_cons_of_ne_of_not_mem n_a2_a1 (List.not_mem_cons_of_ne_of_not_mem n_a2_tl (List.not_mem_cons_of_ne_of_not_mem n_a2_th (List.not_mem_cons_of_ne_of_not_mem n_a2_ts (List.not_mem_cons_of_ne_of_not_mem n_a2_cS (List.not_mem_cons_of_ne_of_not_mem n_a2_cD (List.not_mem_cons_of_ne_of_not_mem n_a2_cL (List.not_mem_cons_of_ne_of_not_mem n_a2_cH (List.not_mem_cons_of_ne_of_not_mem n_a2_cC List.not_mem_nil))))))))))
      have fc_5 := (AE0.keep Kq71 (List.not_mem_cons_of_ne_of_not_mem n_a3_a1 (List.not_mem_cons_of_ne_of_not_mem n_a3_tl (List.not_mem_cons_of_ne_of_not_mem n_a3_th (List.not_mem_cons_of_ne_of_not_mem n_a3_ts (List.not_mem_cons_of_ne_of_not_mem n_a3_cS (List.not_mem_cons_of_ne_of_not_mem n_a3_cD (List.not_mem_cons_of_ne_of_not_mem n_a3_cL (List.not_mem_cons_of_ne_of_not_mem n_a3_cH (List.not_mem_cons_of_ne_of_not_mem n_a3_cC List.not_mem_nil))))))))))
      have K71 : Keep h0 T71.heap [a1, tl, th, ts, cS, cD, cL, cH, cC, a3] := KE0.trans Kq71 (fun x hx => Or.inl (show x ∈ [a1, tl, th, ts, cS, cD, cL, cH, cC] ++ [a3] from List.mem_append_left _ hx))
      have Z71 : n0 ≤ T71.heap.size := Nat.le_trans ZE0 Kq71.1
      obtain ⟨ktl, kth, kts, ksl, ksh, kss, kcS, kcD, kcL, kcH, kcC, g1, g2, g3, g4, g5, ND, ⟨G1, G2, G3, G4, G5⟩, E_q, F_dim, F_tl, F_th, F_ts, F_sl, F_sh, F_ss, F_cS, F_cD, F_cL, F_cH, F_cC, F_ec, F_cc, A_tl, A_th, A_ts, A_sl, A_sh, A_ss, A_cS, A_cD, A_cL, A_cH, A_cC⟩ := id QQ71
      have n_a1_tl : a1 ≠ tl := E_q.neArv A_tl (own_w hw 7 rfl)
      have n_a1_th : a1 ≠ th := E_q.neArv A_th (own_w hw 7 rfl)
      have n_a1_ts : a1 ≠ ts := E_q.neArv A_ts (own_w hw 7 rfl)
      have n_a1_sl : a1 ≠ sl := E_q.neArv A_sl (own_w hw 7 rfl)
      have n_a1_sh : a1 ≠ sh := E_q.neArv A_sh (own_w hw 7 rfl)
      have n_a1_ss : a1 ≠ ss := E_q.neArv A_ss (own_w hw 7 rfl)
      have n_a1_cS : a1 ≠ cS := E_q.neArv A_cS (own_w hw 7 rfl)
      have n_a1_cD : a1 ≠ cD := E_q.neArv A_cD (own_w hw 7 rfl)
      have n_a1_cL : a1 ≠ cL := E_q.neArv A_cL (own_w hw 7 rfl)
      have n_a1_cH : a1 ≠ cH := E_q.neArv A_cH (own_w hw 7 rfl)
      have n_a1_cC : a1 ≠ cC := E_q.neArv A_cC (own_w hw 7 rfl)
      obtain ⟨kk, hkk⟩ : ∃ z : Int32, z = Int32.ofNat ((own_h n (0 : Int32) v0 l0 u0 hist) ++ [(n, (1 : Int32), (Jvm.Native.java_lang_Math.nans.pick32 false l1 v1), (Jvm.Native.java_lang_Math.nans.pick32 true u1 v1), own_scale (Jvm.Native.java_lang_Math.nans.pick32 false l1 v1) (Jvm.Native.java_lang_Math.nans.pick32 true u1 v1))]).length := ⟨_, rfl⟩
      rw [← hkk] at F_cc
      have sg82 : ∀ t, own_S p e below T71 (mkF m 82 (own_ARRRIIF a1 a2 a3 (0 : Int32) (1 : Int32) v1) [(.ref a1), (.float v1), (.int (1 : Int32)), (.ref a3)]) t → own_S p e below T71 (mkF m 74 (own_ARRRIIF a1 a2 a3 (0 : Int32) (1 : Int32) v1) []) t := by
        intro t k
        refine XS.aloadN X71.here hx rfl (hb hby d7_74) rfl rfl ?_
        show own_S p e below T71 (mkF m 75 (own_ARRRIIF a1 a2 a3 (0 : Int32) (1 : Int32) v1) [(.ref a3)]) _
        refine XS.iloadN X71.here hx rfl (hb hby d7_75) rfl ?_
        show own_S p e below T71 (mkF m 76 (own_ARRRIIF a1 a2 a3 (0 : Int32) (1 : Int32) v1) [(.int (0 : Int32)), (.ref a3)]) _
        refine XS.iload X71.here hx rfl (hb hby d7_76) rfl ?_
        show own_S p e below T71 (mkF m 78 (own_ARRRIIF a1 a2 a3 (0 : Int32) (1 : Int32) v1) [(.int (1 : Int32)), (.int (0 : Int32)), (.ref a3)]) _
        refine XS.iadd X71.here hx rfl (hb hby d7_78) rfl ?_
        show own_S p e below T71 (mkF m 79 (own_ARRRIIF a1 a2 a3 (0 : Int32) (1 : Int32) v1) [(.int (1 : Int32)), (.ref a3)]) _
        refine XS.fload X71.here hx rfl (hb hby d7_79) rfl ?_
        show own_S p e below T71 (mkF m 81 (own_ARRRIIF a1 a2 a3 (0 : Int32) (1 : Int32) v1) [(.float v1), (.int (1 : Int32)), (.ref a3)]) _
        refine XS.aloadN X71.here hx rfl (hb hby d7_81) rfl rfl ?_
        exact k
      obtain ⟨T82, X82, e82, st82⟩ := getF X71 hx hZ hown (host := "") (Or.inl (own_w hw 49 rfl)) Via.refl rfl F_tl (g := (mkF m 82 (own_ARRRIIF a1 a2 a3 (0 : Int32) (1 : Int32) v1) [(.ref a1), (.float v1), (.int (1 : Int32)), (.ref a3)])) rfl rfl (hb hby d7_82)
      have sg87 : ∀ t, own_S p e below T82 (mkF m 87 (own_ARRRIIF a1 a2 a3 (0 : Int32) (1 : Int32) v1) [(.int (1 : Int32)), (.ref tl), (.float v1), (.int (1 : Int32)), (.ref a3)]) t → own_S p e below T82 (mkF m 85 (own_ARRRIIF a1 a2 a3 (0 : Int32) (1 : Int32) v1) [(.ref tl), (.float v1), (.int (1 : Int32)), (.ref a3)]) t := by
        intro t k
        refine XS.iload X82.here hx rfl (hb hby d7_85) rfl ?_
        exact k
      obtain ⟨cl87, Ar87, qa87, Sa87, Na87, Ha87, Ga87⟩ := id A_tl
      have sg89 : ∀ t, own_S p e below T82 (mkF m 89 (own_ARRRIIF a1 a2 a3 (0 : Int32) (1 : Int32) v1) [(.ref a1), (.float (Jvm.Native.java_lang_Math.nans.pick32 false l1 v1)), (.float v1), (.int (1 : Int32)), (.ref a3)]) t → own_S p e below T82 (mkF m 87 (own_ARRRIIF a1 a2 a3 (0 : Int32) (1 : Int32) v1) [(.int (1 : Int32)), (.ref tl), (.float v1), (.int (1 : Int32)), (.ref a3)]) t := by
        intro t k
        refine X82.faload hx (j := (1 : Int32)) (v := (.float (Jvm.Native.java_lang_Math.nans.pick32 false l1 v1))) (by rw [e82]; exact Ar87.1) (State.isArrayOf_alike hZ.alike Ar87.2.1) Ar87.2.2 (inb_of Sa87 ⟨by decide, by decide⟩) (Ha87 1 (by rw [Sa87]; decide)) (g := (mkF m 87 (own_ARRRIIF a1 a2 a3 (0 : Int32) (1 : Int32) v1) [(.int (1 : Int32)), (.ref tl), (.float v1), (.int (1 : Int32)), (.ref a3)])) rfl rfl (hb hby d7_87) _ ?_
        show own_S p e below T82 (mkF m 88 (own_ARRRIIF a1 a2 a3 (0 : Int32) (1 : Int32) v1) [(.float (Jvm.Native.java_lang_Math.nans.pick32 false l1 v1)), (.float v1), (.int (1 : Int32)), (.ref a3)]) _
        refine XS.aloadN X82.here hx rfl (hb hby d7_88) rfl rfl ?_
        exact k
      obtain ⟨T89, X89, e89, st89⟩ := getF X82 hx hZ hown (host := "") (Or.inl (own_w hw 53 rfl)) Via.refl e82 F_ts (g := (mkF m 89 (own_ARRRIIF a1 a2 a3 (0 : Int32) (1 : Int32) v1) [(.ref a1), (.float (Jvm.Native.java_lang_Math.nans.pick32 false l1 v1)), (.float v1), (.int (1 : Int32)), (.ref a3)])) rfl rfl (hb hby d7_89)
      have sg94 : ∀ t, own_S p e below T89 (mkF m 94 (own_ARRRIIF a1 a2 a3 (0 : Int32) (1 : Int32) v1) [(.int (1 : Int32)), (.ref ts), (.float (Jvm.Native.java_lang_Math.nans.pick32 false l1 v1)), (.float v1), (.int (1 : Int32)), (.ref a3)]) t → own_S p e below T89 (mkF m 92 (own_ARRRIIF a1 a2 a3 (0 : Int32) (1 : Int32) v1) [(.ref ts), (.float (Jvm.Native.java_lang_Math.nans.pick32 false l1 v1)), (.float v1), (.int (1 : Int32)), (.ref a3)]) t := by
        intro t k
        refine XS.iload X89.here hx rfl (hb hby d7_92) rfl ?_
        exact k
      obtain ⟨cl94, Ar94, qa94, Sa94, Na94, Ha94, Ga94⟩ := id A_ts
      have sg95 : ∀ t, own_S p e below T89 (mkF m 95 (own_ARRRIIF a1 a2 a3 (0 : Int32) (1 : Int32) v1) [(.float (own_scale (Jvm.Native.java_lang_Math.nans.pick32 false l1 v1) (Jvm.Native.java_lang_Math.nans.pick32 true u1 v1))), (.float (Jvm.Native.java_lang_Math.nans.pick32 false l1 v1)), (.float v1), (.int (1 : Int32)), (.ref a3)]) t → own_S p e below T89 (mkF m 94 (own_ARRRIIF a1 a2 a3 (0 : Int32) (1 : Int32) v1) [(.int (1 : Int32)), (.ref ts), (.float (Jvm.Native.java_lang_Math.nans.pick32 false l1 v1)), (.float v1), (.int (1 : Int32)), (.ref a3)]) t := by
        intro t k
        refine X89.faload hx (j := (1 : Int32)) (v := (.float (own_scale (Jvm.Native.java_lang_Math.nans.pick32 false l1 v1) (Jvm.Native.java_lang_Math.nans.pick32 true u1 v1)))) (by rw [e89]; exact Ar94.1) (State.isArrayOf_alike hZ.alike Ar94.2.1) Ar94.2.2 (inb_of Sa94 ⟨by decide, by decide⟩) (Ha94 1 (by rw [Sa94]; decide)) (g := (mkF m 94 (own_ARRRIIF a1 a2 a3 (0 : Int32) (1 : Int32) v1) [(.int (1 : Int32)), (.ref ts), (.float (Jvm.Native.java_lang_Math.nans.pick32 false l1 v1)), (.float v1), (.int (1 : Int32)), (.ref a3)])) rfl rfl (hb hby d7_94) _ ?_
        exact k
      obtain ⟨_, _, ⟨T95, L95, k95, n95⟩, -, X95, ⟨Lc95, hQ95, l95, y95, z95⟩, st95⟩ := Jvm.LawKit.callS X89 hx (y := (⟨"com/example/reverie/reverie/ScalarQuantizer", "code", "(FFF)I"⟩ : MethodName)) hown (mvT hZ (own_w hw 85 rfl)) (mvT hZ (own_w hw 86 rfl)) (mvT hZ (own_w hw 8 rfl)) (mvT hZ (own_w hw 87 rfl)) (by decide) (backOf (W := 2) (rm12 l Z a0 hw [] v1 (Jvm.Native.java_lang_Math.nans.pick32 false l1 v1) (own_scale (Jvm.Native.java_lang_Math.nans.pick32 false l1 v1) (Jvm.Native.java_lang_Math.nans.pick32 true u1 v1)) T71.heap n0 Z71 hv1.fin (ok1.pk hv1).1.fin (own_scale_fin (ok1.pk hv1).1 (ok1.pk hv1).2)) hZ (own_w hw 87 rfl) (own_w hw 8 rfl) (by decide) (by decide)) (g := (mkF m 95 (own_ARRRIIF a1 a2 a3 (0 : Int32) (1 : Int32) v1) [(.float (own_scale (Jvm.Native.java_lang_Math.nans.pick32 false l1 v1) (Jvm.Native.java_lang_Math.nans.pick32 true u1 v1))), (.float (Jvm.Native.java_lang_Math.nans.pick32 false l1 v1)), (.float v1), (.int (1 : Int32)), (.ref a3)])) rfl (by rw [hml]; rfl) (argsL := [(.float v1), (.float (Jvm.Native.java_lang_Math.nans.pick32 false l1 v1)), (.float (own_scale (Jvm.Native.java_lang_Math.nans.pick32 false l1 v1) (Jvm.Native.java_lang_Math.nans.pick32 true u1 v1)))]) (rest := [(.int (1 : Int32)), (.ref a3)]) (lenOf pd_7_2 rfl) rfl (by show 2 * 0 + _ ≤ _; exact Nat.le_of_eq rfl) (hb hby d7_95) (fun _ _ => ⟨rfl, e89, (by decide : 0 + 0 ≤ _), (by decide : 0 + 0 ≤ _)⟩)
      dsimp only [Pt.U, Pt.locs, Pt.cells, Pt.slots] at X95 l95 y95 z95 st95 hQ95
      subst l95 y95 z95
      obtain ⟨rfl, N95q, hq95⟩ := hQ95
      have N95 := Fr.app N71 N95q
      obtain ⟨c95, hc95⟩ : ∃ z : Int32, z = (own_code v1 (Jvm.Native.java_lang_Math.nans.pick32 false l1 v1) (own_scale (Jvm.Native.java_lang_Math.nans.pick32 false l1 v1) (Jvm.Native.java_lang_Math.nans.pick32 true u1 v1))) := ⟨_, rfl⟩
      rw [← hc95] at st95
      obtain ⟨k99, hk99⟩ : ∃ z : Int32, z = (c95.toInt8.toInt32) := ⟨_, rfl⟩
      have sg99 : ∀ t, own_S p e below T95 (mkF m 99 (own_ARRRIIF a1 a2 a3 (0 : Int32) (1 : Int32) v1) [(.int k99), (.int (1 : Int32)), (.ref a3)]) t → own_S p e below T95 (mkF m 98 (own_ARRRIIF a1 a2 a3 (0 : Int32) (1 : Int32) v1) [(.int c95), (.int (1 : Int32)), (.ref a3)]) t := by
        intro t k
        rw [hk99] at k
        refine XS.i2b X95.here hx rfl (hb hby d7_98) rfl ?_
        exact k
      have nb_k99 : k99.toInt8.toInt32 = k99 := by rw [hk99]; exact own_i2b2 _
      obtain ⟨cl99, Ar99, qa99, Sa99, Na99, Ha99, Ga99⟩ := id fc_5
      obtain ⟨T99, h99, X99, e99, W99, st99⟩ := stB X95 hx hZ hq95 Ar99 (j := (1 : Int32)) (inb_of Sa99 ⟨by decide, by decide⟩) (g := (mkF m 99 (own_ARRRIIF a1 a2 a3 (0 : Int32) (1 : Int32) v1) [(.int k99), (.int (1 : Int32)), (.ref a3)])) rfl rfl (hb hby d7_99)
      have V99 : Arv Z h99 a3 kc .byte (2 : Int32) [(.int ((own_code v0 (own_l v0 l0 u0) (own_s v0 l0 u0 s0)).toInt8.toInt32)), (.int k99)] (.int (0 : Int32)) := by
        have q := Arv.set Ar99 qa99 Sa99 Na99 Ha99 Ga99 (fits_nar_byte _) W99 1 rfl (Nat.le_of_ble_eq_true rfl)
        rw [nb_k99] at q
        exact q
      have K99 : Keep h0 h99 [a1, tl, th, ts, cS, cD, cL, cH, cC, a3] := K71.wr W99 (Or.inl (List.mem_of_getElem? (i := 9) rfl))
      have Z99 : n0 ≤ h99.size := Nat.le_trans Z71 (Keep.of_wr W99).1
      have N99 := Fr.snoc X99 N95 g_a3
      have sg3_2 : ∀ t, own_S p e below T99 (mkF m 3 (own_ARRRIIF a1 a2 a3 (0 : Int32) (2 : Int32) v1) []) t → own_S p e below T99 (mkF m 100 (own_ARRRIIF a1 a2 a3 (0 : Int32) (1 : Int32) v1) []) t := by
        intro t k
        refine XS.iinc X99.here hx rfl (hb hby d7_100) rfl (l' := (own_ARRRIIF a1 a2 a3 (0 : Int32) (2 : Int32) v1)) rfl ?_
        show own_S p e below T99 (mkF m 103 (own_ARRRIIF a1 a2 a3 (0 : Int32) (2 : Int32) v1) []) _
        refine XS.goto X99.here hx rfl (pc0 := 103) (pc' := 3) rfl (hb hby d7_103) (by decide) (by decide) ?_
        exact k
      exact ⟨T99, _, _, X99, N99, e99, K99, (by rw [own_l_pos ho1, own_u_pos ho1, own_s_pos ho1, own_h_pos ho1]; exact (⟨_, _, _, _, _, _, _, _, _, _, _, _, _, _, _, _, ND, ⟨G1, G2, G3, G4, G5⟩, (E_q.wr W99), (F_dim.other W99 (Or.inl (Ne.symm n_a3_a1))), (F_tl.other W99 (Or.inl (Ne.symm n_a3_a1))), (F_th.other W99 (Or.inl (Ne.symm n_a3_a1))), (F_ts.other W99 (Or.inl (Ne.symm n_a3_a1))), (F_sl.other W99 (Or.inl (Ne.symm n_a3_a1))), (F_sh.other W99 (Or.inl (Ne.symm n_a3_a1))), (F_ss.other W99 (Or.inl (Ne.symm n_a3_a1))), (F_cS.other W99 (Or.inl (Ne.symm n_a3_a1))), (F_cD.other W99 (Or.inl (Ne.symm n_a3_a1))), (F_cL.other W99 (Or.inl (Ne.symm n_a3_a1))), (F_cH.other W99 (Or.inl (Ne.symm n_a3_a1))), (F_cC.other W99 (Or.inl (Ne.symm n_a3_a1))), (F_ec.other W99 (Or.inl (Ne.symm n_a3_a1))), (by rw [← hkk]; exact (F_cc.other W99 (Or.inl (Ne.symm n_a3_a1)))), (A_tl.other W99 (Ne.symm n_a3_tl)), (A_th.other W99 (Ne.symm n_a3_th)), (A_ts.other W99 (Ne.symm n_a3_ts)), (A_sl.other W99 (Ne.symm n_a3_sl)), (A_sh.other W99 (Ne.symm n_a3_sh)), (A_ss.other W99 (Ne.symm n_a3_ss)), (A_cS.other W99 (Ne.symm n_a3_cS)), (A_cD.other W99 (Ne.symm n_a3_cD)), (A_cL.other W99 (Ne.symm n_a3_cL)), (A_cH.other W99 (Ne.symm n_a3_cH)), (A_cC.other W99 (Ne.symm n_a3_cC))⟩)), (by rw [own_l_pos ho1, own_s_pos ho1]; rw [← hc95, ← hk99]; exact V99), fun t k => (sg6 t (st6 t (sg15 t (sg18 t (stj t (sg48 t (st48 t (sg53 t (sg56 t (st56 t (sg60 t (st60 t (sg65 t (sg68 t (st68 t ((fun t k => st71.trans k) t (sg82 t (st82 t (sg87 t (sg89 t (st89 t (sg94 t (sg95 t (st95 t (sg99 t (st99 t (sg3_2 t k)))))))))))))))))))))))))))⟩
    · have sg21 : ∀ t, own_S p e below T6 (mkF m 21 (own_ARRRIIF a1 a2 a3 (0 : Int32) (1 : Int32) v1) [(.ref a1), (.float v1)]) t → own_S p e below T6 (mkF m 18 (own_ARRRIIF a1 a2 a3 (0 : Int32) (1 : Int32) v1) []) t := by
        intro t k
        refine XS.fload X6.here hx rfl (hb hby d7_18) rfl ?_
        show own_S p e below T6 (mkF m 20 (own_ARRRIIF a1 a2 a3 (0 : Int32) (1 : Int32) v1) [(.float v1)]) _
        refine XS.aloadN X6.here hx rfl (hb hby d7_20) rfl rfl ?_
        exact k
      obtain ⟨T21, X21, e21, st21⟩ := getF X6 hx hZ hown (host := "") (Or.inl (own_w hw 49 rfl)) Via.refl e6 F_tl (g := (mkF m 21 (own_ARRRIIF a1 a2 a3 (0 : Int32) (1 : Int32) v1) [(.ref a1), (.float v1)])) rfl rfl (hb hby d7_21)
      have sg26 : ∀ t, own_S p e below T21 (mkF m 26 (own_ARRRIIF a1 a2 a3 (0 : Int32) (1 : Int32) v1) [(.int (1 : Int32)), (.ref tl), (.float v1)]) t → own_S p e below T21 (mkF m 24 (own_ARRRIIF a1 a2 a3 (0 : Int32) (1 : Int32) v1) [(.ref tl), (.float v1)]) t := by
        intro t k
        refine XS.iload X21.here hx rfl (hb hby d7_24) rfl ?_
        exact k
      obtain ⟨cl26, Ar26, qa26, Sa26, Na26, Ha26, Ga26⟩ := id A_tl
      have sg34 : ∀ t, own_S p e below T21 (mkF m 34 (own_ARRRIIF a1 a2 a3 (0 : Int32) (1 : Int32) v1) [(.ref a1), (.float v1)]) t → own_S p e below T21 (mkF m 26 (own_ARRRIIF a1 a2 a3 (0 : Int32) (1 : Int32) v1) [(.int (1 : Int32)), (.ref tl), (.float v1)]) t := by
        intro t k
        refine X21.faload hx (j := (1 : Int32)) (v := (.float l1)) (by rw [e21]; exact Ar26.1) (State.isArrayOf_alike hZ.alike Ar26.2.1) Ar26.2.2 (inb_of Sa26 ⟨by decide, by decide⟩) (Ha26 1 (by rw [Sa26]; decide)) (g := (mkF m 26 (own_ARRRIIF a1 a2 a3 (0 : Int32) (1 : Int32) v1) [(.int (1 : Int32)), (.ref tl), (.float v1)])) rfl rfl (hb hby d7_26) _ ?_
        show own_S p e below T21 (mkF m 27 (own_ARRRIIF a1 a2 a3 (0 : Int32) (1 : Int32) v1) [(.float l1), (.float v1)]) _
        refine XS.fcmpS X21.here hx rfl (hb hby d7_27) rfl rfl ?_
        show own_S p e below T21 (mkF m 28 (own_ARRRIIF a1 a2 a3 (0 : Int32) (1 : Int32) v1) [(.int (cmpValue (FP.fcmp v1 l1) .g))]) _
        refine XS.ifNo X21.here hx rfl (hb hby d7_28) rfl ((if0 _ _).trans (flt (fun q => ho1 (Or.inl q) : ¬ ((cmpValue (FP.fcmp v1 l1) .g) < (0 : Int32)))).1) ?_
        show own_S p e below T21 (mkF m 31 (own_ARRRIIF a1 a2 a3 (0 : Int32) (1 : Int32) v1) []) _
        refine XS.fload X21.here hx rfl (hb hby d7_31) rfl ?_
        show own_S p e below T21 (mkF m 33 (own_ARRRIIF a1 a2 a3 (0 : Int32) (1 : Int32) v1) [(.float v1)]) _
        refine XS.aloadN X21.here hx rfl (hb hby d7_33) rfl rfl ?_
        exact k
      obtain ⟨T34, X34, e34, st34⟩ := getF X21 hx hZ hown (host := "") (Or.inl (own_w hw 51 rfl)) Via.refl e21 F_th (g := (mkF m 34 (own_ARRRIIF a1 a2 a3 (0 : Int32) (1 : Int32) v1) [(.ref a1), (.float v1)])) rfl rfl (hb hby d7_34)
      have sg39 : ∀ t, own_S p e below T34 (mkF m 39 (own_ARRRIIF a1 a2 a3 (0 : Int32) (1 : Int32) v1) [(.int (1 : Int32)), (.ref th), (.float v1)]) t → own_S p e below T34 (mkF m 37 (own_ARRRIIF a1 a2 a3 (0 : Int32) (1 : Int32) v1) [(.ref th), (.float v1)]) t := by
        intro t k
        refine XS.iload X34.here hx rfl (hb hby d7_37) rfl ?_
        exact k
      obtain ⟨cl39, Ar39, qa39, Sa39, Na39, Ha39, Ga39⟩ := id A_th
      have sg82 : ∀ t, own_S p e below T34 (mkF m 82 (own_ARRRIIF a1 a2 a3 (0 : Int32) (1 : Int32) v1) [(.ref a1), (.float v1), (.int (1 : Int32)), (.ref a3)]) t → own_S p e below T34 (mkF m 39 (own_ARRRIIF a1 a2 a3 (0 : Int32) (1 : Int32) v1) [(.int (1 : Int32)), (.ref th), (.float v1)]) t := by
        intro t k
        refine X34.faload hx (j := (1 : Int32)) (v := (.float u1)) (by rw [e34]; exact Ar39.1) (State.isArrayOf_alike hZ.alike Ar39.2.1) Ar39.2.2 (inb_of Sa39 ⟨by decide, by decide⟩) (Ha39 1 (by rw [Sa39]; decide)) (g := (mkF m 39 (own_ARRRIIF a1 a2 a3 (0 : Int32) (1 : Int32) v1) [(.int (1 : Int32)), (.ref th), (.float v1)])) rfl rfl (hb hby d7_39) _ ?_
        show own_S p e below T34 (mkF m 40 (own_ARRRIIF a1 a2 a3 (0 : Int32) (1 : Int32) v1) [(.float u1), (.float v1)]) _
        refine XS.fcmpS X34.here hx rfl (hb hby d7_40) rfl rfl ?_
        show own_S p e below T34 (mkF m 41 (own_ARRRIIF a1 a2 a3 (0 : Int32) (1 : Int32) v1) [(.int (cmpValue (FP.fcmp v1 u1) .l))]) _
        refine XS.ifYes X34.here hx rfl (pc0 := 41) (pc' := 74) rfl (hb hby d7_41) rfl ((if0 _ _).trans (flt (fun q => ho1 (Or.inr q) : ¬ ((0 : Int32) < (cmpValue (FP.fcmp v1 u1) .l)))).2.2.2) (by decide) (by decide) ?_
        show own_S p e below T34 (mkF m 74 (own_ARRRIIF a1 a2 a3 (0 : Int32) (1 : Int32) v1) []) _
        refine XS.aloadN X34.here hx rfl (hb hby d7_74) rfl rfl ?_
        show own_S p e below T34 (mkF m 75 (own_ARRRIIF a1 a2 a3 (0 : Int32) (1 : Int32) v1) [(.ref a3)]) _
        refine XS.iloadN X34.here hx rfl (hb hby d7_75) rfl ?_
        show own_S p e below T34 (mkF m 76 (own_ARRRIIF a1 a2 a3 (0 : Int32) (1 : Int32) v1) [(.int (0 : Int32)), (.ref a3)]) _
        refine XS.iload X34.here hx rfl (hb hby d7_76) rfl ?_
        show own_S p e below T34 (mkF m 78 (own_ARRRIIF a1 a2 a3 (0 : Int32) (1 : Int32) v1) [(.int (1 : Int32)), (.int (0 : Int32)), (.ref a3)]) _
        refine XS.iadd X34.here hx rfl (hb hby d7_78) rfl ?_
        show own_S p e below T34 (mkF m 79 (own_ARRRIIF a1 a2 a3 (0 : Int32) (1 : Int32) v1) [(.int (1 : Int32)), (.ref a3)]) _
        refine XS.fload X34.here hx rfl (hb hby d7_79) rfl ?_
        show own_S p e below T34 (mkF m 81 (own_ARRRIIF a1 a2 a3 (0 : Int32) (1 : Int32) v1) [(.float v1), (.int (1 : Int32)), (.ref a3)]) _
        refine XS.aloadN X34.here hx rfl (hb hby d7_81) rfl rfl ?_
        exact k
      obtain ⟨T82, X82, e82, st82⟩ := getF X34 hx hZ hown (host := "") (Or.inl (own_w hw 49 rfl)) Via.refl e34 F_tl (g := (mkF m 82 (own_ARRRIIF a1 a2 a3 (0 : Int32) (1 : Int32) v1) [(.ref a1), (.float v1), (.int (1 : Int32)), (.ref a3)])) rfl rfl (hb hby d7_82)
      have sg87 : ∀ t, own_S p e below T82 (mkF m 87 (own_ARRRIIF a1 a2 a3 (0 : Int32) (1 : Int32) v1) [(.int (1 : Int32)), (.ref tl), (.float v1), (.int (1 : Int32)), (.ref a3)]) t → own_S p e below T82 (mkF m 85 (own_ARRRIIF a1 a2 a3 (0 : Int32) (1 : Int32) v1) [(.ref tl), (.float v1), (.int (1 : Int32)), (.ref a3)]) t := by
        intro t k
        refine XS.iload X82.here hx rfl (hb hby d7_85) rfl ?_
        exact k
      obtain ⟨cl87, Ar87, qa87, Sa87, Na87, Ha87, Ga87⟩ := id A_tl
      have sg89 : ∀ t, own_S p e below T82 (mkF m 89 (own_ARRRIIF a1 a2 a3 (0 : Int32) (1 : Int32) v1) [(.ref a1), (.float l1), (.float v1), (.int (1 : Int32)), (.ref a3)]) t → own_S p e below T82 (mkF m 87 (own_ARRRIIF a1 a2 a3 (0 : Int32) (1 : Int32) v1) [(.int (1 : Int32)), (.ref tl), (.float v1), (.int (1 : Int32)), (.ref a3)]) t := by
        intro t k
        refine X82.faload hx (j := (1 : Int32)) (v := (.float l1)) (by rw [e82]; exact Ar87.1) (State.isArrayOf_alike hZ.alike Ar87.2.1) Ar87.2.2 (inb_of Sa87 ⟨by decide, by decide⟩) (Ha87 1 (by rw [Sa87]; decide)) (g := (mkF m 87 (own_ARRRIIF a1 a2 a3 (0 : Int32) (1 : Int32) v1) [(.int (1 : Int32)), (.ref tl), (.float v1), (.int (1 : Int32)), (.ref a3)])) rfl rfl (hb hby d7_87) _ ?_
        show own_S p e below T82 (mkF m 88 (own_ARRRIIF a1 a2 a3 (0 : Int32) (1 : Int32) v1) [(.float l1), (.float v1), (.int (1 : Int32)), (.ref a3)]) _
        refine XS.aloadN X82.here hx rfl (hb hby d7_88) rfl rfl ?_
        exact k
      obtain ⟨T89, X89, e89, st89⟩ := getF X82 hx hZ hown (host := "") (Or.inl (own_w hw 53 rfl)) Via.refl e82 F_ts (g := (mkF m 89 (own_ARRRIIF a1 a2 a3 (0 : Int32) (1 : Int32) v1) [(.ref a1), (.float l1), (.float v1), (.int (1 : Int32)), (.ref a3)])) rfl rfl (hb hby d7_89)
      have sg94 : ∀ t, own_S p e below T89 (mkF m 94 (own_ARRRIIF a1 a2 a3 (0 : Int32) (1 : Int32) v1) [(.int (1 : Int32)), (.ref ts), (.float l1), (.float v1), (.int (1 : Int32)), (.ref a3)]) t → own_S p e below T89 (mkF m 92 (own_ARRRIIF a1 a2 a3 (0 : Int32) (1 : Int32) v1) [(.ref ts), (.float l1), (.float v1), (.int (1 : Int32)), (.ref a3)]) t := by
        intro t k
        refine XS.iload X89.here hx rfl (hb hby d7_92) rfl ?_
        exact k
      obtain ⟨cl94, Ar94, qa94, Sa94, Na94, Ha94, Ga94⟩ := id A_ts
      have sg95 : ∀ t, own_S p e below T89 (mkF m 95 (own_ARRRIIF a1 a2 a3 (0 : Int32) (1 : Int32) v1) [(.float s1), (.float l1), (.float v1), (.int (1 : Int32)), (.ref a3)]) t → own_S p e below T89 (mkF m 94 (own_ARRRIIF a1 a2 a3 (0 : Int32) (1 : Int32) v1) [(.int (1 : Int32)), (.ref ts), (.float l1), (.float v1), (.int (1 : Int32)), (.ref a3)]) t := by
        intro t k
        refine X89.faload hx (j := (1 : Int32)) (v := (.float s1)) (by rw [e89]; exact Ar94.1) (State.isArrayOf_alike hZ.alike Ar94.2.1) Ar94.2.2 (inb_of Sa94 ⟨by decide, by decide⟩) (Ha94 1 (by rw [Sa94]; decide)) (g := (mkF m 94 (own_ARRRIIF a1 a2 a3 (0 : Int32) (1 : Int32) v1) [(.int (1 : Int32)), (.ref ts), (.float l1), (.float v1), (.int (1 : Int32)), (.ref a3)])) rfl rfl (hb hby d7_94) _ ?_
        exact k
      obtain ⟨_, _, ⟨T95, L95, k95, n95⟩, -, X95, ⟨Lc95, hQ95, l95, y95, z95⟩, st95⟩ := Jvm.LawKit.callS X89 hx (y := (⟨"com/example/reverie/reverie/ScalarQuantizer", "code", "(FFF)I"⟩ : MethodName)) hown (mvT hZ (own_w hw 85 rfl)) (mvT hZ (own_w hw 86 rfl)) (mvT hZ (own_w hw 8 rfl)) (mvT hZ (own_w hw 87 rfl)) (by decide) (backOf (W := 2) (rm12 l Z a0 hw [] v1 l1 s1 HE0 n0 ZE0 hv1.fin (ok1.in hv1 ho1).1.fin (ok1.in hv1 ho1).2.2) hZ (own_w hw 87 rfl) (own_w hw 8 rfl) (by decide) (by decide)) (g := (mkF m 95 (own_ARRRIIF a1 a2 a3 (0 : Int32) (1 : Int32) v1) [(.float s1), (.float l1), (.float v1), (.int (1 : Int32)), (.ref a3)])) rfl (by rw [hml]; rfl) (argsL := [(.float v1), (.float l1), (.float s1)]) (rest := [(.int (1 : Int32)), (.ref a3)]) (lenOf pd_7_2 rfl) rfl (by show 2 * 0 + _ ≤ _; exact Nat.le_of_eq rfl) (hb hby d7_95) (fun _ _ => ⟨rfl, e89, (by decide : 0 + 0 ≤ _), (by decide : 0 + 0 ≤ _)⟩)
      dsimp only [Pt.U, Pt.locs, Pt.cells, Pt.slots] at X95 l95 y95 z95 st95 hQ95
      subst l95 y95 z95
      obtain ⟨rfl, N95q, hq95⟩ := hQ95
      have N95 := Fr.app NE0 N95q
      obtain ⟨c95, hc95⟩ : ∃ z : Int32, z = (own_code v1 l1 s1) := ⟨_, rfl⟩
      rw [← hc95] at st95
      obtain ⟨k99, hk99⟩ : ∃ z : Int32, z = (c95.toInt8.toInt32) := ⟨_, rfl⟩
      have sg99 : ∀ t, own_S p e below T95 (mkF m 99 (own_ARRRIIF a1 a2 a3 (0 : Int32) (1 : Int32) v1) [(.int k99), (.int (1 : Int32)), (.ref a3)]) t → own_S p e below T95 (mkF m 98 (own_ARRRIIF a1 a2 a3 (0 : Int32) (1 : Int32) v1) [(.int c95), (.int (1 : Int32)), (.ref a3)]) t := by
        intro t k
        rw [hk99] at k
        refine XS.i2b X95.here hx rfl (hb hby d7_98) rfl ?_
        exact k
      have nb_k99 : k99.toInt8.toInt32 = k99 := by rw [hk99]; exact own_i2b2 _
      obtain ⟨cl99, Ar99, qa99, Sa99, Na99, Ha99, Ga99⟩ := id AE0
      obtain ⟨T99, h99, X99, e99, W99, st99⟩ := stB X95 hx hZ hq95 Ar99 (j := (1 : Int32)) (inb_of Sa99 ⟨by decide, by decide⟩) (g := (mkF m 99 (own_ARRRIIF a1 a2 a3 (0 : Int32) (1 : Int32) v1) [(.int k99), (.int (1 : Int32)), (.ref a3)])) rfl rfl (hb hby d7_99)
      have V99 : Arv Z h99 a3 kc .byte (2 : Int32) [(.int ((own_code v0 (own_l v0 l0 u0) (own_s v0 l0 u0 s0)).toInt8.toInt32)), (.int k99)] (.int (0 : Int32)) := by
        have q := Arv.set Ar99 qa99 Sa99 Na99 Ha99 Ga99 (fits_nar_byte _) W99 1 rfl (Nat.le_of_ble_eq_true rfl)
        rw [nb_k99] at q
        exact q
      have K99 : Keep h0 h99 [a1, tl, th, ts, cS, cD, cL, cH, cC, a3] := KE0.wr W99 (Or.inl (List.mem_of_getElem? (i := 9) rfl))
      have Z99 : n0 ≤ h99.size := Nat.le_trans ZE0 (Keep.of_wr W99).1
      have N99 := Fr.snoc X99 N95 g_a3
      have sg3_2 : ∀ t, own_S p e below T99 (mkF m 3 (own_ARRRIIF a1 a2 a3 (0 : Int32) (2 : Int32) v1) []) t → own_S p e below T99 (mkF m 100 (own_ARRRIIF a1 a2 a3 (0 : Int32) (1 : Int32) v1) []) t := by
        intro t k
        refine XS.iinc X99.here hx rfl (hb hby d7_100) rfl (l' := (own_ARRRIIF a1 a2 a3 (0 : Int32) (2 : Int32) v1)) rfl ?_
        show own_S p e below T99 (mkF m 103 (own_ARRRIIF a1 a2 a3 (0 : Int32) (2 : Int32) v1) []) _
        refine XS.goto X99.here hx rfl (pc0 := 103) (pc' := 3) rfl (hb hby d7_103) (by decide) (by decide) ?_
        exact k
      exact ⟨T99, _, _, X99, N99, e99, K99, (by rw [own_l_neg ho1, own_u_neg ho1, own_s_neg ho1, own_h_neg ho1]; exact (⟨_, _, _, _, _, _, _, _, _, _, _, _, _, _, _, _, ND, ⟨G1, G2, G3, G4, G5⟩, (E_q.wr W99), (F_dim.other W99 (Or.inl (Ne.symm n_a3_a1))), (F_tl.other W99 (Or.inl (Ne.symm n_a3_a1))), (F_th.other W99 (Or.inl (Ne.symm n_a3_a1))), (F_ts.other W99 (Or.inl (Ne.symm n_a3_a1))), (F_sl.other W99 (Or.inl (Ne.symm n_a3_a1))), (F_sh.other W99 (Or.inl (Ne.symm n_a3_a1))), (F_ss.other W99 (Or.inl (Ne.symm n_a3_a1))), (F_cS.other W99 (Or.inl (Ne.symm n_a3_a1))), (F_cD.other W99 (Or.inl (Ne.symm n_a3_a1))), (F_cL.other W99 (Or.inl (Ne.symm n_a3_a1))), (F_cH.other W99 (Or.inl (Ne.symm n_a3_a1))), (F_cC.other W99 (Or.inl (Ne.symm n_a3_a1))), (F_ec.other W99 (Or.inl (Ne.symm n_a3_a1))), (by rw [← hkk]; exact (F_cc.other W99 (Or.inl (Ne.symm n_a3_a1)))), (A_tl.other W99 (Ne.symm n_a3_tl)), (A_th.other W99 (Ne.symm n_a3_th)), (A_ts.other W99 (Ne.symm n_a3_ts)), (A_sl.other W99 (Ne.symm n_a3_sl)), (A_sh.other W99 (Ne.symm n_a3_sh)), (A_ss.other W99 (Ne.symm n_a3_ss)), (A_cS.other W99 (Ne.symm n_a3_cS)), (A_cD.other W99 (Ne.symm n_a3_cD)), (A_cL.other W99 (Ne.symm n_a3_cL)), (A_cH.other W99 (Ne.symm n_a3_cH)), (A_cC.other W99 (Ne.symm n_a3_cC))⟩)), (by rw [own_l_neg ho1, own_s_neg ho1]; rw [← hc95, ← hk99]; exact V99), fun t k => (sg6 t (st6 t (sg15 t (sg18 t (sg21 t (st21 t (sg26 t (sg34 t (st34 t (sg39 t (sg82 t (st82 t (sg87 t (sg89 t (st89 t (sg94 t (sg95 t (st95 t (sg99 t (st99 t (sg3_2 t k)))))))))))))))))))))⟩
  have ZE1 : n0 ≤ HE1.size := Nat.le_trans Z0 KE1.1
  obtain ⟨ktl, kth, kts, ksl, ksh, kss, kcS, kcD, kcL, kcH, kcC, g1, g2, g3, g4, g5, ND, ⟨G1, G2, G3, G4, G5⟩, E_q, F_dim, F_tl, F_th, F_ts, F_sl, F_sh, F_ss, F_cS, F_cD, F_cL, F_cH, F_cC, F_ec, F_cc, A_tl, A_th, A_ts, A_sl, A_sh, A_ss, A_cS, A_cD, A_cL, A_cH, A_cC⟩ := id QE1
  have n_a1_tl : a1 ≠ tl := E_q.neArv A_tl (own_w hw 7 rfl)
  have n_a1_th : a1 ≠ th := E_q.neArv A_th (own_w hw 7 rfl)
  have n_a1_ts : a1 ≠ ts := E_q.neArv A_ts (own_w hw 7 rfl)
  have n_a1_sl : a1 ≠ sl := E_q.neArv A_sl (own_w hw 7 rfl)
  have n_a1_sh : a1 ≠ sh := E_q.neArv A_sh (own_w hw 7 rfl)
  have n_a1_ss : a1 ≠ ss := E_q.neArv A_ss (own_w hw 7 rfl)
  have n_a1_cS : a1 ≠ cS := E_q.neArv A_cS (own_w hw 7 rfl)
  have n_a1_cD : a1 ≠ cD := E_q.neArv A_cD (own_w hw 7 rfl)
  have n_a1_cL : a1 ≠ cL := E_q.neArv A_cL (own_w hw 7 rfl)
  have n_a1_cH : a1 ≠ cH := E_q.neArv A_cH (own_w hw 7 rfl)
  have n_a1_cC : a1 ≠ cC := E_q.neArv A_cC (own_w hw 7 rfl)
  obtain ⟨kk, hkk⟩ : ∃ z : Int32, z = Int32.ofNat (own_h n (1 : Int32) v1 l1 u1 (own_h n (0 : Int32) v0 l0 u0 hist)).length := ⟨_, rfl⟩
  rw [← hkk] at F_cc
  have AVE1 := AV.keep KE1 (List.not_mem_cons_of_ne_of_not_mem n_a2_a1 (List.not_mem_cons_of_ne_of_not_mem n_a2_tl (List.not_mem_cons_of_ne_of_not_mem n_a2_th (List.not_mem_cons_of_ne_of_not_mem n_a2_ts (List.not_mem_cons_of_ne_of_not_mem n_a2_cS (List.not_mem_cons_of_ne_of_not_mem n_a2_cD (List.not_mem_cons_of_ne_of_not_mem n_a2_cL (List.not_mem_cons_of_ne_of_not_mem n_a2_cH (List.not_mem_cons_of_ne_of_not_mem n_a2_cC (List.not_mem_cons_of_ne_of_not_mem n23 List.not_mem_nil))))))))))
  refine own_by stE1 ?_
  have sg6 : ∀ t, own_S p e below TE1 (mkF m 6 (own_ARRRIIF a1 a2 a3 (0 : Int32) (2 : Int32) v1) [(.ref a1), (.int (2 : Int32))]) t → own_S p e below TE1 (mkF m 3 (own_ARRRIIF a1 a2 a3 (0 : Int32) (2 : Int32) v1) []) t := by
    intro t k
    refine XS.iload XE1.here hx rfl (hb hby d7_3) rfl ?_
    show own_S p e below TE1 (mkF m 5 (own_ARRRIIF a1 a2 a3 (0 : Int32) (2 : Int32) v1) [(.int (2 : Int32))]) _
    refine XS.aloadN XE1.here hx rfl (hb hby d7_5) rfl rfl ?_
    exact k
  refine own_by sg6 ?_
  obtain ⟨T6, X6, e6, st6⟩ := getF XE1 hx hZ hown (host := "") (Or.inl (own_w hw 38 rfl)) Via.refl eE1 F_dim (g := (mkF m 6 (own_ARRRIIF a1 a2 a3 (0 : Int32) (2 : Int32) v1) [(.ref a1), (.int (2 : Int32))])) rfl rfl (hb hby d7_6)
  refine own_by st6 ?_
  have sg108 : ∀ t, own_S p e below T6 (mkF m 108 (own_ARRRIIF a1 a2 a3 (0 : Int32) (2 : Int32) v1) [(.ref a1), (.ref a1)]) t → own_S p e below T6 (mkF m 9 (own_ARRRIIF a1 a2 a3 (0 : Int32) (2 : Int32) v1) [(.int (2 : Int32)), (.int (2 : Int32))]) t := by
    intro t k
    refine XS.icmpYes X6.here hx rfl (pc0 := 9) (pc' := 106) rfl (hb hby d7_9) rfl (flt (by decide : ¬ ((2 : Int32) < (2 : Int32)))).2.1 (by decide) (by decide) ?_
    show own_S p e below T6 (mkF m 106 (own_ARRRIIF a1 a2 a3 (0 : Int32) (2 : Int32) v1) []) _
    refine XS.aloadN X6.here hx rfl (hb hby d7_106) rfl rfl ?_
    show own_S p e below T6 (mkF m 107 (own_ARRRIIF a1 a2 a3 (0 : Int32) (2 : Int32) v1) [(.ref a1)]) _
    refine XS.dup X6.here hx rfl (hb hby d7_107) rfl rfl ?_
    exact k
  refine own_by sg108 ?_
  obtain ⟨T108, X108, e108, st108⟩ := getF X6 hx hZ hown (host := "") (Or.inl (own_w hw 83 rfl)) Via.refl e6 F_ec (g := (mkF m 108 (own_ARRRIIF a1 a2 a3 (0 : Int32) (2 : Int32) v1) [(.ref a1), (.ref a1)])) rfl rfl (hb hby d7_108)
  refine own_by st108 ?_
  have sg113 : ∀ t, own_S p e below T108 (mkF m 113 (own_ARRRIIF a1 a2 a3 (0 : Int32) (2 : Int32) v1) [(.int (n + (1 : Int32))), (.ref a1)]) t → own_S p e below T108 (mkF m 111 (own_ARRRIIF a1 a2 a3 (0 : Int32) (2 : Int32) v1) [(.int n), (.ref a1)]) t := by
    intro t k
    refine XS.iconst X108.here hx rfl (hb hby d7_111) ?_
    show own_S p e below T108 (mkF m 112 (own_ARRRIIF a1 a2 a3 (0 : Int32) (2 : Int32) v1) [(.int (1 : Int32)), (.int n), (.ref a1)]) _
    refine XS.iadd X108.here hx rfl (hb hby d7_112) rfl ?_
    exact k
  refine own_by sg113 ?_
  obtain ⟨T113, h113, X113, e113, W113, st113⟩ := putF X108 hx hZ hown (host := "") (Or.inl (own_w hw 83 rfl)) Via.refl e108 F_ec E_q (Or.inl (own_w hw 84 rfl)) (own_w hw 7 rfl) (ty := .int) (by decide) rfl rfl (g := (mkF m 113 (own_ARRRIIF a1 a2 a3 (0 : Int32) (2 : Int32) v1) [(.int (n + (1 : Int32))), (.ref a1)])) rfl rfl (hb hby d7_113)
  have Fw113 := F_ec.same W113
  have fc := (F_dim.other W113 (Or.inr (slot_ne (Or.inr (own_w hw 39 rfl)) (Or.inl (own_w hw 84 rfl)) (by decide) (t := .int) (t' := .int) (by decide) (by decide))))
  have fc_2 := (F_cc.other W113 (Or.inr (slot_ne (Or.inl (own_w hw 82 rfl)) (Or.inl (own_w hw 84 rfl)) (by decide) (t := .int) (t' := .int) (by decide) (by decide))))
  have fc_3 := (F_tl.other W113 (Or.inr (slot_ne (Or.inr (own_w hw 50 rfl)) (Or.inl (own_w hw 84 rfl)) (by decide) (t := (.array .float)) (t' := .int) (by decide) (by decide))))
  have fc_4 := (F_th.other W113 (Or.inr (slot_ne (Or.inr (own_w hw 52 rfl)) (Or.inl (own_w hw 84 rfl)) (by decide) (t := (.array .float)) (t' := .int) (by decide) (by decide))))
  have fc_5 := (F_ts.other W113 (Or.inr (slot_ne (Or.inr (own_w hw 54 rfl)) (Or.inl (own_w hw 84 rfl)) (by decide) (t := (.array .float)) (t' := .int) (by decide) (by decide))))
  have fc_6 := (F_sl.other W113 (Or.inr (slot_ne (Or.inr (own_w hw 56 rfl)) (Or.inl (own_w hw 84 rfl)) (by decide) (t := (.array .float)) (t' := .int) (by decide) (by decide))))
  have fc_7 := (F_sh.other W113 (Or.inr (slot_ne (Or.inr (own_w hw 58 rfl)) (Or.inl (own_w hw 84 rfl)) (by decide) (t := (.array .float)) (t' := .int) (by decide) (by decide))))
  have fc_8 := (F_ss.other W113 (Or.inr (slot_ne (Or.inr (own_w hw 60 rfl)) (Or.inl (own_w hw 84 rfl)) (by decide) (t := (.array .float)) (t' := .int) (by decide) (by decide))))
  have fc_9 := (F_cS.other W113 (Or.inr (slot_ne (Or.inl (own_w hw 29 rfl)) (Or.inl (own_w hw 84 rfl)) (by decide) (t := (.array .int)) (t' := .int) (by decide) (by decide))))
  have fc_10 := (F_cD.other W113 (Or.inr (slot_ne (Or.inl (own_w hw 31 rfl)) (Or.inl (own_w hw 84 rfl)) (by decide) (t := (.array .int)) (t' := .int) (by decide) (by decide))))
  have fc_11 := (F_cL.other W113 (Or.inr (slot_ne (Or.inl (own_w hw 33 rfl)) (Or.inl (own_w hw 84 rfl)) (by decide) (t := (.array .float)) (t' := .int) (by decide) (by decide))))
  have fc_12 := (F_cH.other W113 (Or.inr (slot_ne (Or.inl (own_w hw 35 rfl)) (Or.inl (own_w hw 84 rfl)) (by decide) (t := (.array .float)) (t' := .int) (by decide) (by decide))))
  have fc_13 := (F_cC.other W113 (Or.inr (slot_ne (Or.inl (own_w hw 37 rfl)) (Or.inl (own_w hw 84 rfl)) (by decide) (t := (.array .float)) (t' := .int) (by decide) (by decide))))
  have K113 : Keep h0 h113 [a1, tl, th, ts, cS, cD, cL, cH, cC, a3] := KE1.wr W113 (Or.inl (List.mem_of_getElem? (i := 0) rfl))
  have Z113 : n0 ≤ h113.size := Nat.le_trans ZE1 (Keep.of_wr W113).1
  have N113 := Fr.snoc X113 NE1 g_a1
  refine own_by st113 ?_
  obtain ⟨fs, hr, hrun, hended, hW, hsame⟩ := X113.leave (v := none) (fun _ => rfl)
  refine ⟨_, _, ?_, hrun, hended, _, _, rfl, ?_, ⟨_, rfl⟩, hW, hsame.mono (by decide) (by decide)⟩
  · exact X113.returnOut hx Bd.returns (hb hby d7_116) hr
  · show Q7 Z a1 a2 a3 tl th ts sl sh ss cS cD cL cH cC n l0 l1 u0 u1 s0 s1 hist kv kc v0 v1 o0 o1 h0 n0 _ T113.heap _
    rw [e113]
    exact ⟨rfl, N113, K113, (⟨_, _, _, _, _, _, _, _, _, _, _, _, _, _, _, _, ND, ⟨G1, G2, G3, G4, G5⟩, (E_q.wr W113), fc, fc_3, fc_4, fc_5, fc_6, fc_7, fc_8, fc_9, fc_10, fc_11, fc_12, fc_13, Fw113, (by rw [← hkk]; exact fc_2), (A_tl.other W113 (Ne.symm n_a1_tl)), (A_th.other W113 (Ne.symm n_a1_th)), (A_ts.other W113 (Ne.symm n_a1_ts)), (A_sl.other W113 (Ne.symm n_a1_sl)), (A_sh.other W113 (Ne.symm n_a1_sh)), (A_ss.other W113 (Ne.symm n_a1_ss)), (A_cS.other W113 (Ne.symm n_a1_cS)), (A_cD.other W113 (Ne.symm n_a1_cD)), (A_cL.other W113 (Ne.symm n_a1_cL)), (A_cH.other W113 (Ne.symm n_a1_cH)), (A_cC.other W113 (Ne.symm n_a1_cC))⟩), (AE1.other W113 n_a3_a1)⟩
theorem d15_0 : decode prog_33_method_9_code 0 = .ok (.aload_n 0, 1) := by decide +kernel
theorem d15_1 : decode prog_33_method_9_code 1 = .ok (.dup, 1) := by decide +kernel
theorem d15_2 : decode prog_33_method_9_code 2 = .ok (.getfield 103, 3) := by decide +kernel
theorem d15_5 : decode prog_33_method_9_code 5 = .ok (.iconst 1, 1) := by decide +kernel
theorem d15_6 : decode prog_33_method_9_code 6 = .ok (.isub, 1) := by decide +kernel
theorem d15_7 : decode prog_33_method_9_code 7 = .ok (.putfield 103, 3) := by decide +kernel
theorem d15_10 : decode prog_33_method_9_code 10 = .ok (.aload_n 0, 1) := by decide +kernel
theorem d15_11 : decode prog_33_method_9_code 11 = .ok (.getfield 109, 3) := by decide +kernel
theorem d15_14 : decode prog_33_method_9_code 14 = .ok (.ifCond .le 146, 3) := by decide +kernel
theorem d15_17 : decode prog_33_method_9_code 17 = .ok (.aload_n 0, 1) := by decide +kernel
theorem d15_18 : decode prog_33_method_9_code 18 = .ok (.getfield 20, 3) := by decide +kernel
theorem d15_21 : decode prog_33_method_9_code 21 = .ok (.aload_n 0, 1) := by decide +kernel
theorem d15_22 : decode prog_33_method_9_code 22 = .ok (.getfield 109, 3) := by decide +kernel
theorem d15_25 : decode prog_33_method_9_code 25 = .ok (.iconst 1, 1) := by decide +kernel
theorem d15_26 : decode prog_33_method_9_code 26 = .ok (.isub, 1) := by decide +kernel
theorem d15_27 : decode prog_33_method_9_code 27 = .ok (.iaload, 1) := by decide +kernel
theorem d15_28 : decode prog_33_method_9_code 28 = .ok (.aload_n 0, 1) := by decide +kernel
theorem d15_29 : decode prog_33_method_9_code 29 = .ok (.getfield 103, 3) := by decide +kernel
theorem d15_32 : decode prog_33_method_9_code 32 = .ok (.if_icmp .ne 128, 3) := by decide +kernel
theorem d15_35 : decode prog_33_method_9_code 35 = .ok (.aload_n 0, 1) := by decide +kernel
theorem d15_36 : decode prog_33_method_9_code 36 = .ok (.dup, 1) := by decide +kernel
theorem d15_37 : decode prog_33_method_9_code 37 = .ok (.getfield 109, 3) := by decide +kernel
theorem d15_40 : decode prog_33_method_9_code 40 = .ok (.iconst 1, 1) := by decide +kernel
theorem d15_41 : decode prog_33_method_9_code 41 = .ok (.isub, 1) := by decide +kernel
theorem d15_42 : decode prog_33_method_9_code 42 = .ok (.putfield 109, 3) := by decide +kernel
theorem d15_45 : decode prog_33_method_9_code 45 = .ok (.aload_n 0, 1) := by decide +kernel
theorem d15_46 : decode prog_33_method_9_code 46 = .ok (.getfield 24, 3) := by decide +kernel
theorem d15_49 : decode prog_33_method_9_code 49 = .ok (.aload_n 0, 1) := by decide +kernel
theorem d15_50 : decode prog_33_method_9_code 50 = .ok (.getfield 109, 3) := by decide +kernel
theorem d15_53 : decode prog_33_method_9_code 53 = .ok (.iaload, 1) := by decide +kernel
theorem d15_54 : decode prog_33_method_9_code 54 = .ok (.istore_n 1, 1) := by decide +kernel
theorem d15_55 : decode prog_33_method_9_code 55 = .ok (.aload_n 0, 1) := by decide +kernel
theorem d15_56 : decode prog_33_method_9_code 56 = .ok (.getfield 55, 3) := by decide +kernel
theorem d15_59 : decode prog_33_method_9_code 59 = .ok (.iload_n 1, 1) := by decide +kernel
theorem d15_60 : decode prog_33_method_9_code 60 = .ok (.faload, 1) := by decide +kernel
theorem d15_61 : decode prog_33_method_9_code 61 = .ok (.fstore_n 2, 1) := by decide +kernel
theorem d15_62 : decode prog_33_method_9_code 62 = .ok (.aload_n 0, 1) := by decide +kernel
theorem d15_63 : decode prog_33_method_9_code 63 = .ok (.getfield 58, 3) := by decide +kernel
theorem d15_66 : decode prog_33_method_9_code 66 = .ok (.iload_n 1, 1) := by decide +kernel
theorem d15_67 : decode prog_33_method_9_code 67 = .ok (.faload, 1) := by decide +kernel
theorem d15_68 : decode prog_33_method_9_code 68 = .ok (.fstore_n 3, 1) := by decide +kernel
theorem d15_69 : decode prog_33_method_9_code 69 = .ok (.aload_n 0, 1) := by decide +kernel
theorem d15_70 : decode prog_33_method_9_code 70 = .ok (.getfield 61, 3) := by decide +kernel
theorem d15_73 : decode prog_33_method_9_code 73 = .ok (.iload_n 1, 1) := by decide +kernel
theorem d15_74 : decode prog_33_method_9_code 74 = .ok (.faload, 1) := by decide +kernel
theorem d15_75 : decode prog_33_method_9_code 75 = .ok (.fstore 4, 2) := by decide +kernel
theorem d15_77 : decode prog_33_method_9_code 77 = .ok (.aload_n 0, 1) := by decide +kernel
theorem d15_78 : decode prog_33_method_9_code 78 = .ok (.getfield 109, 3) := by decide +kernel
theorem d15_81 : decode prog_33_method_9_code 81 = .ok (.iconst 1, 1) := by decide +kernel
theorem d15_82 : decode prog_33_method_9_code 82 = .ok (.isub, 1) := by decide +kernel
theorem d15_83 : decode prog_33_method_9_code 83 = .ok (.istore 5, 2) := by decide +kernel
theorem d15_85 : decode prog_33_method_9_code 85 = .ok (.iload 5, 2) := by decide +kernel
theorem d15_87 : decode prog_33_method_9_code 87 = .ok (.ifCond .lt 48, 3) := by decide +kernel
theorem d15_90 : decode prog_33_method_9_code 90 = .ok (.aload_n 0, 1) := by decide +kernel
theorem d15_91 : decode prog_33_method_9_code 91 = .ok (.getfield 24, 3) := by decide +kernel
theorem d15_94 : decode prog_33_method_9_code 94 = .ok (.iload 5, 2) := by decide +kernel
theorem d15_96 : decode prog_33_method_9_code 96 = .ok (.iaload, 1) := by decide +kernel
theorem d15_97 : decode prog_33_method_9_code 97 = .ok (.iload_n 1, 1) := by decide +kernel
theorem d15_98 : decode prog_33_method_9_code 98 = .ok (.if_icmp .ne 31, 3) := by decide +kernel
theorem d15_101 : decode prog_33_method_9_code 101 = .ok (.aload_n 0, 1) := by decide +kernel
theorem d15_102 : decode prog_33_method_9_code 102 = .ok (.getfield 27, 3) := by decide +kernel
theorem d15_105 : decode prog_33_method_9_code 105 = .ok (.iload 5, 2) := by decide +kernel
theorem d15_107 : decode prog_33_method_9_code 107 = .ok (.faload, 1) := by decide +kernel
theorem d15_108 : decode prog_33_method_9_code 108 = .ok (.fstore_n 2, 1) := by decide +kernel
theorem d15_109 : decode prog_33_method_9_code 109 = .ok (.aload_n 0, 1) := by decide +kernel
theorem d15_110 : decode prog_33_method_9_code 110 = .ok (.getfield 31, 3) := by decide +kernel
theorem d15_113 : decode prog_33_method_9_code 113 = .ok (.iload 5, 2) := by decide +kernel
theorem d15_115 : decode prog_33_method_9_code 115 = .ok (.faload, 1) := by decide +kernel
theorem d15_116 : decode prog_33_method_9_code 116 = .ok (.fstore_n 3, 1) := by decide +kernel
theorem d15_117 : decode prog_33_method_9_code 117 = .ok (.aload_n 0, 1) := by decide +kernel
theorem d15_118 : decode prog_33_method_9_code 118 = .ok (.getfield 34, 3) := by decide +kernel
theorem d15_121 : decode prog_33_method_9_code 121 = .ok (.iload 5, 2) := by decide +kernel
theorem d15_123 : decode prog_33_method_9_code 123 = .ok (.faload, 1) := by decide +kernel
theorem d15_124 : decode prog_33_method_9_code 124 = .ok (.fstore 4, 2) := by decide +kernel
theorem d15_126 : decode prog_33_method_9_code 126 = .ok (.goto 9, 3) := by decide +kernel
theorem d15_129 : decode prog_33_method_9_code 129 = .ok (.iinc 5 (-1), 3) := by decide +kernel
theorem d15_132 : decode prog_33_method_9_code 132 = .ok (.goto (-47), 3) := by decide +kernel
theorem d15_135 : decode prog_33_method_9_code 135 = .ok (.aload_n 0, 1) := by decide +kernel
theorem d15_136 : decode prog_33_method_9_code 136 = .ok (.getfield 46, 3) := by decide +kernel
theorem d15_139 : decode prog_33_method_9_code 139 = .ok (.iload_n 1, 1) := by decide +kernel
theorem d15_140 : decode prog_33_method_9_code 140 = .ok (.fload_n 2, 1) := by decide +kernel
theorem d15_141 : decode prog_33_method_9_code 141 = .ok (.fastore, 1) := by decide +kernel
theorem d15_142 : decode prog_33_method_9_code 142 = .ok (.aload_n 0, 1) := by decide +kernel
theorem d15_143 : decode prog_33_method_9_code 143 = .ok (.getfield 49, 3) := by decide +kernel
theorem d15_146 : decode prog_33_method_9_code 146 = .ok (.iload_n 1, 1) := by decide +kernel
theorem d15_147 : decode prog_33_method_9_code 147 = .ok (.fload_n 3, 1) := by decide +kernel
theorem d15_148 : decode prog_33_method_9_code 148 = .ok (.fastore, 1) := by decide +kernel
theorem d15_149 : decode prog_33_method_9_code 149 = .ok (.aload_n 0, 1) := by decide +kernel
theorem d15_150 : decode prog_33_method_9_code 150 = .ok (.getfield 52, 3) := by decide +kernel
theorem d15_153 : decode prog_33_method_9_code 153 = .ok (.iload_n 1, 1) := by decide +kernel
theorem d15_154 : decode prog_33_method_9_code 154 = .ok (.fload 4, 2) := by decide +kernel
theorem d15_156 : decode prog_33_method_9_code 156 = .ok (.fastore, 1) := by decide +kernel
theorem d15_157 : decode prog_33_method_9_code 157 = .ok (.goto (-147), 3) := by decide +kernel
theorem d15_160 : decode prog_33_method_9_code 160 = .ok (.return_, 1) := by decide +kernel
theorem pn_15 : plainFor (⟨"com/example/reverie/reverie/ScalarQuantizer", "removeLast", "()V"⟩ : MethodName) = true := by first | exact plainFor_of_name (by first | (simp [plainName, overriddenIn]; done) | decide +kernel) | decide +kernel | exact Jvm.Free.JP.mathPlain rfl (by decide +kernel)
theorem ef_15 (m : MethodId) (a1 : Addr) : entryFrame m #[(.ref a1)] 6 = mkF m 0 #[.val (.ref a1), .unset, .unset, .unset, .unset, .unset] [] := by first | (simp [entryFrame, mkF, argsToLocals, Value.category]; done) | rfl
def Q15 (Z : State) (a1 : Addr) (tl : Addr) (th : Addr) (ts : Addr) (sl : Addr) (sh : Addr) (ss : Addr) (cS : Addr) (cD : Addr) (cL : Addr) (cH : Addr) (cC : Addr) (n : Int32) (l0 : UInt32) (l1 : UInt32) (u0 : UInt32) (u1 : UInt32) (s0 : UInt32) (s1 : UInt32) (hist : List own_E) (h0 : Heap) (n0 : Nat) (v : Option Value) (h : Heap) (L : List Loc) : Prop := v = none ∧ Fr n0 L ∧ Keep h0 h [a1, tl, th, ts, cS, cD, cL, cH, cC] ∧ own_R Z h a1 tl th ts sl sh ss cS cD cL cH cC (n - (1 : Int32)) (own_pop (n - (1 : Int32)) hist)
set_option maxRecDepth 65536 in
set_option maxHeartbeats 40000000 in
theorem rm15 (l : Launch) (Z : State) (a0 : Array Value) (hw : ∀ d ∈ tables_1, d.before a0 Z = true) (ws : List Jvm.Cond) (a1 : Addr) (tl : Addr) (th : Addr) (ts : Addr) (sl : Addr) (sh : Addr) (ss : Addr) (cS : Addr) (cD : Addr) (cL : Addr) (cH : Addr) (cC : Addr) (n : Int32) (l0 : UInt32) (l1 : UInt32) (u0 : UInt32) (u1 : UInt32) (s0 : UInt32) (s1 : UInt32) (hist : List own_E) (h0 : Heap) (n0 : Nat) (Z0 : n0 ≤ h0.size) (hI0 : own_last (0 : Int32) hist = (l0, u0, s0)) (hI1 : own_last (1 : Int32) hist = (l1, u1, s1)) (QQ : own_Q Z h0 a1 tl th ts sl sh ss cS cD cL cH cC n l0 l1 u0 u1 s0 s1 hist) (hl : hist.length < 16) (hdm : own_dm hist) (ge : ∀ x ∈ [a1, tl, th, ts, sl, sh, ss, cS, cD, cL, cH, cC], n0 ≤ x) :
    MetFree l (⟨"com/example/reverie/reverie/ScalarQuantizer", "removeLast", "()V"⟩ : MethodName) (head1 (Jvm.Cond.code (⟨"com/example/reverie/reverie/ScalarQuantizer", "removeLast", "()V"⟩ : MethodName) prog_33_method_9_code 6 none :: ws) ({ frames := 0, cells := 0, slots := 0, locals := 0 } : Room)) (fun a U => a = #[(.ref a1)] ∧ Z.Warmed39 U.vm ∧ U.heap = h0) (fun _ _ _ _ _ => True) (fun _ U o U' => ∃ v L, o = .returned v ∧ Q15 Z a1 tl th ts sl sh ss cS cD cL cH cC n l0 l1 u0 u1 s0 s1 hist h0 n0 v U'.heap L ∧ FrameEnd U o U' L ({ frames := 0, cells := 0, slots := 0, locals := 0 } : Room).cells ({ frames := 0, cells := 0, slots := 0, locals := 0 } : Room).slots) := by
  refine MetFree.of_bodySF pn_15 hisR ?_
  intro p e s m args below meth c s₁ Bd hml0 hP hK
  obtain ⟨rfl, hZ, hh⟩ := hP
  have hx := Bd.exec
  have hby := Bd.bytes
  have hml : c.maxLocals = 6 := hml0
  have hown : s.vm.findClass "com/example/reverie/reverie/ScalarQuantizer" = some m.cls := findClass_of_methodNamed Bd.named
  have hnm := (name_of_methodNamed Bd.named Bd.method).1
  have X0 : Stand p l e ({ frames := 0, cells := 0, slots := 0, locals := 0 } : Room) s m #[(.ref a1)] below meth c s₁ [] 0 0 := Stand.of_body Bd
  have e0 : s₁.heap = h0 := by rw [← hh, Bd.state]; rfl
  have N0 := Fr.nil n0
  refine own_at (castTop (ef_15 m a1)) ?_
  obtain ⟨ktl, kth, kts, ksl, ksh, kss, kcS, kcD, kcL, kcH, kcC, g1, g2, g3, g4, g5, ND, ⟨G1, G2, G3, G4, G5⟩, E_q, F_dim, F_tl, F_th, F_ts, F_sl, F_sh, F_ss, F_cS, F_cD, F_cL, F_cH, F_cC, F_ec, F_cc, A_tl, A_th, A_ts, A_sl, A_sh, A_ss, A_cS, A_cD, A_cL, A_cH, A_cC⟩ := id QQ
  have n_a1_tl : a1 ≠ tl := E_q.neArv A_tl (own_w hw 7 rfl)
  have n_a1_th : a1 ≠ th := E_q.neArv A_th (own_w hw 7 rfl)
  have n_a1_ts : a1 ≠ ts := E_q.neArv A_ts (own_w hw 7 rfl)
  have n_a1_sl : a1 ≠ sl := E_q.neArv A_sl (own_w hw 7 rfl)
  have n_a1_sh : a1 ≠ sh := E_q.neArv A_sh (own_w hw 7 rfl)
  have n_a1_ss : a1 ≠ ss := E_q.neArv A_ss (own_w hw 7 rfl)
  have n_a1_cS : a1 ≠ cS := E_q.neArv A_cS (own_w hw 7 rfl)
  have n_a1_cD : a1 ≠ cD := E_q.neArv A_cD (own_w hw 7 rfl)
  have n_a1_cL : a1 ≠ cL := E_q.neArv A_cL (own_w hw 7 rfl)
  have n_a1_cH : a1 ≠ cH := E_q.neArv A_cH (own_w hw 7 rfl)
  have n_a1_cC : a1 ≠ cC := E_q.neArv A_cC (own_w hw 7 rfl)
  obtain ⟨kk, hkk⟩ : ∃ z : Int32, z = Int32.ofNat hist.length := ⟨_, rfl⟩
  rw [← hkk] at F_cc
  have g_a1 : n0 ≤ a1 := ge a1 (List.mem_of_getElem? (i := 0) rfl)
  have g_tl : n0 ≤ tl := ge tl (List.mem_of_getElem? (i := 1) rfl)
  have g_th : n0 ≤ th := ge th (List.mem_of_getElem? (i := 2) rfl)
  have g_ts : n0 ≤ ts := ge ts (List.mem_of_getElem? (i := 3) rfl)
  have g_sl : n0 ≤ sl := ge sl (List.mem_of_getElem? (i := 4) rfl)
  have g_sh : n0 ≤ sh := ge sh (List.mem_of_getElem? (i := 5) rfl)
  have g_ss : n0 ≤ ss := ge ss (List.mem_of_getElem? (i := 6) rfl)
  have g_cS : n0 ≤ cS := ge cS (List.mem_of_getElem? (i := 7) rfl)
  have g_cD : n0 ≤ cD := ge cD (List.mem_of_getElem? (i := 8) rfl)
  have g_cL : n0 ≤ cL := ge cL (List.mem_of_getElem? (i := 9) rfl)
  have g_cH : n0 ≤ cH := ge cH (List.mem_of_getElem? (i := 10) rfl)
  have g_cC : n0 ≤ cC := ge cC (List.mem_of_getElem? (i := 11) rfl)
  have K0 := Keep.refl h0 [a1, tl, th, ts, cS, cD, cL, cH, cC]
  have sg2 : ∀ t, own_S p e below s₁ (mkF m 2 (own_ARUUUUU a1) [(.ref a1), (.ref a1)]) t → own_S p e below s₁ (mkF m 0 (own_ARUUUUU a1) []) t := by
    intro t k
    refine XS.aloadN X0.here hx rfl (hb hby d15_0) rfl rfl ?_
    show own_S p e below s₁ (mkF m 1 (own_ARUUUUU a1) [(.ref a1)]) _
    refine XS.dup X0.here hx rfl (hb hby d15_1) rfl rfl ?_
    exact k
  refine own_by sg2 ?_
  obtain ⟨T2, X2, e2, st2⟩ := getF X0 hx hZ hown (host := "") (Or.inl (own_w hw 83 rfl)) Via.refl e0 F_ec (g := (mkF m 2 (own_ARUUUUU a1) [(.ref a1), (.ref a1)])) rfl rfl (hb hby d15_2)
  refine own_by st2 ?_
  obtain ⟨nn, hnn⟩ : ∃ z : Int32, z = (n - (1 : Int32)) := ⟨_, rfl⟩
  have sg7 : ∀ t, own_S p e below T2 (mkF m 7 (own_ARUUUUU a1) [(.int nn), (.ref a1)]) t → own_S p e below T2 (mkF m 5 (own_ARUUUUU a1) [(.int n), (.ref a1)]) t := by
    intro t k
    rw [hnn] at k
    refine XS.iconst X2.here hx rfl (hb hby d15_5) ?_
    show own_S p e below T2 (mkF m 6 (own_ARUUUUU a1) [(.int (1 : Int32)), (.int n), (.ref a1)]) _
    refine XS.isub X2.here hx rfl (hb hby d15_6) rfl ?_
    exact k
  refine own_by sg7 ?_
  obtain ⟨T7, h7, X7, e7, W7, st7⟩ := putF X2 hx hZ hown (host := "") (Or.inl (own_w hw 83 rfl)) Via.refl e2 F_ec E_q (Or.inl (own_w hw 84 rfl)) (own_w hw 7 rfl) (ty := .int) (by decide) rfl rfl (g := (mkF m 7 (own_ARUUUUU a1) [(.int nn), (.ref a1)])) rfl rfl (hb hby d15_7)
  have Fw7 := F_ec.same W7
  have fc := (F_dim.other W7 (Or.inr (slot_ne (Or.inr (own_w hw 39 rfl)) (Or.inl (own_w hw 84 rfl)) (by decide) (t := .int) (t' := .int) (by decide) (by decide))))
  have fc_2 := (F_cc.other W7 (Or.inr (slot_ne (Or.inl (own_w hw 82 rfl)) (Or.inl (own_w hw 84 rfl)) (by decide) (t := .int) (t' := .int) (by decide) (by decide))))
  have fc_3 := (F_tl.other W7 (Or.inr (slot_ne (Or.inr (own_w hw 50 rfl)) (Or.inl (own_w hw 84 rfl)) (by decide) (t := (.array .float)) (t' := .int) (by decide) (by decide))))
  have fc_4 := (F_th.other W7 (Or.inr (slot_ne (Or.inr (own_w hw 52 rfl)) (Or.inl (own_w hw 84 rfl)) (by decide) (t := (.array .float)) (t' := .int) (by decide) (by decide))))
  have fc_5 := (F_ts.other W7 (Or.inr (slot_ne (Or.inr (own_w hw 54 rfl)) (Or.inl (own_w hw 84 rfl)) (by decide) (t := (.array .float)) (t' := .int) (by decide) (by decide))))
  have fc_6 := (F_sl.other W7 (Or.inr (slot_ne (Or.inr (own_w hw 56 rfl)) (Or.inl (own_w hw 84 rfl)) (by decide) (t := (.array .float)) (t' := .int) (by decide) (by decide))))
  have fc_7 := (F_sh.other W7 (Or.inr (slot_ne (Or.inr (own_w hw 58 rfl)) (Or.inl (own_w hw 84 rfl)) (by decide) (t := (.array .float)) (t' := .int) (by decide) (by decide))))
  have fc_8 := (F_ss.other W7 (Or.inr (slot_ne (Or.inr (own_w hw 60 rfl)) (Or.inl (own_w hw 84 rfl)) (by decide) (t := (.array .float)) (t' := .int) (by decide) (by decide))))
  have fc_9 := (F_cS.other W7 (Or.inr (slot_ne (Or.inl (own_w hw 29 rfl)) (Or.inl (own_w hw 84 rfl)) (by decide) (t := (.array .int)) (t' := .int) (by decide) (by decide))))
  have fc_10 := (F_cD.other W7 (Or.inr (slot_ne (Or.inl (own_w hw 31 rfl)) (Or.inl (own_w hw 84 rfl)) (by decide) (t := (.array .int)) (t' := .int) (by decide) (by decide))))
  have fc_11 := (F_cL.other W7 (Or.inr (slot_ne (Or.inl (own_w hw 33 rfl)) (Or.inl (own_w hw 84 rfl)) (by decide) (t := (.array .float)) (t' := .int) (by decide) (by decide))))
  have fc_12 := (F_cH.other W7 (Or.inr (slot_ne (Or.inl (own_w hw 35 rfl)) (Or.inl (own_w hw 84 rfl)) (by decide) (t := (.array .float)) (t' := .int) (by decide) (by decide))))
  have fc_13 := (F_cC.other W7 (Or.inr (slot_ne (Or.inl (own_w hw 37 rfl)) (Or.inl (own_w hw 84 rfl)) (by decide) (t := (.array .float)) (t' := .int) (by decide) (by decide))))
  have K7 : Keep h0 h7 [a1, tl, th, ts, cS, cD, cL, cH, cC] := K0.wr W7 (Or.inl (List.mem_of_getElem? (i := 0) rfl))
  have Z7 : n0 ≤ h7.size := Nat.le_trans Z0 (Keep.of_wr W7).1
  have N7 := Fr.snoc X7 N0 g_a1
  refine own_by st7 ?_
  have outer : ∀ (kO : Nat) (hist : List own_E) (l0 l1 u0 u1 s0 s1 : UInt32) (T : State) (L : List Loc) (H : Heap) (x1 x2 x3 x4 x5 : Slot), hist.length = kO → hist.length < 16 → own_dm hist → own_last (0 : Int32) hist = (l0, u0, s0) → own_last (1 : Int32) hist = (l1, u1, s1) → Stand p l e ({ frames := 0, cells := 0, slots := 0, locals := 0 } : Room) s m #[(.ref a1)] below meth c T L 0 0 → Fr n0 L → T.heap = H → Keep h0 H [a1, tl, th, ts, cS, cD, cL, cH, cC] → n0 ≤ H.size → own_Q Z H a1 tl th ts sl sh ss cS cD cL cH cC nn l0 l1 u0 u1 s0 s1 hist → own_one x1 → own_one x2 → own_one x3 → own_one x4 → own_one x5 → ∃ (T' : State) (L' : List Loc) (H' : Heap) (y1 y2 y3 y4 y5 : Slot), Stand p l e ({ frames := 0, cells := 0, slots := 0, locals := 0 } : Room) s m #[(.ref a1)] below meth c T' L' 0 0 ∧ Fr n0 L' ∧ T'.heap = H' ∧ Keep h0 H' [a1, tl, th, ts, cS, cD, cL, cH, cC] ∧ own_R Z H' a1 tl th ts sl sh ss cS cD cL cH cC nn (own_pop nn hist) ∧ ∀ t, own_S p e below T' (mkF m 160 (own_ARSSSSS a1 y1 y2 y3 y4 y5) []) t → own_S p e below T (mkF m 10 (own_ARSSSSS a1 x1 x2 x3 x4 x5) []) t := by
    intro kO
    induction kO with
    | zero =>
      intro hist l0 l1 u0 u1 s0 s1 T L H x1 x2 x3 x4 x5 hlen hl hdm hI0 hI1 X NL eT KH ZH QQ o1 o2 o3 o4 o5
      obtain rfl := List.eq_nil_of_length_eq_zero hlen
      obtain ⟨ktl, kth, kts, ksl, ksh, kss, kcS, kcD, kcL, kcH, kcC, g1, g2, g3, g4, g5, ND, ⟨G1, G2, G3, G4, G5⟩, E_q, F_dim, F_tl, F_th, F_ts, F_sl, F_sh, F_ss, F_cS, F_cD, F_cL, F_cH, F_cC, F_ec, F_cc, A_tl, A_th, A_ts, A_sl, A_sh, A_ss, A_cS, A_cD, A_cL, A_cH, A_cC⟩ := id QQ
      have n_a1_tl : a1 ≠ tl := E_q.neArv A_tl (own_w hw 7 rfl)
      have n_a1_th : a1 ≠ th := E_q.neArv A_th (own_w hw 7 rfl)
      have n_a1_ts : a1 ≠ ts := E_q.neArv A_ts (own_w hw 7 rfl)
      have n_a1_sl : a1 ≠ sl := E_q.neArv A_sl (own_w hw 7 rfl)
      have n_a1_sh : a1 ≠ sh := E_q.neArv A_sh (own_w hw 7 rfl)
      have n_a1_ss : a1 ≠ ss := E_q.neArv A_ss (own_w hw 7 rfl)
      have n_a1_cS : a1 ≠ cS := E_q.neArv A_cS (own_w hw 7 rfl)
      have n_a1_cD : a1 ≠ cD := E_q.neArv A_cD (own_w hw 7 rfl)
      have n_a1_cL : a1 ≠ cL := E_q.neArv A_cL (own_w hw 7 rfl)
      have n_a1_cH : a1 ≠ cH := E_q.neArv A_cH (own_w hw 7 rfl)
      have n_a1_cC : a1 ≠ cC := E_q.neArv A_cC (own_w hw 7 rfl)
      obtain ⟨kk, hkk⟩ : ∃ z : Int32, z = Int32.ofNat ([] : List own_E).length := ⟨_, rfl⟩
      rw [← hkk] at F_cc
      have sg11 : ∀ t, own_S p e below T (mkF m 11 (own_ARSSSSS a1 x1 x2 x3 x4 x5) [(.ref a1)]) t → own_S p e below T (mkF m 10 (own_ARSSSSS a1 x1 x2 x3 x4 x5) []) t := by
        intro t k
        refine XS.aloadN X.here hx rfl (hb hby d15_10) rfl rfl ?_
        exact k
      obtain ⟨T11, X11, e11, st11⟩ := getF X hx hZ hown (host := "") (Or.inl (own_w hw 81 rfl)) Via.refl eT F_cc (g := (mkF m 11 (own_ARSSSSS a1 x1 x2 x3 x4 x5) [(.ref a1)])) rfl rfl (hb hby d15_11)
      have sg160 : ∀ t, own_S p e below T11 (mkF m 160 (own_ARSSSSS a1 x1 x2 x3 x4 x5) []) t → own_S p e below T11 (mkF m 14 (own_ARSSSSS a1 x1 x2 x3 x4 x5) [(.int kk)]) t := by
        intro t k
        refine XS.ifYes X11.here hx rfl (pc0 := 14) (pc' := 160) rfl (hb hby d15_14) rfl ((if0 _ _).trans (flt (by rw [hkk]; decide : ¬ ((0 : Int32) < kk))).2.2.2) (by decide) (by decide) ?_
        exact k
      exact ⟨T11, _, _, (x1) , (x2) , (x3) , (x4) , (x5), X11, NL, e11, KH, (by rw [own_pop_nil]; exact ⟨l0, l1, u0, u1, s0, s1, hI0, hI1, (⟨_, _, _, _, _, _, _, _, _, _, _, _, _, _, _, _, ND, ⟨G1, G2, G3, G4, G5⟩, E_q, F_dim, F_tl, F_th, F_ts, F_sl, F_sh, F_ss, F_cS, F_cD, F_cL, F_cH, F_cC, F_ec, (by rw [← hkk]; exact F_cc), A_tl, A_th, A_ts, A_sl, A_sh, A_ss, A_cS, A_cD, A_cL, A_cH, A_cC⟩)⟩), fun t k => (sg11 t (st11 t (sg160 t k)))⟩
    | succ kO ih =>
      intro hist l0 l1 u0 u1 s0 s1 T L H x1 x2 x3 x4 x5 hlen hl hdm hI0 hI1 X NL eT KH ZH QQ o1 o2 o3 o4 o5
      obtain ⟨hs, ee, rfl⟩ := own_snoc hlen
      obtain ⟨es, ed, el, eh, ec⟩ := ee
      have hl' : hs.length < 15 := by simp at hl; omega
      obtain ⟨ktl, kth, kts, ksl, ksh, kss, kcS, kcD, kcL, kcH, kcC, g1, g2, g3, g4, g5, ND, ⟨G1, G2, G3, G4, G5⟩, E_q, F_dim, F_tl, F_th, F_ts, F_sl, F_sh, F_ss, F_cS, F_cD, F_cL, F_cH, F_cC, F_ec, F_cc, A_tl, A_th, A_ts, A_sl, A_sh, A_ss, A_cS, A_cD, A_cL, A_cH, A_cC⟩ := id QQ
      have n_a1_tl : a1 ≠ tl := E_q.neArv A_tl (own_w hw 7 rfl)
      have n_a1_th : a1 ≠ th := E_q.neArv A_th (own_w hw 7 rfl)
      have n_a1_ts : a1 ≠ ts := E_q.neArv A_ts (own_w hw 7 rfl)
      have n_a1_sl : a1 ≠ sl := E_q.neArv A_sl (own_w hw 7 rfl)
      have n_a1_sh : a1 ≠ sh := E_q.neArv A_sh (own_w hw 7 rfl)
      have n_a1_ss : a1 ≠ ss := E_q.neArv A_ss (own_w hw 7 rfl)
      have n_a1_cS : a1 ≠ cS := E_q.neArv A_cS (own_w hw 7 rfl)
      have n_a1_cD : a1 ≠ cD := E_q.neArv A_cD (own_w hw 7 rfl)
      have n_a1_cL : a1 ≠ cL := E_q.neArv A_cL (own_w hw 7 rfl)
      have n_a1_cH : a1 ≠ cH := E_q.neArv A_cH (own_w hw 7 rfl)
      have n_a1_cC : a1 ≠ cC := E_q.neArv A_cC (own_w hw 7 rfl)
      obtain ⟨kk, hkk⟩ : ∃ z : Int32, z = Int32.ofNat (hs ++ [(es, ed, el, eh, ec)]).length := ⟨_, rfl⟩
      rw [← hkk] at F_cc
      rw [own_shift] at A_cS
      rw [own_shift] at A_cD
      rw [own_shift] at A_cL
      rw [own_shift] at A_cH
      rw [own_shift] at A_cC
      have sg11 : ∀ t, own_S p e below T (mkF m 11 (own_ARSSSSS a1 x1 x2 x3 x4 x5) [(.ref a1)]) t → own_S p e below T (mkF m 10 (own_ARSSSSS a1 x1 x2 x3 x4 x5) []) t := by
        intro t k
        refine XS.aloadN X.here hx rfl (hb hby d15_10) rfl rfl ?_
        exact k
      obtain ⟨T11, X11, e11, st11⟩ := getF X hx hZ hown (host := "") (Or.inl (own_w hw 81 rfl)) Via.refl eT F_cc (g := (mkF m 11 (own_ARSSSSS a1 x1 x2 x3 x4 x5) [(.ref a1)])) rfl rfl (hb hby d15_11)
      have sg18 : ∀ t, own_S p e below T11 (mkF m 18 (own_ARSSSSS a1 x1 x2 x3 x4 x5) [(.ref a1)]) t → own_S p e below T11 (mkF m 14 (own_ARSSSSS a1 x1 x2 x3 x4 x5) [(.int kk)]) t := by
        intro t k
        refine XS.ifNo X11.here hx rfl (hb hby d15_14) rfl ((if0 _ _).trans (tlt (by rw [hkk]; exact own_ofpos (by simp) hl : (0 : Int32) < kk)).2.2.2) ?_
        show own_S p e below T11 (mkF m 17 (own_ARSSSSS a1 x1 x2 x3 x4 x5) []) _
        refine XS.aloadN X11.here hx rfl (hb hby d15_17) rfl rfl ?_
        exact k
      obtain ⟨T18, X18, e18, st18⟩ := getF X11 hx hZ hown (host := "") (Or.inl (own_w hw 28 rfl)) Via.refl e11 F_cS (g := (mkF m 18 (own_ARSSSSS a1 x1 x2 x3 x4 x5) [(.ref a1)])) rfl rfl (hb hby d15_18)
      have sg22 : ∀ t, own_S p e below T18 (mkF m 22 (own_ARSSSSS a1 x1 x2 x3 x4 x5) [(.ref a1), (.ref cS)]) t → own_S p e below T18 (mkF m 21 (own_ARSSSSS a1 x1 x2 x3 x4 x5) [(.ref cS)]) t := by
        intro t k
        refine XS.aloadN X18.here hx rfl (hb hby d15_21) rfl rfl ?_
        exact k
      obtain ⟨T22, X22, e22, st22⟩ := getF X18 hx hZ hown (host := "") (Or.inl (own_w hw 81 rfl)) Via.refl e18 F_cc (g := (mkF m 22 (own_ARSSSSS a1 x1 x2 x3 x4 x5) [(.ref a1), (.ref cS)])) rfl rfl (hb hby d15_22)
      obtain ⟨j27, hj27⟩ : ∃ z : Int32, z = (kk - (1 : Int32)) := ⟨_, rfl⟩
      have sg27 : ∀ t, own_S p e below T22 (mkF m 27 (own_ARSSSSS a1 x1 x2 x3 x4 x5) [(.int j27), (.ref cS)]) t → own_S p e below T22 (mkF m 25 (own_ARSSSSS a1 x1 x2 x3 x4 x5) [(.int kk), (.ref cS)]) t := by
        intro t k
        rw [hj27] at k
        refine XS.iconst X22.here hx rfl (hb hby d15_25) ?_
        show own_S p e below T22 (mkF m 26 (own_ARSSSSS a1 x1 x2 x3 x4 x5) [(.int (1 : Int32)), (.int kk), (.ref cS)]) _
        refine XS.isub X22.here hx rfl (hb hby d15_26) rfl ?_
        exact k
      have hn_j27 : j27 = Int32.ofNat hs.length := by rw [hj27, hkk]; exact own_ofpred hs _
      obtain ⟨cl27, Ar27, qa27, Sa27, Na27, Ha27, Ga27⟩ := id A_cS
      have ib27 : ¬ (j27 < 0 ∨ cl27.slots.size ≤ j27.toNatClampNeg) := inb_of Sa27 (by rw [hn_j27]; exact own_of16 (by omega))
      have sg29 : ∀ t, own_S p e below T22 (mkF m 29 (own_ARSSSSS a1 x1 x2 x3 x4 x5) [(.ref a1), (.int es)]) t → own_S p e below T22 (mkF m 27 (own_ARSSSSS a1 x1 x2 x3 x4 x5) [(.int j27), (.ref cS)]) t := by
        intro t k
        refine X22.iaload hx (j := j27) (v := (.int es)) (by rw [e22]; exact Ar27.1) (State.isArrayOf_alike hZ.alike Ar27.2.1) Ar27.2.2 ib27 (Has.at Ha27 ib27 (own_get0 _ _ hs _ _ _ hn_j27 (by omega))) (g := (mkF m 27 (own_ARSSSSS a1 x1 x2 x3 x4 x5) [(.int j27), (.ref cS)])) rfl rfl (hb hby d15_27) _ ?_
        show own_S p e below T22 (mkF m 28 (own_ARSSSSS a1 x1 x2 x3 x4 x5) [(.int es)]) _
        refine XS.aloadN X22.here hx rfl (hb hby d15_28) rfl rfl ?_
        exact k
      obtain ⟨T29, X29, e29, st29⟩ := getF X22 hx hZ hown (host := "") (Or.inl (own_w hw 83 rfl)) Via.refl e22 F_ec (g := (mkF m 29 (own_ARSSSSS a1 x1 x2 x3 x4 x5) [(.ref a1), (.int es)])) rfl rfl (hb hby d15_29)
      by_cases hc32 : es = nn
      · have sg37 : ∀ t, own_S p e below T29 (mkF m 37 (own_ARSSSSS a1 x1 x2 x3 x4 x5) [(.ref a1), (.ref a1)]) t → own_S p e below T29 (mkF m 32 (own_ARSSSSS a1 x1 x2 x3 x4 x5) [(.int nn), (.int es)]) t := by
          intro t k
          refine XS.icmpNo X29.here hx rfl (hb hby d15_32) rfl (teq hc32).2 ?_
          show own_S p e below T29 (mkF m 35 (own_ARSSSSS a1 x1 x2 x3 x4 x5) []) _
          refine XS.aloadN X29.here hx rfl (hb hby d15_35) rfl rfl ?_
          show own_S p e below T29 (mkF m 36 (own_ARSSSSS a1 x1 x2 x3 x4 x5) [(.ref a1)]) _
          refine XS.dup X29.here hx rfl (hb hby d15_36) rfl rfl ?_
          exact k
        obtain ⟨T37, X37, e37, st37⟩ := getF X29 hx hZ hown (host := "") (Or.inl (own_w hw 81 rfl)) Via.refl e29 F_cc (g := (mkF m 37 (own_ARSSSSS a1 x1 x2 x3 x4 x5) [(.ref a1), (.ref a1)])) rfl rfl (hb hby d15_37)
        obtain ⟨j42, hj42⟩ : ∃ z : Int32, z = (kk - (1 : Int32)) := ⟨_, rfl⟩
        have sg42 : ∀ t, own_S p e below T37 (mkF m 42 (own_ARSSSSS a1 x1 x2 x3 x4 x5) [(.int j42), (.ref a1)]) t → own_S p e below T37 (mkF m 40 (own_ARSSSSS a1 x1 x2 x3 x4 x5) [(.int kk), (.ref a1)]) t := by
          intro t k
          rw [hj42] at k
          refine XS.iconst X37.here hx rfl (hb hby d15_40) ?_
          show own_S p e below T37 (mkF m 41 (own_ARSSSSS a1 x1 x2 x3 x4 x5) [(.int (1 : Int32)), (.int kk), (.ref a1)]) _
          refine XS.isub X37.here hx rfl (hb hby d15_41) rfl ?_
          exact k
        have hn_j42 : j42 = Int32.ofNat hs.length := by rw [hj42, hkk]; exact own_ofpred hs _
        obtain ⟨T42, h42, X42, e42, W42, st42⟩ := putF X37 hx hZ hown (host := "") (Or.inl (own_w hw 81 rfl)) Via.refl e37 F_cc E_q (Or.inl (own_w hw 82 rfl)) (own_w hw 7 rfl) (ty := .int) (by decide) rfl rfl (g := (mkF m 42 (own_ARSSSSS a1 x1 x2 x3 x4 x5) [(.int j42), (.ref a1)])) rfl rfl (hb hby d15_42)
        have Fw42 := F_cc.same W42
        have fc_14 := (F_dim.other W42 (Or.inr (slot_ne (Or.inr (own_w hw 39 rfl)) (Or.inl (own_w hw 82 rfl)) (by decide) (t := .int) (t' := .int) (by decide) (by decide))))
        have fc_15 := (F_ec.other W42 (Or.inr (slot_ne (Or.inl (own_w hw 84 rfl)) (Or.inl (own_w hw 82 rfl)) (by decide) (t := .int) (t' := .int) (by decide) (by decide))))
        have fc_16 := (F_tl.other W42 (Or.inr (slot_ne (Or.inr (own_w hw 50 rfl)) (Or.inl (own_w hw 82 rfl)) (by decide) (t := (.array .float)) (t' := .int) (by decide) (by decide))))
        have fc_17 := (F_th.other W42 (Or.inr (slot_ne (Or.inr (own_w hw 52 rfl)) (Or.inl (own_w hw 82 rfl)) (by decide) (t := (.array .float)) (t' := .int) (by decide) (by decide))))
        have fc_18 := (F_ts.other W42 (Or.inr (slot_ne (Or.inr (own_w hw 54 rfl)) (Or.inl (own_w hw 82 rfl)) (by decide) (t := (.array .float)) (t' := .int) (by decide) (by decide))))
        have fc_19 := (F_sl.other W42 (Or.inr (slot_ne (Or.inr (own_w hw 56 rfl)) (Or.inl (own_w hw 82 rfl)) (by decide) (t := (.array .float)) (t' := .int) (by decide) (by decide))))
        have fc_20 := (F_sh.other W42 (Or.inr (slot_ne (Or.inr (own_w hw 58 rfl)) (Or.inl (own_w hw 82 rfl)) (by decide) (t := (.array .float)) (t' := .int) (by decide) (by decide))))
        have fc_21 := (F_ss.other W42 (Or.inr (slot_ne (Or.inr (own_w hw 60 rfl)) (Or.inl (own_w hw 82 rfl)) (by decide) (t := (.array .float)) (t' := .int) (by decide) (by decide))))
        have fc_22 := (F_cS.other W42 (Or.inr (slot_ne (Or.inl (own_w hw 29 rfl)) (Or.inl (own_w hw 82 rfl)) (by decide) (t := (.array .int)) (t' := .int) (by decide) (by decide))))
        have fc_23 := (F_cD.other W42 (Or.inr (slot_ne (Or.inl (own_w hw 31 rfl)) (Or.inl (own_w hw 82 rfl)) (by decide) (t := (.array .int)) (t' := .int) (by decide) (by decide))))
        have fc_24 := (F_cL.other W42 (Or.inr (slot_ne (Or.inl (own_w hw 33 rfl)) (Or.inl (own_w hw 82 rfl)) (by decide) (t := (.array .float)) (t' := .int) (by decide) (by decide))))
        have fc_25 := (F_cH.other W42 (Or.inr (slot_ne (Or.inl (own_w hw 35 rfl)) (Or.inl (own_w hw 82 rfl)) (by decide) (t := (.array .float)) (t' := .int) (by decide) (by decide))))
        have fc_26 := (F_cC.other W42 (Or.inr (slot_ne (Or.inl (own_w hw 37 rfl)) (Or.inl (own_w hw 82 rfl)) (by decide) (t := (.array .float)) (t' := .int) (by decide) (by decide))))
        have K42 : Keep h0 h42 [a1, tl, th, ts, cS, cD, cL, cH, cC] := KH.wr W42 (Or.inl (List.mem_of_getElem? (i := 0) rfl))
        have Z42 : n0 ≤ h42.size := Nat.le_trans ZH (Keep.of_wr W42).1
        have N42 := Fr.snoc X42 NL g_a1
        have sg46 : ∀ t, own_S p e below T42 (mkF m 46 (own_ARSSSSS a1 x1 x2 x3 x4 x5) [(.ref a1)]) t → own_S p e below T42 (mkF m 45 (own_ARSSSSS a1 x1 x2 x3 x4 x5) []) t := by
          intro t k
          refine XS.aloadN X42.here hx rfl (hb hby d15_45) rfl rfl ?_
          exact k
        obtain ⟨T46, X46, e46, st46⟩ := getF X42 hx hZ hown (host := "") (Or.inl (own_w hw 30 rfl)) Via.refl e42 fc_23 (g := (mkF m 46 (own_ARSSSSS a1 x1 x2 x3 x4 x5) [(.ref a1)])) rfl rfl (hb hby d15_46)
        have sg50 : ∀ t, own_S p e below T46 (mkF m 50 (own_ARSSSSS a1 x1 x2 x3 x4 x5) [(.ref a1), (.ref cD)]) t → own_S p e below T46 (mkF m 49 (own_ARSSSSS a1 x1 x2 x3 x4 x5) [(.ref cD)]) t := by
          intro t k
          refine XS.aloadN X46.here hx rfl (hb hby d15_49) rfl rfl ?_
          exact k
        obtain ⟨T50, X50, e50, st50⟩ := getF X46 hx hZ hown (host := "") (Or.inl (own_w hw 81 rfl)) Via.refl e46 Fw42 (g := (mkF m 50 (own_ARSSSSS a1 x1 x2 x3 x4 x5) [(.ref a1), (.ref cD)])) rfl rfl (hb hby d15_50)
        obtain ⟨cl53, Ar53, qa53, Sa53, Na53, Ha53, Ga53⟩ := id (A_cD.other W42 (Ne.symm n_a1_cD))
        have ib53 : ¬ (j42 < 0 ∨ cl53.slots.size ≤ j42.toNatClampNeg) := inb_of Sa53 (by rw [hn_j42]; exact own_of16 (by omega))
        have sg54 : ∀ t, own_S p e below T50 (mkF m 54 (own_ARSSSSS a1 x1 x2 x3 x4 x5) [(.int ed)]) t → own_S p e below T50 (mkF m 53 (own_ARSSSSS a1 x1 x2 x3 x4 x5) [(.int j42), (.ref cD)]) t := by
          intro t k
          refine X50.iaload hx (j := j42) (v := (.int ed)) (by rw [e50]; exact Ar53.1) (State.isArrayOf_alike hZ.alike Ar53.2.1) Ar53.2.2 ib53 (Has.at Ha53 ib53 (own_get0 _ _ hs _ _ _ hn_j42 (by omega))) (g := (mkF m 53 (own_ARSSSSS a1 x1 x2 x3 x4 x5) [(.int j42), (.ref cD)])) rfl rfl (hb hby d15_53) _ ?_
          exact k
        have hd := hdm.r
        obtain hd | hd : ed = (0 : Int32) ∨ ed = (1 : Int32) := hd
        · subst hd
          have sg56 : ∀ t, own_S p e below T50 (mkF m 56 (own_ARISSSS a1 (0 : Int32) x2 x3 x4 x5) [(.ref a1)]) t → own_S p e below T50 (mkF m 54 (own_ARSSSSS a1 x1 x2 x3 x4 x5) [(.int (0 : Int32))]) t := by
            intro t k
            refine XS.istoreN X50.here hx rfl (hb hby d15_54) rfl (l' := (own_ARISSSS a1 (0 : Int32) x2 x3 x4 x5)) (own_sto rfl o1 rfl rfl) ?_
            show own_S p e below T50 (mkF m 55 (own_ARISSSS a1 (0 : Int32) x2 x3 x4 x5) []) _
            refine XS.aloadN X50.here hx rfl (hb hby d15_55) rfl rfl ?_
            exact k
          obtain ⟨T56, X56, e56, st56⟩ := getF X50 hx hZ hown (host := "") (Or.inl (own_w hw 55 rfl)) Via.refl e50 fc_19 (g := (mkF m 56 (own_ARISSSS a1 (0 : Int32) x2 x3 x4 x5) [(.ref a1)])) rfl rfl (hb hby d15_56)
          have sg60 : ∀ t, own_S p e below T56 (mkF m 60 (own_ARISSSS a1 (0 : Int32) x2 x3 x4 x5) [(.int (0 : Int32)), (.ref sl)]) t → own_S p e below T56 (mkF m 59 (own_ARISSSS a1 (0 : Int32) x2 x3 x4 x5) [(.ref sl)]) t := by
            intro t k
            refine XS.iloadN X56.here hx rfl (hb hby d15_59) rfl ?_
            exact k
          obtain ⟨cl60, Ar60, qa60, Sa60, Na60, Ha60, Ga60⟩ := id (A_sl.other W42 (Ne.symm n_a1_sl))
          have sg63 : ∀ t, own_S p e below T56 (mkF m 63 (own_ARIFSSS a1 (0 : Int32) (2139095040 : UInt32) x3 x4 x5) [(.ref a1)]) t → own_S p e below T56 (mkF m 60 (own_ARISSSS a1 (0 : Int32) x2 x3 x4 x5) [(.int (0 : Int32)), (.ref sl)]) t := by
            intro t k
            refine X56.faload hx (j := (0 : Int32)) (v := (.float (2139095040 : UInt32))) (by rw [e56]; exact Ar60.1) (State.isArrayOf_alike hZ.alike Ar60.2.1) Ar60.2.2 (inb_of Sa60 ⟨by decide, by decide⟩) (Ha60 0 (by rw [Sa60]; decide)) (g := (mkF m 60 (own_ARISSSS a1 (0 : Int32) x2 x3 x4 x5) [(.int (0 : Int32)), (.ref sl)])) rfl rfl (hb hby d15_60) _ ?_
            show own_S p e below T56 (mkF m 61 (own_ARISSSS a1 (0 : Int32) x2 x3 x4 x5) [(.float (2139095040 : UInt32))]) _
            refine XS.fstoreN X56.here hx rfl (hb hby d15_61) rfl (l' := (own_ARIFSSS a1 (0 : Int32) (2139095040 : UInt32) x3 x4 x5)) (own_sto rfl o2 rfl rfl) ?_
            show own_S p e below T56 (mkF m 62 (own_ARIFSSS a1 (0 : Int32) (2139095040 : UInt32) x3 x4 x5) []) _
            refine XS.aloadN X56.here hx rfl (hb hby d15_62) rfl rfl ?_
            exact k
          obtain ⟨T63, X63, e63, st63⟩ := getF X56 hx hZ hown (host := "") (Or.inl (own_w hw 57 rfl)) Via.refl e56 fc_20 (g := (mkF m 63 (own_ARIFSSS a1 (0 : Int32) (2139095040 : UInt32) x3 x4 x5) [(.ref a1)])) rfl rfl (hb hby d15_63)
          have sg67 : ∀ t, own_S p e below T63 (mkF m 67 (own_ARIFSSS a1 (0 : Int32) (2139095040 : UInt32) x3 x4 x5) [(.int (0 : Int32)), (.ref sh)]) t → own_S p e below T63 (mkF m 66 (own_ARIFSSS a1 (0 : Int32) (2139095040 : UInt32) x3 x4 x5) [(.ref sh)]) t := by
            intro t k
            refine XS.iloadN X63.here hx rfl (hb hby d15_66) rfl ?_
            exact k
          obtain ⟨cl67, Ar67, qa67, Sa67, Na67, Ha67, Ga67⟩ := id (A_sh.other W42 (Ne.symm n_a1_sh))
          have sg70 : ∀ t, own_S p e below T63 (mkF m 70 (own_ARIFFSS a1 (0 : Int32) (2139095040 : UInt32) (4286578688 : UInt32) x4 x5) [(.ref a1)]) t → own_S p e below T63 (mkF m 67 (own_ARIFSSS a1 (0 : Int32) (2139095040 : UInt32) x3 x4 x5) [(.int (0 : Int32)), (.ref sh)]) t := by
            intro t k
            refine X63.faload hx (j := (0 : Int32)) (v := (.float (4286578688 : UInt32))) (by rw [e63]; exact Ar67.1) (State.isArrayOf_alike hZ.alike Ar67.2.1) Ar67.2.2 (inb_of Sa67 ⟨by decide, by decide⟩) (Ha67 0 (by rw [Sa67]; decide)) (g := (mkF m 67 (own_ARIFSSS a1 (0 : Int32) (2139095040 : UInt32) x3 x4 x5) [(.int (0 : Int32)), (.ref sh)])) rfl rfl (hb hby d15_67) _ ?_
            show own_S p e below T63 (mkF m 68 (own_ARIFSSS a1 (0 : Int32) (2139095040 : UInt32) x3 x4 x5) [(.float (4286578688 : UInt32))]) _
            refine XS.fstoreN X63.here hx rfl (hb hby d15_68) rfl (l' := (own_ARIFFSS a1 (0 : Int32) (2139095040 : UInt32) (4286578688 : UInt32) x4 x5)) (own_sto rfl o3 rfl rfl) ?_
            show own_S p e below T63 (mkF m 69 (own_ARIFFSS a1 (0 : Int32) (2139095040 : UInt32) (4286578688 : UInt32) x4 x5) []) _
            refine XS.aloadN X63.here hx rfl (hb hby d15_69) rfl rfl ?_
            exact k
          obtain ⟨T70, X70, e70, st70⟩ := getF X63 hx hZ hown (host := "") (Or.inl (own_w hw 59 rfl)) Via.refl e63 fc_21 (g := (mkF m 70 (own_ARIFFSS a1 (0 : Int32) (2139095040 : UInt32) (4286578688 : UInt32) x4 x5) [(.ref a1)])) rfl rfl (hb hby d15_70)
          have sg74 : ∀ t, own_S p e below T70 (mkF m 74 (own_ARIFFSS a1 (0 : Int32) (2139095040 : UInt32) (4286578688 : UInt32) x4 x5) [(.int (0 : Int32)), (.ref ss)]) t → own_S p e below T70 (mkF m 73 (own_ARIFFSS a1 (0 : Int32) (2139095040 : UInt32) (4286578688 : UInt32) x4 x5) [(.ref ss)]) t := by
            intro t k
            refine XS.iloadN X70.here hx rfl (hb hby d15_73) rfl ?_
            exact k
          obtain ⟨cl74, Ar74, qa74, Sa74, Na74, Ha74, Ga74⟩ := id (A_ss.other W42 (Ne.symm n_a1_ss))
          have sg78 : ∀ t, own_S p e below T70 (mkF m 78 (own_ARIFFFS a1 (0 : Int32) (2139095040 : UInt32) (4286578688 : UInt32) (0 : UInt32) x5) [(.ref a1)]) t → own_S p e below T70 (mkF m 74 (own_ARIFFSS a1 (0 : Int32) (2139095040 : UInt32) (4286578688 : UInt32) x4 x5) [(.int (0 : Int32)), (.ref ss)]) t := by
            intro t k
            refine X70.faload hx (j := (0 : Int32)) (v := (.float (0 : UInt32))) (by rw [e70]; exact Ar74.1) (State.isArrayOf_alike hZ.alike Ar74.2.1) Ar74.2.2 (inb_of Sa74 ⟨by decide, by decide⟩) (Ha74 0 (by rw [Sa74]; decide)) (g := (mkF m 74 (own_ARIFFSS a1 (0 : Int32) (2139095040 : UInt32) (4286578688 : UInt32) x4 x5) [(.int (0 : Int32)), (.ref ss)])) rfl rfl (hb hby d15_74) _ ?_
            show own_S p e below T70 (mkF m 75 (own_ARIFFSS a1 (0 : Int32) (2139095040 : UInt32) (4286578688 : UInt32) x4 x5) [(.float (0 : UInt32))]) _
            refine XS.fstore X70.here hx rfl (hb hby d15_75) rfl (l' := (own_ARIFFFS a1 (0 : Int32) (2139095040 : UInt32) (4286578688 : UInt32) (0 : UInt32) x5)) (own_sto rfl o4 rfl rfl) ?_
            show own_S p e below T70 (mkF m 77 (own_ARIFFFS a1 (0 : Int32) (2139095040 : UInt32) (4286578688 : UInt32) (0 : UInt32) x5) []) _
            refine XS.aloadN X70.here hx rfl (hb hby d15_77) rfl rfl ?_
            exact k
          obtain ⟨T78, X78, e78, st78⟩ := getF X70 hx hZ hown (host := "") (Or.inl (own_w hw 81 rfl)) Via.refl e70 Fw42 (g := (mkF m 78 (own_ARIFFFS a1 (0 : Int32) (2139095040 : UInt32) (4286578688 : UInt32) (0 : UInt32) x5) [(.ref a1)])) rfl rfl (hb hby d15_78)
          obtain ⟨v83, hv83⟩ : ∃ z : Int32, z = (j42 - (1 : Int32)) := ⟨_, rfl⟩
          have sg83 : ∀ t, own_S p e below T78 (mkF m 83 (own_ARIFFFS a1 (0 : Int32) (2139095040 : UInt32) (4286578688 : UInt32) (0 : UInt32) x5) [(.int v83)]) t → own_S p e below T78 (mkF m 81 (own_ARIFFFS a1 (0 : Int32) (2139095040 : UInt32) (4286578688 : UInt32) (0 : UInt32) x5) [(.int j42)]) t := by
            intro t k
            rw [hv83] at k
            refine XS.iconst X78.here hx rfl (hb hby d15_81) ?_
            show own_S p e below T78 (mkF m 82 (own_ARIFFFS a1 (0 : Int32) (2139095040 : UInt32) (4286578688 : UInt32) (0 : UInt32) x5) [(.int (1 : Int32)), (.int j42)]) _
            refine XS.isub X78.here hx rfl (hb hby d15_82) rfl ?_
            exact k
          have sg85 : ∀ t, own_S p e below T78 (mkF m 85 (own_ARIFFFI a1 (0 : Int32) (2139095040 : UInt32) (4286578688 : UInt32) (0 : UInt32) v83) []) t → own_S p e below T78 (mkF m 83 (own_ARIFFFS a1 (0 : Int32) (2139095040 : UInt32) (4286578688 : UInt32) (0 : UInt32) x5) [(.int v83)]) t := by
            intro t k
            refine XS.istore X78.here hx rfl (hb hby d15_83) rfl (l' := (own_ARIFFFI a1 (0 : Int32) (2139095040 : UInt32) (4286578688 : UInt32) (0 : UInt32) v83)) (own_sto rfl o5 rfl rfl) ?_
            exact k
          have inner : ∀ (kI : Nat) (i : Int32) (T : State) (L : List Loc), kI ≤ hs.length → i + 1 = Int32.ofNat kI → Stand p l e ({ frames := 0, cells := 0, slots := 0, locals := 0 } : Room) s m #[(.ref a1)] below meth c T L 0 0 → T.heap = h42 → ∃ (T' : State) (i' : Int32) (c2 c3 c4 : UInt32), own_last (0 : Int32) (hs.take kI) = (c2, c3, c4) ∧ Stand p l e ({ frames := 0, cells := 0, slots := 0, locals := 0 } : Room) s m #[(.ref a1)] below meth c T' L 0 0 ∧ T'.heap = h42 ∧ ∀ t, own_S p e below T' (mkF m 135 (own_ARIFFFI a1 (0 : Int32) c2 c3 c4 i') []) t → own_S p e below T (mkF m 85 (own_ARIFFFI a1 (0 : Int32) (2139095040 : UInt32) (4286578688 : UInt32) (0 : UInt32) i) []) t := by
            intro kI
            induction kI with
            | zero =>
              intro i T L hk hi X eT
              obtain rfl := own_dec0 hi
              have sg135 : ∀ t, own_S p e below T (mkF m 135 (own_ARIFFFI a1 (0 : Int32) (2139095040 : UInt32) (4286578688 : UInt32) (0 : UInt32) (-1 : Int32)) []) t → own_S p e below T (mkF m 85 (own_ARIFFFI a1 (0 : Int32) (2139095040 : UInt32) (4286578688 : UInt32) (0 : UInt32) (-1 : Int32)) []) t := by
                intro t k
                refine XS.iload X.here hx rfl (hb hby d15_85) rfl ?_
                show own_S p e below T (mkF m 87 (own_ARIFFFI a1 (0 : Int32) (2139095040 : UInt32) (4286578688 : UInt32) (0 : UInt32) (-1 : Int32)) [(.int (-1 : Int32))]) _
                refine XS.ifYes X.here hx rfl (pc0 := 87) (pc' := 135) rfl (hb hby d15_87) rfl ((if0 _ _).trans (tlt (by decide : (-1 : Int32) < (0 : Int32))).1) (by decide) (by decide) ?_
                exact k
              exact ⟨T, (-1 : Int32), (2139095040 : UInt32), (4286578688 : UInt32), (0 : UInt32), (by rw [List.take_zero]; exact own_last_nil _), X, eT, fun t k => (sg135 t k)⟩
            | succ kI ih =>
              intro i T L hk hi X eT
              have hik := own_dec hi
              obtain ⟨⟨ks, kd, kl, kh, kc⟩, hq⟩ : ∃ q, hs[kI]? = some q := ⟨_, List.getElem?_eq_getElem (by omega)⟩
              have sg91 : ∀ t, own_S p e below T (mkF m 91 (own_ARIFFFI a1 (0 : Int32) (2139095040 : UInt32) (4286578688 : UInt32) (0 : UInt32) i) [(.ref a1)]) t → own_S p e below T (mkF m 85 (own_ARIFFFI a1 (0 : Int32) (2139095040 : UInt32) (4286578688 : UInt32) (0 : UInt32) i) []) t := by
                intro t k
                refine XS.iload X.here hx rfl (hb hby d15_85) rfl ?_
                show own_S p e below T (mkF m 87 (own_ARIFFFI a1 (0 : Int32) (2139095040 : UInt32) (4286578688 : UInt32) (0 : UInt32) i) [(.int i)]) _
                refine XS.ifNo X.here hx rfl (hb hby d15_87) rfl ((if0 _ _).trans (flt (by rw [hik]; exact (own_of16 (by omega)).1 : ¬ (i < (0 : Int32)))).1) ?_
                show own_S p e below T (mkF m 90 (own_ARIFFFI a1 (0 : Int32) (2139095040 : UInt32) (4286578688 : UInt32) (0 : UInt32) i) []) _
                refine XS.aloadN X.here hx rfl (hb hby d15_90) rfl rfl ?_
                exact k
              obtain ⟨T91, X91, e91, st91⟩ := getF X hx hZ hown (host := "") (Or.inl (own_w hw 30 rfl)) Via.refl eT fc_23 (g := (mkF m 91 (own_ARIFFFI a1 (0 : Int32) (2139095040 : UInt32) (4286578688 : UInt32) (0 : UInt32) i) [(.ref a1)])) rfl rfl (hb hby d15_91)
              have sg96 : ∀ t, own_S p e below T91 (mkF m 96 (own_ARIFFFI a1 (0 : Int32) (2139095040 : UInt32) (4286578688 : UInt32) (0 : UInt32) i) [(.int i), (.ref cD)]) t → own_S p e below T91 (mkF m 94 (own_ARIFFFI a1 (0 : Int32) (2139095040 : UInt32) (4286578688 : UInt32) (0 : UInt32) i) [(.ref cD)]) t := by
                intro t k
                refine XS.iload X91.here hx rfl (hb hby d15_94) rfl ?_
                exact k
              obtain ⟨cl96, Ar96, qa96, Sa96, Na96, Ha96, Ga96⟩ := id (A_cD.other W42 (Ne.symm n_a1_cD))
              have ib96 : ¬ (i < 0 ∨ cl96.slots.size ≤ i.toNatClampNeg) := inb_of Sa96 (by rw [hik]; exact own_of16 (by omega))
              have sg98 : ∀ t, own_S p e below T91 (mkF m 98 (own_ARIFFFI a1 (0 : Int32) (2139095040 : UInt32) (4286578688 : UInt32) (0 : UInt32) i) [(.int (0 : Int32)), (.int kd)]) t → own_S p e below T91 (mkF m 96 (own_ARIFFFI a1 (0 : Int32) (2139095040 : UInt32) (4286578688 : UInt32) (0 : UInt32) i) [(.int i), (.ref cD)]) t := by
                intro t k
                refine X91.iaload hx (j := i) (v := (.int kd)) (by rw [e91]; exact Ar96.1) (State.isArrayOf_alike hZ.alike Ar96.2.1) Ar96.2.2 ib96 (Has.at Ha96 ib96 (own_get _ _ hs _ _ hik hq (by omega))) (g := (mkF m 96 (own_ARIFFFI a1 (0 : Int32) (2139095040 : UInt32) (4286578688 : UInt32) (0 : UInt32) i) [(.int i), (.ref cD)])) rfl rfl (hb hby d15_96) _ ?_
                show own_S p e below T91 (mkF m 97 (own_ARIFFFI a1 (0 : Int32) (2139095040 : UInt32) (4286578688 : UInt32) (0 : UInt32) i) [(.int kd)]) _
                refine XS.iloadN X91.here hx rfl (hb hby d15_97) rfl ?_
                exact k
              by_cases hc98 : kd = (0 : Int32)
              · have sg102 : ∀ t, own_S p e below T91 (mkF m 102 (own_ARIFFFI a1 (0 : Int32) (2139095040 : UInt32) (4286578688 : UInt32) (0 : UInt32) i) [(.ref a1)]) t → own_S p e below T91 (mkF m 98 (own_ARIFFFI a1 (0 : Int32) (2139095040 : UInt32) (4286578688 : UInt32) (0 : UInt32) i) [(.int (0 : Int32)), (.int kd)]) t := by
                  intro t k
                  refine XS.icmpNo X91.here hx rfl (hb hby d15_98) rfl (teq hc98).2 ?_
                  show own_S p e below T91 (mkF m 101 (own_ARIFFFI a1 (0 : Int32) (2139095040 : UInt32) (4286578688 : UInt32) (0 : UInt32) i) []) _
                  refine XS.aloadN X91.here hx rfl (hb hby d15_101) rfl rfl ?_
                  exact k
                obtain ⟨T102, X102, e102, st102⟩ := getF X91 hx hZ hown (host := "") (Or.inl (own_w hw 32 rfl)) Via.refl e91 fc_24 (g := (mkF m 102 (own_ARIFFFI a1 (0 : Int32) (2139095040 : UInt32) (4286578688 : UInt32) (0 : UInt32) i) [(.ref a1)])) rfl rfl (hb hby d15_102)
                have sg107 : ∀ t, own_S p e below T102 (mkF m 107 (own_ARIFFFI a1 (0 : Int32) (2139095040 : UInt32) (4286578688 : UInt32) (0 : UInt32) i) [(.int i), (.ref cL)]) t → own_S p e below T102 (mkF m 105 (own_ARIFFFI a1 (0 : Int32) (2139095040 : UInt32) (4286578688 : UInt32) (0 : UInt32) i) [(.ref cL)]) t := by
                  intro t k
                  refine XS.iload X102.here hx rfl (hb hby d15_105) rfl ?_
                  exact k
                obtain ⟨cl107, Ar107, qa107, Sa107, Na107, Ha107, Ga107⟩ := id (A_cL.other W42 (Ne.symm n_a1_cL))
                have ib107 : ¬ (i < 0 ∨ cl107.slots.size ≤ i.toNatClampNeg) := inb_of Sa107 (by rw [hik]; exact own_of16 (by omega))
                have sg110 : ∀ t, own_S p e below T102 (mkF m 110 (own_ARIFFFI a1 (0 : Int32) kl (4286578688 : UInt32) (0 : UInt32) i) [(.ref a1)]) t → own_S p e below T102 (mkF m 107 (own_ARIFFFI a1 (0 : Int32) (2139095040 : UInt32) (4286578688 : UInt32) (0 : UInt32) i) [(.int i), (.ref cL)]) t := by
                  intro t k
                  refine X102.faload hx (j := i) (v := (.float kl)) (by rw [e102]; exact Ar107.1) (State.isArrayOf_alike hZ.alike Ar107.2.1) Ar107.2.2 ib107 (Has.at Ha107 ib107 (own_get _ _ hs _ _ hik hq (by omega))) (g := (mkF m 107 (own_ARIFFFI a1 (0 : Int32) (2139095040 : UInt32) (4286578688 : UInt32) (0 : UInt32) i) [(.int i), (.ref cL)])) rfl rfl (hb hby d15_107) _ ?_
                  show own_S p e below T102 (mkF m 108 (own_ARIFFFI a1 (0 : Int32) (2139095040 : UInt32) (4286578688 : UInt32) (0 : UInt32) i) [(.float kl)]) _
                  refine XS.fstoreN X102.here hx rfl (hb hby d15_108) rfl (l' := (own_ARIFFFI a1 (0 : Int32) kl (4286578688 : UInt32) (0 : UInt32) i)) rfl ?_
                  show own_S p e below T102 (mkF m 109 (own_ARIFFFI a1 (0 : Int32) kl (4286578688 : UInt32) (0 : UInt32) i) []) _
                  refine XS.aloadN X102.here hx rfl (hb hby d15_109) rfl rfl ?_
                  exact k
                obtain ⟨T110, X110, e110, st110⟩ := getF X102 hx hZ hown (host := "") (Or.inl (own_w hw 34 rfl)) Via.refl e102 fc_25 (g := (mkF m 110 (own_ARIFFFI a1 (0 : Int32) kl (4286578688 : UInt32) (0 : UInt32) i) [(.ref a1)])) rfl rfl (hb hby d15_110)
                have sg115 : ∀ t, own_S p e below T110 (mkF m 115 (own_ARIFFFI a1 (0 : Int32) kl (4286578688 : UInt32) (0 : UInt32) i) [(.int i), (.ref cH)]) t → own_S p e below T110 (mkF m 113 (own_ARIFFFI a1 (0 : Int32) kl (4286578688 : UInt32) (0 : UInt32) i) [(.ref cH)]) t := by
                  intro t k
                  refine XS.iload X110.here hx rfl (hb hby d15_113) rfl ?_
                  exact k
                obtain ⟨cl115, Ar115, qa115, Sa115, Na115, Ha115, Ga115⟩ := id (A_cH.other W42 (Ne.symm n_a1_cH))
                have ib115 : ¬ (i < 0 ∨ cl115.slots.size ≤ i.toNatClampNeg) := inb_of Sa115 (by rw [hik]; exact own_of16 (by omega))
                have sg118 : ∀ t, own_S p e below T110 (mkF m 118 (own_ARIFFFI a1 (0 : Int32) kl kh (0 : UInt32) i) [(.ref a1)]) t → own_S p e below T110 (mkF m 115 (own_ARIFFFI a1 (0 : Int32) kl (4286578688 : UInt32) (0 : UInt32) i) [(.int i), (.ref cH)]) t := by
                  intro t k
                  refine X110.faload hx (j := i) (v := (.float kh)) (by rw [e110]; exact Ar115.1) (State.isArrayOf_alike hZ.alike Ar115.2.1) Ar115.2.2 ib115 (Has.at Ha115 ib115 (own_get _ _ hs _ _ hik hq (by omega))) (g := (mkF m 115 (own_ARIFFFI a1 (0 : Int32) kl (4286578688 : UInt32) (0 : UInt32) i) [(.int i), (.ref cH)])) rfl rfl (hb hby d15_115) _ ?_
                  show own_S p e below T110 (mkF m 116 (own_ARIFFFI a1 (0 : Int32) kl (4286578688 : UInt32) (0 : UInt32) i) [(.float kh)]) _
                  refine XS.fstoreN X110.here hx rfl (hb hby d15_116) rfl (l' := (own_ARIFFFI a1 (0 : Int32) kl kh (0 : UInt32) i)) rfl ?_
                  show own_S p e below T110 (mkF m 117 (own_ARIFFFI a1 (0 : Int32) kl kh (0 : UInt32) i) []) _
                  refine XS.aloadN X110.here hx rfl (hb hby d15_117) rfl rfl ?_
                  exact k
                obtain ⟨T118, X118, e118, st118⟩ := getF X110 hx hZ hown (host := "") (Or.inl (own_w hw 36 rfl)) Via.refl e110 fc_26 (g := (mkF m 118 (own_ARIFFFI a1 (0 : Int32) kl kh (0 : UInt32) i) [(.ref a1)])) rfl rfl (hb hby d15_118)
                have sg123 : ∀ t, own_S p e below T118 (mkF m 123 (own_ARIFFFI a1 (0 : Int32) kl kh (0 : UInt32) i) [(.int i), (.ref cC)]) t → own_S p e below T118 (mkF m 121 (own_ARIFFFI a1 (0 : Int32) kl kh (0 : UInt32) i) [(.ref cC)]) t := by
                  intro t k
                  refine XS.iload X118.here hx rfl (hb hby d15_121) rfl ?_
                  exact k
                obtain ⟨cl123, Ar123, qa123, Sa123, Na123, Ha123, Ga123⟩ := id (A_cC.other W42 (Ne.symm n_a1_cC))
                have ib123 : ¬ (i < 0 ∨ cl123.slots.size ≤ i.toNatClampNeg) := inb_of Sa123 (by rw [hik]; exact own_of16 (by omega))
                have sg135 : ∀ t, own_S p e below T118 (mkF m 135 (own_ARIFFFI a1 (0 : Int32) kl kh kc i) []) t → own_S p e below T118 (mkF m 123 (own_ARIFFFI a1 (0 : Int32) kl kh (0 : UInt32) i) [(.int i), (.ref cC)]) t := by
                  intro t k
                  refine X118.faload hx (j := i) (v := (.float kc)) (by rw [e118]; exact Ar123.1) (State.isArrayOf_alike hZ.alike Ar123.2.1) Ar123.2.2 ib123 (Has.at Ha123 ib123 (own_get _ _ hs _ _ hik hq (by omega))) (g := (mkF m 123 (own_ARIFFFI a1 (0 : Int32) kl kh (0 : UInt32) i) [(.int i), (.ref cC)])) rfl rfl (hb hby d15_123) _ ?_
                  show own_S p e below T118 (mkF m 124 (own_ARIFFFI a1 (0 : Int32) kl kh (0 : UInt32) i) [(.float kc)]) _
                  refine XS.fstore X118.here hx rfl (hb hby d15_124) rfl (l' := (own_ARIFFFI a1 (0 : Int32) kl kh kc i)) rfl ?_
                  show own_S p e below T118 (mkF m 126 (own_ARIFFFI a1 (0 : Int32) kl kh kc i) []) _
                  refine XS.goto X118.here hx rfl (pc0 := 126) (pc' := 135) rfl (hb hby d15_126) (by decide) (by decide) ?_
                  exact k
                exact ⟨T118, i, kl, kh, kc, (by rw [own_tk hq, own_last_yes hc98]), X118, e118, fun t k => (sg91 t (st91 t (sg96 t (sg98 t (sg102 t (st102 t (sg107 t (sg110 t (st110 t (sg115 t (sg118 t (st118 t (sg123 t (sg135 t k))))))))))))))⟩
              · have sg85_2 : ∀ t, own_S p e below T91 (mkF m 85 (own_ARIFFFI a1 (0 : Int32) (2139095040 : UInt32) (4286578688 : UInt32) (0 : UInt32) (i + (-1 : Int32))) []) t → own_S p e below T91 (mkF m 98 (own_ARIFFFI a1 (0 : Int32) (2139095040 : UInt32) (4286578688 : UInt32) (0 : UInt32) i) [(.int (0 : Int32)), (.int kd)]) t := by
                  intro t k
                  refine XS.icmpYes X91.here hx rfl (pc0 := 98) (pc' := 129) rfl (hb hby d15_98) rfl (feq hc98).2 (by decide) (by decide) ?_
                  show own_S p e below T91 (mkF m 129 (own_ARIFFFI a1 (0 : Int32) (2139095040 : UInt32) (4286578688 : UInt32) (0 : UInt32) i) []) _
                  refine XS.iinc X91.here hx rfl (hb hby d15_129) rfl (l' := (own_ARIFFFI a1 (0 : Int32) (2139095040 : UInt32) (4286578688 : UInt32) (0 : UInt32) (i + (-1 : Int32)))) rfl ?_
                  show own_S p e below T91 (mkF m 132 (own_ARIFFFI a1 (0 : Int32) (2139095040 : UInt32) (4286578688 : UInt32) (0 : UInt32) (i + (-1 : Int32))) []) _
                  refine XS.goto X91.here hx rfl (pc0 := 132) (pc' := 85) rfl (hb hby d15_132) (by decide) (by decide) ?_
                  exact k
                obtain ⟨T', i', c2, c3, c4, hl2, X', e', st'⟩ := ih (i + (-1 : Int32)) T91 _ (by omega) (own_down hik) X91 e91
                exact ⟨T', i', c2, c3, c4, (by rw [own_tk hq, own_last_no hc98]; exact hl2), X', e', fun t k => (sg91 t (st91 t (sg96 t (sg98 t (sg85_2 t (st' t k))))))⟩
          obtain ⟨Ti, i5, c2, c3, c4, hlD, Xi, ei, sti⟩ := inner hs.length v83 T78 _ (Nat.le_refl _) (own_up1 hv83 hn_j42) X78 e78
          rw [List.take_length] at hlD
          have sg136 : ∀ t, own_S p e below Ti (mkF m 136 (own_ARIFFFI a1 (0 : Int32) c2 c3 c4 i5) [(.ref a1)]) t → own_S p e below Ti (mkF m 135 (own_ARIFFFI a1 (0 : Int32) c2 c3 c4 i5) []) t := by
            intro t k
            refine XS.aloadN Xi.here hx rfl (hb hby d15_135) rfl rfl ?_
            exact k
          obtain ⟨T136, X136, e136, st136⟩ := getF Xi hx hZ hown (host := "") (Or.inl (own_w hw 49 rfl)) Via.refl ei fc_16 (g := (mkF m 136 (own_ARIFFFI a1 (0 : Int32) c2 c3 c4 i5) [(.ref a1)])) rfl rfl (hb hby d15_136)
          have sg141 : ∀ t, own_S p e below T136 (mkF m 141 (own_ARIFFFI a1 (0 : Int32) c2 c3 c4 i5) [(.float c2), (.int (0 : Int32)), (.ref tl)]) t → own_S p e below T136 (mkF m 139 (own_ARIFFFI a1 (0 : Int32) c2 c3 c4 i5) [(.ref tl)]) t := by
            intro t k
            refine XS.iloadN X136.here hx rfl (hb hby d15_139) rfl ?_
            show own_S p e below T136 (mkF m 140 (own_ARIFFFI a1 (0 : Int32) c2 c3 c4 i5) [(.int (0 : Int32)), (.ref tl)]) _
            refine XS.floadN X136.here hx rfl (hb hby d15_140) rfl ?_
            exact k
          obtain ⟨cl141, Ar141, qa141, Sa141, Na141, Ha141, Ga141⟩ := id (A_tl.other W42 (Ne.symm n_a1_tl))
          obtain ⟨T141, h141, X141, e141, W141, st141⟩ := stF X136 hx hZ e136 Ar141 (j := (0 : Int32)) (inb_of Sa141 ⟨by decide, by decide⟩) (g := (mkF m 141 (own_ARIFFFI a1 (0 : Int32) c2 c3 c4 i5) [(.float c2), (.int (0 : Int32)), (.ref tl)])) rfl rfl (hb hby d15_141)
          have V141 : Arv Z h141 tl ktl .float (2 : Int32) [(.float c2), (.float l1)] (.float (0 : UInt32)) := by
            have q := Arv.set Ar141 qa141 Sa141 Na141 Ha141 Ga141 rfl W141 0 rfl (Nat.le_of_ble_eq_true rfl)
            exact q
          have fc_27 := ((A_th.other W42 (Ne.symm n_a1_th)).other W141 (Ne.symm ND.1))
          have fc_28 := ((A_ts.other W42 (Ne.symm n_a1_ts)).other W141 (Ne.symm ND.2.1))
          have fc_29 := ((A_sl.other W42 (Ne.symm n_a1_sl)).other W141 (Ne.symm ND.2.2.1))
          have fc_30 := ((A_sh.other W42 (Ne.symm n_a1_sh)).other W141 (Ne.symm ND.2.2.2.1))
          have fc_31 := ((A_ss.other W42 (Ne.symm n_a1_ss)).other W141 (Ne.symm ND.2.2.2.2.1))
          have fc_32 := ((A_cS.other W42 (Ne.symm n_a1_cS)).other W141 (Ne.symm ND.2.2.2.2.2.1))
          have fc_33 := ((A_cD.other W42 (Ne.symm n_a1_cD)).other W141 (Ne.symm ND.2.2.2.2.2.2.1))
          have fc_34 := ((A_cL.other W42 (Ne.symm n_a1_cL)).other W141 (Ne.symm ND.2.2.2.2.2.2.2.1))
          have fc_35 := ((A_cH.other W42 (Ne.symm n_a1_cH)).other W141 (Ne.symm ND.2.2.2.2.2.2.2.2.1))
          have fc_36 := ((A_cC.other W42 (Ne.symm n_a1_cC)).other W141 (Ne.symm ND.2.2.2.2.2.2.2.2.2.1))
          have K141 : Keep h0 h141 [a1, tl, th, ts, cS, cD, cL, cH, cC] := K42.wr W141 (Or.inl (List.mem_of_getElem? (i := 1) rfl))
          have Z141 : n0 ≤ h141.size := Nat.le_trans Z42 (Keep.of_wr W141).1
          have N141 := Fr.snoc X141 N42 g_tl
          have sg143 : ∀ t, own_S p e below T141 (mkF m 143 (own_ARIFFFI a1 (0 : Int32) c2 c3 c4 i5) [(.ref a1)]) t → own_S p e below T141 (mkF m 142 (own_ARIFFFI a1 (0 : Int32) c2 c3 c4 i5) []) t := by
            intro t k
            refine XS.aloadN X141.here hx rfl (hb hby d15_142) rfl rfl ?_
            exact k
          obtain ⟨T143, X143, e143, st143⟩ := getF X141 hx hZ hown (host := "") (Or.inl (own_w hw 51 rfl)) Via.refl e141 (fc_17.other W141 (Or.inl n_a1_tl)) (g := (mkF m 143 (own_ARIFFFI a1 (0 : Int32) c2 c3 c4 i5) [(.ref a1)])) rfl rfl (hb hby d15_143)
          have sg148 : ∀ t, own_S p e below T143 (mkF m 148 (own_ARIFFFI a1 (0 : Int32) c2 c3 c4 i5) [(.float c3), (.int (0 : Int32)), (.ref th)]) t → own_S p e below T143 (mkF m 146 (own_ARIFFFI a1 (0 : Int32) c2 c3 c4 i5) [(.ref th)]) t := by
            intro t k
            refine XS.iloadN X143.here hx rfl (hb hby d15_146) rfl ?_
            show own_S p e below T143 (mkF m 147 (own_ARIFFFI a1 (0 : Int32) c2 c3 c4 i5) [(.int (0 : Int32)), (.ref th)]) _
            refine XS.floadN X143.here hx rfl (hb hby d15_147) rfl ?_
            exact k
          obtain ⟨cl148, Ar148, qa148, Sa148, Na148, Ha148, Ga148⟩ := id fc_27
          obtain ⟨T148, h148, X148, e148, W148, st148⟩ := stF X143 hx hZ e143 Ar148 (j := (0 : Int32)) (inb_of Sa148 ⟨by decide, by decide⟩) (g := (mkF m 148 (own_ARIFFFI a1 (0 : Int32) c2 c3 c4 i5) [(.float c3), (.int (0 : Int32)), (.ref th)])) rfl rfl (hb hby d15_148)
          have V148 : Arv Z h148 th kth .float (2 : Int32) [(.float c3), (.float u1)] (.float (0 : UInt32)) := by
            have q := Arv.set Ar148 qa148 Sa148 Na148 Ha148 Ga148 rfl W148 0 rfl (Nat.le_of_ble_eq_true rfl)
            exact q
          have fc_37 := ((fc_14.other W141 (Or.inl n_a1_tl)).other W148 (Or.inl n_a1_th))
          have fc_38 := ((fc_15.other W141 (Or.inl n_a1_tl)).other W148 (Or.inl n_a1_th))
          have fc_39 := ((Fw42.other W141 (Or.inl n_a1_tl)).other W148 (Or.inl n_a1_th))
          have fc_40 := ((fc_16.other W141 (Or.inl n_a1_tl)).other W148 (Or.inl n_a1_th))
          have fc_41 := ((fc_17.other W141 (Or.inl n_a1_tl)).other W148 (Or.inl n_a1_th))
          have fc_42 := ((fc_18.other W141 (Or.inl n_a1_tl)).other W148 (Or.inl n_a1_th))
          have fc_43 := ((fc_19.other W141 (Or.inl n_a1_tl)).other W148 (Or.inl n_a1_th))
          have fc_44 := ((fc_20.other W141 (Or.inl n_a1_tl)).other W148 (Or.inl n_a1_th))
          have fc_45 := ((fc_21.other W141 (Or.inl n_a1_tl)).other W148 (Or.inl n_a1_th))
          have fc_46 := ((fc_22.other W141 (Or.inl n_a1_tl)).other W148 (Or.inl n_a1_th))
          have fc_47 := ((fc_23.other W141 (Or.inl n_a1_tl)).other W148 (Or.inl n_a1_th))
          have fc_48 := ((fc_24.other W141 (Or.inl n_a1_tl)).other W148 (Or.inl n_a1_th))
          have fc_49 := ((fc_25.other W141 (Or.inl n_a1_tl)).other W148 (Or.inl n_a1_th))
          have fc_50 := ((fc_26.other W141 (Or.inl n_a1_tl)).other W148 (Or.inl n_a1_th))
          have fc_51 := (fc_32.other W148 (Ne.symm ND.2.2.2.2.2.2.2.2.2.2.2.2.2.2.1))
          have fc_52 := (fc_33.other W148 (Ne.symm ND.2.2.2.2.2.2.2.2.2.2.2.2.2.2.2.1))
          have fc_53 := (fc_34.other W148 (Ne.symm ND.2.2.2.2.2.2.2.2.2.2.2.2.2.2.2.2.1))
          have fc_54 := (fc_35.other W148 (Ne.symm ND.2.2.2.2.2.2.2.2.2.2.2.2.2.2.2.2.2.1))
          have fc_55 := (fc_36.other W148 (Ne.symm ND.2.2.2.2.2.2.2.2.2.2.2.2.2.2.2.2.2.2.1))
          have K148 : Keep h0 h148 [a1, tl, th, ts, cS, cD, cL, cH, cC] := K141.wr W148 (Or.inl (List.mem_of_getElem? (i := 2) rfl))
          have Z148 : n0 ≤ h148.size := Nat.le_trans Z141 (Keep.of_wr W148).1
          have N148 := Fr.snoc X148 N141 g_th
          have sg150 : ∀ t, own_S p e below T148 (mkF m 150 (own_ARIFFFI a1 (0 : Int32) c2 c3 c4 i5) [(.ref a1)]) t → own_S p e below T148 (mkF m 149 (own_ARIFFFI a1 (0 : Int32) c2 c3 c4 i5) []) t := by
            intro t k
            refine XS.aloadN X148.here hx rfl (hb hby d15_149) rfl rfl ?_
            exact k
          obtain ⟨T150, X150, e150, st150⟩ := getF X148 hx hZ hown (host := "") (Or.inl (own_w hw 53 rfl)) Via.refl e148 fc_42 (g := (mkF m 150 (own_ARIFFFI a1 (0 : Int32) c2 c3 c4 i5) [(.ref a1)])) rfl rfl (hb hby d15_150)
          have sg156 : ∀ t, own_S p e below T150 (mkF m 156 (own_ARIFFFI a1 (0 : Int32) c2 c3 c4 i5) [(.float c4), (.int (0 : Int32)), (.ref ts)]) t → own_S p e below T150 (mkF m 153 (own_ARIFFFI a1 (0 : Int32) c2 c3 c4 i5) [(.ref ts)]) t := by
            intro t k
            refine XS.iloadN X150.here hx rfl (hb hby d15_153) rfl ?_
            show own_S p e below T150 (mkF m 154 (own_ARIFFFI a1 (0 : Int32) c2 c3 c4 i5) [(.int (0 : Int32)), (.ref ts)]) _
            refine XS.fload X150.here hx rfl (hb hby d15_154) rfl ?_
            exact k
          obtain ⟨cl156, Ar156, qa156, Sa156, Na156, Ha156, Ga156⟩ := id (fc_28.other W148 (Ne.symm ND.2.2.2.2.2.2.2.2.2.2.1))
          obtain ⟨T156, h156, X156, e156, W156, st156⟩ := stF X150 hx hZ e150 Ar156 (j := (0 : Int32)) (inb_of Sa156 ⟨by decide, by decide⟩) (g := (mkF m 156 (own_ARIFFFI a1 (0 : Int32) c2 c3 c4 i5) [(.float c4), (.int (0 : Int32)), (.ref ts)])) rfl rfl (hb hby d15_156)
          have V156 : Arv Z h156 ts kts .float (2 : Int32) [(.float c4), (.float s1)] (.float (0 : UInt32)) := by
            have q := Arv.set Ar156 qa156 Sa156 Na156 Ha156 Ga156 rfl W156 0 rfl (Nat.le_of_ble_eq_true rfl)
            exact q
          have fc_56 := ((fc_29.other W148 (Ne.symm ND.2.2.2.2.2.2.2.2.2.2.2.1)).other W156 (Ne.symm ND.2.2.2.2.2.2.2.2.2.2.2.2.2.2.2.2.2.2.2.1))
          have fc_57 := ((fc_30.other W148 (Ne.symm ND.2.2.2.2.2.2.2.2.2.2.2.2.1)).other W156 (Ne.symm ND.2.2.2.2.2.2.2.2.2.2.2.2.2.2.2.2.2.2.2.2.1))
          have fc_58 := ((fc_31.other W148 (Ne.symm ND.2.2.2.2.2.2.2.2.2.2.2.2.2.1)).other W156 (Ne.symm ND.2.2.2.2.2.2.2.2.2.2.2.2.2.2.2.2.2.2.2.2.2.1))
          have fc_59 := (fc_51.other W156 (Ne.symm ND.2.2.2.2.2.2.2.2.2.2.2.2.2.2.2.2.2.2.2.2.2.2.1))
          have fc_60 := (fc_52.other W156 (Ne.symm ND.2.2.2.2.2.2.2.2.2.2.2.2.2.2.2.2.2.2.2.2.2.2.2.1))
          have fc_61 := (fc_53.other W156 (Ne.symm ND.2.2.2.2.2.2.2.2.2.2.2.2.2.2.2.2.2.2.2.2.2.2.2.2.1))
          have fc_62 := (fc_54.other W156 (Ne.symm ND.2.2.2.2.2.2.2.2.2.2.2.2.2.2.2.2.2.2.2.2.2.2.2.2.2.1))
          have fc_63 := (fc_55.other W156 (Ne.symm ND.2.2.2.2.2.2.2.2.2.2.2.2.2.2.2.2.2.2.2.2.2.2.2.2.2.2.1))
          have K156 : Keep h0 h156 [a1, tl, th, ts, cS, cD, cL, cH, cC] := K148.wr W156 (Or.inl (List.mem_of_getElem? (i := 3) rfl))
          have Z156 : n0 ≤ h156.size := Nat.le_trans Z148 (Keep.of_wr W156).1
          have N156 := Fr.snoc X156 N148 g_ts
          have sg10 : ∀ t, own_S p e below T156 (mkF m 10 (own_ARIFFFI a1 (0 : Int32) c2 c3 c4 i5) []) t → own_S p e below T156 (mkF m 157 (own_ARIFFFI a1 (0 : Int32) c2 c3 c4 i5) []) t := by
            intro t k
            refine XS.goto X156.here hx rfl (pc0 := 157) (pc' := 10) rfl (hb hby d15_157) (by decide) (by decide) ?_
            exact k
          obtain ⟨T', L', H', y1, y2, y3, y4, y5, X', N', e', K', R', st'⟩ := ih hs c2 l1 c3 u1 c4 s1 T156 _ h156 (.val (.int (0 : Int32))) (.val (.float c2)) (.val (.float c3)) (.val (.float c4)) (.val (.int i5)) (by simpa using hlen) (by omega) hdm.l hlD ((own_last_no (e := (es, (0 : Int32), el, eh, ec)) (show ¬ (0 : Int32) = (1 : Int32) from by decide)).symm.trans hI1) X156 N156 e156 K156 Z156 (⟨_, _, _, _, _, _, _, _, _, _, _, _, _, _, _, _, ND, ⟨own_gsh G1, own_gsh G2, own_gsh G3, own_gsh G4, own_gsh G5⟩, ((((E_q.wr W42).wr W141).wr W148).wr W156), (fc_37.other W156 (Or.inl n_a1_ts)), (fc_40.other W156 (Or.inl n_a1_ts)), (fc_41.other W156 (Or.inl n_a1_ts)), (fc_42.other W156 (Or.inl n_a1_ts)), (fc_43.other W156 (Or.inl n_a1_ts)), (fc_44.other W156 (Or.inl n_a1_ts)), (fc_45.other W156 (Or.inl n_a1_ts)), (fc_46.other W156 (Or.inl n_a1_ts)), (fc_47.other W156 (Or.inl n_a1_ts)), (fc_48.other W156 (Or.inl n_a1_ts)), (fc_49.other W156 (Or.inl n_a1_ts)), (fc_50.other W156 (Or.inl n_a1_ts)), (fc_38.other W156 (Or.inl n_a1_ts)), (by rw [← hn_j42]; exact (fc_39.other W156 (Or.inl n_a1_ts))), ((V141.other W148 ND.1).other W156 ND.2.1), (V148.other W156 ND.2.2.2.2.2.2.2.2.2.2.1), V156, fc_56, fc_57, fc_58, fc_59, fc_60, fc_61, fc_62, fc_63⟩) (own_one1 rfl) (own_one1 rfl) (own_one1 rfl) (own_one1 rfl) (own_one1 rfl)
          exact ⟨T', L', H', y1, y2, y3, y4, y5, X', N', e', K', (by rw [own_pop_yes hc32]; exact R'), fun t k => (sg11 t (st11 t (sg18 t (st18 t (sg22 t (st22 t (sg27 t (sg29 t (st29 t (sg37 t (st37 t (sg42 t (st42 t (sg46 t (st46 t (sg50 t (st50 t (sg54 t (sg56 t (st56 t (sg60 t (sg63 t (st63 t (sg67 t (sg70 t (st70 t (sg74 t (sg78 t (st78 t (sg83 t (sg85 t (sti t (sg136 t (st136 t (sg141 t (st141 t (sg143 t (st143 t (sg148 t (st148 t (sg150 t (st150 t (sg156 t (st156 t (sg10 t (st' t k))))))))))))))))))))))))))))))))))))))))))))))⟩
        · subst hd
          have sg56 : ∀ t, own_S p e below T50 (mkF m 56 (own_ARISSSS a1 (1 : Int32) x2 x3 x4 x5) [(.ref a1)]) t → own_S p e below T50 (mkF m 54 (own_ARSSSSS a1 x1 x2 x3 x4 x5) [(.int (1 : Int32))]) t := by
            intro t k
            refine XS.istoreN X50.here hx rfl (hb hby d15_54) rfl (l' := (own_ARISSSS a1 (1 : Int32) x2 x3 x4 x5)) (own_sto rfl o1 rfl rfl) ?_
            show own_S p e below T50 (mkF m 55 (own_ARISSSS a1 (1 : Int32) x2 x3 x4 x5) []) _
            refine XS.aloadN X50.here hx rfl (hb hby d15_55) rfl rfl ?_
            exact k
          obtain ⟨T56, X56, e56, st56⟩ := getF X50 hx hZ hown (host := "") (Or.inl (own_w hw 55 rfl)) Via.refl e50 fc_19 (g := (mkF m 56 (own_ARISSSS a1 (1 : Int32) x2 x3 x4 x5) [(.ref a1)])) rfl rfl (hb hby d15_56)
          have sg60 : ∀ t, own_S p e below T56 (mkF m 60 (own_ARISSSS a1 (1 : Int32) x2 x3 x4 x5) [(.int (1 : Int32)), (.ref sl)]) t → own_S p e below T56 (mkF m 59 (own_ARISSSS a1 (1 : Int32) x2 x3 x4 x5) [(.ref sl)]) t := by
            intro t k
            refine XS.iloadN X56.here hx rfl (hb hby d15_59) rfl ?_
            exact k
          obtain ⟨cl60, Ar60, qa60, Sa60, Na60, Ha60, Ga60⟩ := id (A_sl.other W42 (Ne.symm n_a1_sl))
          have sg63 : ∀ t, own_S p e below T56 (mkF m 63 (own_ARIFSSS a1 (1 : Int32) (2139095040 : UInt32) x3 x4 x5) [(.ref a1)]) t → own_S p e below T56 (mkF m 60 (own_ARISSSS a1 (1 : Int32) x2 x3 x4 x5) [(.int (1 : Int32)), (.ref sl)]) t := by
            intro t k
            refine X56.faload hx (j := (1 : Int32)) (v := (.float (2139095040 : UInt32))) (by rw [e56]; exact Ar60.1) (State.isArrayOf_alike hZ.alike Ar60.2.1) Ar60.2.2 (inb_of Sa60 ⟨by decide, by decide⟩) (Ha60 1 (by rw [Sa60]; decide)) (g := (mkF m 60 (own_ARISSSS a1 (1 : Int32) x2 x3 x4 x5) [(.int (1 : Int32)), (.ref sl)])) rfl rfl (hb hby d15_60) _ ?_
            show own_S p e below T56 (mkF m 61 (own_ARISSSS a1 (1 : Int32) x2 x3 x4 x5) [(.float (2139095040 : UInt32))]) _
            refine XS.fstoreN X56.here hx rfl (hb hby d15_61) rfl (l' := (own_ARIFSSS a1 (1 : Int32) (2139095040 : UInt32) x3 x4 x5)) (own_sto rfl o2 rfl rfl) ?_
            show own_S p e below T56 (mkF m 62 (own_ARIFSSS a1 (1 : Int32) (2139095040 : UInt32) x3 x4 x5) []) _
            refine XS.aloadN X56.here hx rfl (hb hby d15_62) rfl rfl ?_
            exact k
          obtain ⟨T63, X63, e63, st63⟩ := getF X56 hx hZ hown (host := "") (Or.inl (own_w hw 57 rfl)) Via.refl e56 fc_20 (g := (mkF m 63 (own_ARIFSSS a1 (1 : Int32) (2139095040 : UInt32) x3 x4 x5) [(.ref a1)])) rfl rfl (hb hby d15_63)
          have sg67 : ∀ t, own_S p e below T63 (mkF m 67 (own_ARIFSSS a1 (1 : Int32) (2139095040 : UInt32) x3 x4 x5) [(.int (1 : Int32)), (.ref sh)]) t → own_S p e below T63 (mkF m 66 (own_ARIFSSS a1 (1 : Int32) (2139095040 : UInt32) x3 x4 x5) [(.ref sh)]) t := by
            intro t k
            refine XS.iloadN X63.here hx rfl (hb hby d15_66) rfl ?_
            exact k
          obtain ⟨cl67, Ar67, qa67, Sa67, Na67, Ha67, Ga67⟩ := id (A_sh.other W42 (Ne.symm n_a1_sh))
          have sg70 : ∀ t, own_S p e below T63 (mkF m 70 (own_ARIFFSS a1 (1 : Int32) (2139095040 : UInt32) (4286578688 : UInt32) x4 x5) [(.ref a1)]) t → own_S p e below T63 (mkF m 67 (own_ARIFSSS a1 (1 : Int32) (2139095040 : UInt32) x3 x4 x5) [(.int (1 : Int32)), (.ref sh)]) t := by
            intro t k
            refine X63.faload hx (j := (1 : Int32)) (v := (.float (4286578688 : UInt32))) (by rw [e63]; exact Ar67.1) (State.isArrayOf_alike hZ.alike Ar67.2.1) Ar67.2.2 (inb_of Sa67 ⟨by decide, by decide⟩) (Ha67 1 (by rw [Sa67]; decide)) (g := (mkF m 67 (own_ARIFSSS a1 (1 : Int32) (2139095040 : UInt32) x3 x4 x5) [(.int (1 : Int32)), (.ref sh)])) rfl rfl (hb hby d15_67) _ ?_
            show own_S p e below T63 (mkF m 68 (own_ARIFSSS a1 (1 : Int32) (2139095040 : UInt32) x3 x4 x5) [(.float (4286578688 : UInt32))]) _
            refine XS.fstoreN X63.here hx rfl (hb hby d15_68) rfl (l' := (own_ARIFFSS a1 (1 : Int32) (2139095040 : UInt32) (4286578688 : UInt32) x4 x5)) (own_sto rfl o3 rfl rfl) ?_
            show own_S p e below T63 (mkF m 69 (own_ARIFFSS a1 (1 : Int32) (2139095040 : UInt32) (4286578688 : UInt32) x4 x5) []) _
            refine XS.aloadN X63.here hx rfl (hb hby d15_69) rfl rfl ?_
            exact k
          obtain ⟨T70, X70, e70, st70⟩ := getF X63 hx hZ hown (host := "") (Or.inl (own_w hw 59 rfl)) Via.refl e63 fc_21 (g := (mkF m 70 (own_ARIFFSS a1 (1 : Int32) (2139095040 : UInt32) (4286578688 : UInt32) x4 x5) [(.ref a1)])) rfl rfl (hb hby d15_70)
          have sg74 : ∀ t, own_S p e below T70 (mkF m 74 (own_ARIFFSS a1 (1 : Int32) (2139095040 : UInt32) (4286578688 : UInt32) x4 x5) [(.int (1 : Int32)), (.ref ss)]) t → own_S p e below T70 (mkF m 73 (own_ARIFFSS a1 (1 : Int32) (2139095040 : UInt32) (4286578688 : UInt32) x4 x5) [(.ref ss)]) t := by
            intro t k
            refine XS.iloadN X70.here hx rfl (hb hby d15_73) rfl ?_
            exact k
          obtain ⟨cl74, Ar74, qa74, Sa74, Na74, Ha74, Ga74⟩ := id (A_ss.other W42 (Ne.symm n_a1_ss))
          have sg78 : ∀ t, own_S p e below T70 (mkF m 78 (own_ARIFFFS a1 (1 : Int32) (2139095040 : UInt32) (4286578688 : UInt32) (0 : UInt32) x5) [(.ref a1)]) t → own_S p e below T70 (mkF m 74 (own_ARIFFSS a1 (1 : Int32) (2139095040 : UInt32) (4286578688 : UInt32) x4 x5) [(.int (1 : Int32)), (.ref ss)]) t := by
            intro t k
            refine X70.faload hx (j := (1 : Int32)) (v := (.float (0 : UInt32))) (by rw [e70]; exact Ar74.1) (State.isArrayOf_alike hZ.alike Ar74.2.1) Ar74.2.2 (inb_of Sa74 ⟨by decide, by decide⟩) (Ha74 1 (by rw [Sa74]; decide)) (g := (mkF m 74 (own_ARIFFSS a1 (1 : Int32) (2139095040 : UInt32) (4286578688 : UInt32) x4 x5) [(.int (1 : Int32)), (.ref ss)])) rfl rfl (hb hby d15_74) _ ?_
            show own_S p e below T70 (mkF m 75 (own_ARIFFSS a1 (1 : Int32) (2139095040 : UInt32) (4286578688 : UInt32) x4 x5) [(.float (0 : UInt32))]) _
            refine XS.fstore X70.here hx rfl (hb hby d15_75) rfl (l' := (own_ARIFFFS a1 (1 : Int32) (2139095040 : UInt32) (4286578688 : UInt32) (0 : UInt32) x5)) (own_sto rfl o4 rfl rfl) ?_
            show own_S p e below T70 (mkF m 77 (own_ARIFFFS a1 (1 : Int32) (2139095040 : UInt32) (4286578688 : UInt32) (0 : UInt32) x5) []) _
            refine XS.aloadN X70.here hx rfl (hb hby d15_77) rfl rfl ?_
            exact k
          obtain ⟨T78, X78, e78, st78⟩ := getF X70 hx hZ hown (host := "") (Or.inl (own_w hw 81 rfl)) Via.refl e70 Fw42 (g := (mkF m 78 (own_ARIFFFS a1 (1 : Int32) (2139095040 : UInt32) (4286578688 : UInt32) (0 : UInt32) x5) [(.ref a1)])) rfl rfl (hb hby d15_78)
          obtain ⟨v83, hv83⟩ : ∃ z : Int32, z = (j42 - (1 : Int32)) := ⟨_, rfl⟩
          have sg83 : ∀ t, own_S p e below T78 (mkF m 83 (own_ARIFFFS a1 (1 : Int32) (2139095040 : UInt32) (4286578688 : UInt32) (0 : UInt32) x5) [(.int v83)]) t → own_S p e below T78 (mkF m 81 (own_ARIFFFS a1 (1 : Int32) (2139095040 : UInt32) (4286578688 : UInt32) (0 : UInt32) x5) [(.int j42)]) t := by
            intro t k
            rw [hv83] at k
            refine XS.iconst X78.here hx rfl (hb hby d15_81) ?_
            show own_S p e below T78 (mkF m 82 (own_ARIFFFS a1 (1 : Int32) (2139095040 : UInt32) (4286578688 : UInt32) (0 : UInt32) x5) [(.int (1 : Int32)), (.int j42)]) _
            refine XS.isub X78.here hx rfl (hb hby d15_82) rfl ?_
            exact k
          have sg85 : ∀ t, own_S p e below T78 (mkF m 85 (own_ARIFFFI a1 (1 : Int32) (2139095040 : UInt32) (4286578688 : UInt32) (0 : UInt32) v83) []) t → own_S p e below T78 (mkF m 83 (own_ARIFFFS a1 (1 : Int32) (2139095040 : UInt32) (4286578688 : UInt32) (0 : UInt32) x5) [(.int v83)]) t := by
            intro t k
            refine XS.istore X78.here hx rfl (hb hby d15_83) rfl (l' := (own_ARIFFFI a1 (1 : Int32) (2139095040 : UInt32) (4286578688 : UInt32) (0 : UInt32) v83)) (own_sto rfl o5 rfl rfl) ?_
            exact k
          have inner : ∀ (kI : Nat) (i : Int32) (T : State) (L : List Loc), kI ≤ hs.length → i + 1 = Int32.ofNat kI → Stand p l e ({ frames := 0, cells := 0, slots := 0, locals := 0 } : Room) s m #[(.ref a1)] below meth c T L 0 0 → T.heap = h42 → ∃ (T' : State) (i' : Int32) (c2 c3 c4 : UInt32), own_last (1 : Int32) (hs.take kI) = (c2, c3, c4) ∧ Stand p l e ({ frames := 0, cells := 0, slots := 0, locals := 0 } : Room) s m #[(.ref a1)] below meth c T' L 0 0 ∧ T'.heap = h42 ∧ ∀ t, own_S p e below T' (mkF m 135 (own_ARIFFFI a1 (1 : Int32) c2 c3 c4 i') []) t → own_S p e below T (mkF m 85 (own_ARIFFFI a1 (1 : Int32) (2139095040 : UInt32) (4286578688 : UInt32) (0 : UInt32) i) []) t := by
            intro kI
            induction kI with
            | zero =>
              intro i T L hk hi X eT
              obtain rfl := own_dec0 hi
              have sg135 : ∀ t, own_S p e below T (mkF m 135 (own_ARIFFFI a1 (1 : Int32) (2139095040 : UInt32) (4286578688 : UInt32) (0 : UInt32) (-1 : Int32)) []) t → own_S p e below T (mkF m 85 (own_ARIFFFI a1 (1 : Int32) (2139095040 : UInt32) (4286578688 : UInt32) (0 : UInt32) (-1 : Int32)) []) t := by
                intro t k
                refine XS.iload X.here hx rfl (hb hby d15_85) rfl ?_
                show own_S p e below T (mkF m 87 (own_ARIFFFI a1 (1 : Int32) (2139095040 : UInt32) (4286578688 : UInt32) (0 : UInt32) (-1 : Int32)) [(.int (-1 : Int32))]) _
                refine XS.ifYes X.here hx rfl (pc0 := 87) (pc' := 135) rfl (hb hby d15_87) rfl ((if0 _ _).trans (tlt (by decide : (-1 : Int32) < (0 : Int32))).1) (by decide) (by decide) ?_
                exact k
              exact ⟨T, (-1 : Int32), (2139095040 : UInt32), (4286578688 : UInt32), (0 : UInt32), (by rw [List.take_zero]; exact own_last_nil _), X, eT, fun t k => (sg135 t k)⟩
            | succ kI ih =>
              intro i T L hk hi X eT
              have hik := own_dec hi
              obtain ⟨⟨ks, kd, kl, kh, kc⟩, hq⟩ : ∃ q, hs[kI]? = some q := ⟨_, List.getElem?_eq_getElem (by omega)⟩
              have sg91 : ∀ t, own_S p e below T (mkF m 91 (own_ARIFFFI a1 (1 : Int32) (2139095040 : UInt32) (4286578688 : UInt32) (0 : UInt32) i) [(.ref a1)]) t → own_S p e below T (mkF m 85 (own_ARIFFFI a1 (1 : Int32) (2139095040 : UInt32) (4286578688 : UInt32) (0 : UInt32) i) []) t := by
                intro t k
                refine XS.iload X.here hx rfl (hb hby d15_85) rfl ?_
                show own_S p e below T (mkF m 87 (own_ARIFFFI a1 (1 : Int32) (2139095040 : UInt32) (4286578688 : UInt32) (0 : UInt32) i) [(.int i)]) _
                refine XS.ifNo X.here hx rfl (hb hby d15_87) rfl ((if0 _ _).trans (flt (by rw [hik]; exact (own_of16 (by omega)).1 : ¬ (i < (0 : Int32)))).1) ?_
                show own_S p e below T (mkF m 90 (own_ARIFFFI a1 (1 : Int32) (2139095040 : UInt32) (4286578688 : UInt32) (0 : UInt32) i) []) _
                refine XS.aloadN X.here hx rfl (hb hby d15_90) rfl rfl ?_
                exact k
              obtain ⟨T91, X91, e91, st91⟩ := getF X hx hZ hown (host := "") (Or.inl (own_w hw 30 rfl)) Via.refl eT fc_23 (g := (mkF m 91 (own_ARIFFFI a1 (1 : Int32) (2139095040 : UInt32) (4286578688 : UInt32) (0 : UInt32) i) [(.ref a1)])) rfl rfl (hb hby d15_91)
              have sg96 : ∀ t, own_S p e below T91 (mkF m 96 (own_ARIFFFI a1 (1 : Int32) (2139095040 : UInt32) (4286578688 : UInt32) (0 : UInt32) i) [(.int i), (.ref cD)]) t → own_S p e below T91 (mkF m 94 (own_ARIFFFI a1 (1 : Int32) (2139095040 : UInt32) (4286578688 : UInt32) (0 : UInt32) i) [(.ref cD)]) t := by
                intro t k
                refine XS.iload X91.here hx rfl (hb hby d15_94) rfl ?_
                exact k
              obtain ⟨cl96, Ar96, qa96, Sa96, Na96, Ha96, Ga96⟩ := id (A_cD.other W42 (Ne.symm n_a1_cD))
              have ib96 : ¬ (i < 0 ∨ cl96.slots.size ≤ i.toNatClampNeg) := inb_of Sa96 (by rw [hik]; exact own_of16 (by omega))
              have sg98 : ∀ t, own_S p e below T91 (mkF m 98 (own_ARIFFFI a1 (1 : Int32) (2139095040 : UInt32) (4286578688 : UInt32) (0 : UInt32) i) [(.int (1 : Int32)), (.int kd)]) t → own_S p e below T91 (mkF m 96 (own_ARIFFFI a1 (1 : Int32) (2139095040 : UInt32) (4286578688 : UInt32) (0 : UInt32) i) [(.int i), (.ref cD)]) t := by
                intro t k
                refine X91.iaload hx (j := i) (v := (.int kd)) (by rw [e91]; exact Ar96.1) (State.isArrayOf_alike hZ.alike Ar96.2.1) Ar96.2.2 ib96 (Has.at Ha96 ib96 (own_get _ _ hs _ _ hik hq (by omega))) (g := (mkF m 96 (own_ARIFFFI a1 (1 : Int32) (2139095040 : UInt32) (4286578688 : UInt32) (0 : UInt32) i) [(.int i), (.ref cD)])) rfl rfl (hb hby d15_96) _ ?_
                show own_S p e below T91 (mkF m 97 (own_ARIFFFI a1 (1 : Int32) (2139095040 : UInt32) (4286578688 : UInt32) (0 : UInt32) i) [(.int kd)]) _
                refine XS.iloadN X91.here hx rfl (hb hby d15_97) rfl ?_
                exact k
              by_cases hc98 : kd = (1 : Int32)
              · have sg102 : ∀ t, own_S p e below T91 (mkF m 102 (own_ARIFFFI a1 (1 : Int32) (2139095040 : UInt32) (4286578688 : UInt32) (0 : UInt32) i) [(.ref a1)]) t → own_S p e below T91 (mkF m 98 (own_ARIFFFI a1 (1 : Int32) (2139095040 : UInt32) (4286578688 : UInt32) (0 : UInt32) i) [(.int (1 : Int32)), (.int kd)]) t := by
                  intro t k
                  refine XS.icmpNo X91.here hx rfl (hb hby d15_98) rfl (teq hc98).2 ?_
                  show own_S p e below T91 (mkF m 101 (own_ARIFFFI a1 (1 : Int32) (2139095040 : UInt32) (4286578688 : UInt32) (0 : UInt32) i) []) _
                  refine XS.aloadN X91.here hx rfl (hb hby d15_101) rfl rfl ?_
                  exact k
                obtain ⟨T102, X102, e102, st102⟩ := getF X91 hx hZ hown (host := "") (Or.inl (own_w hw 32 rfl)) Via.refl e91 fc_24 (g := (mkF m 102 (own_ARIFFFI a1 (1 : Int32) (2139095040 : UInt32) (4286578688 : UInt32) (0 : UInt32) i) [(.ref a1)])) rfl rfl (hb hby d15_102)
                have sg107 : ∀ t, own_S p e below T102 (mkF m 107 (own_ARIFFFI a1 (1 : Int32) (2139095040 : UInt32) (4286578688 : UInt32) (0 : UInt32) i) [(.int i), (.ref cL)]) t → own_S p e below T102 (mkF m 105 (own_ARIFFFI a1 (1 : Int32) (2139095040 : UInt32) (4286578688 : UInt32) (0 : UInt32) i) [(.ref cL)]) t := by
                  intro t k
                  refine XS.iload X102.here hx rfl (hb hby d15_105) rfl ?_
                  exact k
                obtain ⟨cl107, Ar107, qa107, Sa107, Na107, Ha107, Ga107⟩ := id (A_cL.other W42 (Ne.symm n_a1_cL))
                have ib107 : ¬ (i < 0 ∨ cl107.slots.size ≤ i.toNatClampNeg) := inb_of Sa107 (by rw [hik]; exact own_of16 (by omega))
                have sg110 : ∀ t, own_S p e below T102 (mkF m 110 (own_ARIFFFI a1 (1 : Int32) kl (4286578688 : UInt32) (0 : UInt32) i) [(.ref a1)]) t → own_S p e below T102 (mkF m 107 (own_ARIFFFI a1 (1 : Int32) (2139095040 : UInt32) (4286578688 : UInt32) (0 : UInt32) i) [(.int i), (.ref cL)]) t := by
                  intro t k
                  refine X102.faload hx (j := i) (v := (.float kl)) (by rw [e102]; exact Ar107.1) (State.isArrayOf_alike hZ.alike Ar107.2.1) Ar107.2.2 ib107 (Has.at Ha107 ib107 (own_get _ _ hs _ _ hik hq (by omega))) (g := (mkF m 107 (own_ARIFFFI a1 (1 : Int32) (2139095040 : UInt32) (4286578688 : UInt32) (0 : UInt32) i) [(.int i), (.ref cL)])) rfl rfl (hb hby d15_107) _ ?_
                  show own_S p e below T102 (mkF m 108 (own_ARIFFFI a1 (1 : Int32) (2139095040 : UInt32) (4286578688 : UInt32) (0 : UInt32) i) [(.float kl)]) _
                  refine XS.fstoreN X102.here hx rfl (hb hby d15_108) rfl (l' := (own_ARIFFFI a1 (1 : Int32) kl (4286578688 : UInt32) (0 : UInt32) i)) rfl ?_
                  show own_S p e below T102 (mkF m 109 (own_ARIFFFI a1 (1 : Int32) kl (4286578688 : UInt32) (0 : UInt32) i) []) _
                  refine XS.aloadN X102.here hx rfl (hb hby d15_109) rfl rfl ?_
                  exact k
                obtain ⟨T110, X110, e110, st110⟩ := getF X102 hx hZ hown (host := "") (Or.inl (own_w hw 34 rfl)) Via.refl e102 fc_25 (g := (mkF m 110 (own_ARIFFFI a1 (1 : Int32) kl (4286578688 : UInt32) (0 : UInt32) i) [(.ref a1)])) rfl rfl (hb hby d15_110)
                have sg115 : ∀ t, own_S p e below T110 (mkF m 115 (own_ARIFFFI a1 (1 : Int32) kl (4286578688 : UInt32) (0 : UInt32) i) [(.int i), (.ref cH)]) t → own_S p e below T110 (mkF m 113 (own_ARIFFFI a1 (1 : Int32) kl (4286578688 : UInt32) (0 : UInt32) i) [(.ref cH)]) t := by
                  intro t k
                  refine XS.iload X110.here hx rfl (hb hby d15_113) rfl ?_
                  exact k
                obtain ⟨cl115, Ar115, qa115, Sa115, Na115, Ha115, Ga115⟩ := id (A_cH.other W42 (Ne.symm n_a1_cH))
                have ib115 : ¬ (i < 0 ∨ cl115.slots.size ≤ i.toNatClampNeg) := inb_of Sa115 (by rw [hik]; exact own_of16 (by omega))
                have sg118 : ∀ t, own_S p e below T110 (mkF m 118 (own_ARIFFFI a1 (1 : Int32) kl kh (0 : UInt32) i) [(.ref a1)]) t → own_S p e below T110 (mkF m 115 (own_ARIFFFI a1 (1 : Int32) kl (4286578688 : UInt32) (0 : UInt32) i) [(.int i), (.ref cH)]) t := by
                  intro t k
                  refine X110.faload hx (j := i) (v := (.float kh)) (by rw [e110]; exact Ar115.1) (State.isArrayOf_alike hZ.alike Ar115.2.1) Ar115.2.2 ib115 (Has.at Ha115 ib115 (own_get _ _ hs _ _ hik hq (by omega))) (g := (mkF m 115 (own_ARIFFFI a1 (1 : Int32) kl (4286578688 : UInt32) (0 : UInt32) i) [(.int i), (.ref cH)])) rfl rfl (hb hby d15_115) _ ?_
                  show own_S p e below T110 (mkF m 116 (own_ARIFFFI a1 (1 : Int32) kl (4286578688 : UInt32) (0 : UInt32) i) [(.float kh)]) _
                  refine XS.fstoreN X110.here hx rfl (hb hby d15_116) rfl (l' := (own_ARIFFFI a1 (1 : Int32) kl kh (0 : UInt32) i)) rfl ?_
                  show own_S p e below T110 (mkF m 117 (own_ARIFFFI a1 (1 : Int32) kl kh (0 : UInt32) i) []) _
                  refine XS.aloadN X110.here hx rfl (hb hby d15_117) rfl rfl ?_
                  exact k
                obtain ⟨T118, X118, e118, st118⟩ := getF X110 hx hZ hown (host := "") (Or.inl (own_w hw 36 rfl)) Via.refl e110 fc_26 (g := (mkF m 118 (own_ARIFFFI a1 (1 : Int32) kl kh (0 : UInt32) i) [(.ref a1)])) rfl rfl (hb hby d15_118)
                have sg123 : ∀ t, own_S p e below T118 (mkF m 123 (own_ARIFFFI a1 (1 : Int32) kl kh (0 : UInt32) i) [(.int i), (.ref cC)]) t → own_S p e below T118 (mkF m 121 (own_ARIFFFI a1 (1 : Int32) kl kh (0 : UInt32) i) [(.ref cC)]) t := by
                  intro t k
                  refine XS.iload X118.here hx rfl (hb hby d15_121) rfl ?_
                  exact k
                obtain ⟨cl123, Ar123, qa123, Sa123, Na123, Ha123, Ga123⟩ := id (A_cC.other W42 (Ne.symm n_a1_cC))
                have ib123 : ¬ (i < 0 ∨ cl123.slots.size ≤ i.toNatClampNeg) := inb_of Sa123 (by rw [hik]; exact own_of16 (by omega))
                have sg135 : ∀ t, own_S p e below T118 (mkF m 135 (own_ARIFFFI a1 (1 : Int32) kl kh kc i) []) t → own_S p e below T118 (mkF m 123 (own_ARIFFFI a1 (1 : Int32) kl kh (0 : UInt32) i) [(.int i), (.ref cC)]) t := by
                  intro t k
                  refine X118.faload hx (j := i) (v := (.float kc)) (by rw [e118]; exact Ar123.1) (State.isArrayOf_alike hZ.alike Ar123.2.1) Ar123.2.2 ib123 (Has.at Ha123 ib123 (own_get _ _ hs _ _ hik hq (by omega))) (g := (mkF m 123 (own_ARIFFFI a1 (1 : Int32) kl kh (0 : UInt32) i) [(.int i), (.ref cC)])) rfl rfl (hb hby d15_123) _ ?_
                  show own_S p e below T118 (mkF m 124 (own_ARIFFFI a1 (1 : Int32) kl kh (0 : UInt32) i) [(.float kc)]) _
                  refine XS.fstore X118.here hx rfl (hb hby d15_124) rfl (l' := (own_ARIFFFI a1 (1 : Int32) kl kh kc i)) rfl ?_
                  show own_S p e below T118 (mkF m 126 (own_ARIFFFI a1 (1 : Int32) kl kh kc i) []) _
                  refine XS.goto X118.here hx rfl (pc0 := 126) (pc' := 135) rfl (hb hby d15_126) (by decide) (by decide) ?_
                  exact k
                exact ⟨T118, i, kl, kh, kc, (by rw [own_tk hq, own_last_yes hc98]), X118, e118, fun t k => (sg91 t (st91 t (sg96 t (sg98 t (sg102 t (st102 t (sg107 t (sg110 t (st110 t (sg115 t (sg118 t (st118 t (sg123 t (sg135 t k))))))))))))))⟩
              · have sg85_2 : ∀ t, own_S p e below T91 (mkF m 85 (own_ARIFFFI a1 (1 : Int32) (2139095040 : UInt32) (4286578688 : UInt32) (0 : UInt32) (i + (-1 : Int32))) []) t → own_S p e below T91 (mkF m 98 (own_ARIFFFI a1 (1 : Int32) (2139095040 : UInt32) (4286578688 : UInt32) (0 : UInt32) i) [(.int (1 : Int32)), (.int kd)]) t := by
                  intro t k
                  refine XS.icmpYes X91.here hx rfl (pc0 := 98) (pc' := 129) rfl (hb hby d15_98) rfl (feq hc98).2 (by decide) (by decide) ?_
                  show own_S p e below T91 (mkF m 129 (own_ARIFFFI a1 (1 : Int32) (2139095040 : UInt32) (4286578688 : UInt32) (0 : UInt32) i) []) _
                  refine XS.iinc X91.here hx rfl (hb hby d15_129) rfl (l' := (own_ARIFFFI a1 (1 : Int32) (2139095040 : UInt32) (4286578688 : UInt32) (0 : UInt32) (i + (-1 : Int32)))) rfl ?_
                  show own_S p e below T91 (mkF m 132 (own_ARIFFFI a1 (1 : Int32) (2139095040 : UInt32) (4286578688 : UInt32) (0 : UInt32) (i + (-1 : Int32))) []) _
                  refine XS.goto X91.here hx rfl (pc0 := 132) (pc' := 85) rfl (hb hby d15_132) (by decide) (by decide) ?_
                  exact k
                obtain ⟨T', i', c2, c3, c4, hl2, X', e', st'⟩ := ih (i + (-1 : Int32)) T91 _ (by omega) (own_down hik) X91 e91
                exact ⟨T', i', c2, c3, c4, (by rw [own_tk hq, own_last_no hc98]; exact hl2), X', e', fun t k => (sg91 t (st91 t (sg96 t (sg98 t (sg85_2 t (st' t k))))))⟩
          obtain ⟨Ti, i5, c2, c3, c4, hlD, Xi, ei, sti⟩ := inner hs.length v83 T78 _ (Nat.le_refl _) (own_up1 hv83 hn_j42) X78 e78
          rw [List.take_length] at hlD
          have sg136 : ∀ t, own_S p e below Ti (mkF m 136 (own_ARIFFFI a1 (1 : Int32) c2 c3 c4 i5) [(.ref a1)]) t → own_S p e below Ti (mkF m 135 (own_ARIFFFI a1 (1 : Int32) c2 c3 c4 i5) []) t := by
            intro t k
            refine XS.aloadN Xi.here hx rfl (hb hby d15_135) rfl rfl ?_
            exact k
          obtain ⟨T136, X136, e136, st136⟩ := getF Xi hx hZ hown (host := "") (Or.inl (own_w hw 49 rfl)) Via.refl ei fc_16 (g := (mkF m 136 (own_ARIFFFI a1 (1 : Int32) c2 c3 c4 i5) [(.ref a1)])) rfl rfl (hb hby d15_136)
          have sg141 : ∀ t, own_S p e below T136 (mkF m 141 (own_ARIFFFI a1 (1 : Int32) c2 c3 c4 i5) [(.float c2), (.int (1 : Int32)), (.ref tl)]) t → own_S p e below T136 (mkF m 139 (own_ARIFFFI a1 (1 : Int32) c2 c3 c4 i5) [(.ref tl)]) t := by
            intro t k
            refine XS.iloadN X136.here hx rfl (hb hby d15_139) rfl ?_
            show own_S p e below T136 (mkF m 140 (own_ARIFFFI a1 (1 : Int32) c2 c3 c4 i5) [(.int (1 : Int32)), (.ref tl)]) _
            refine XS.floadN X136.here hx rfl (hb hby d15_140) rfl ?_
            exact k
          obtain ⟨cl141, Ar141, qa141, Sa141, Na141, Ha141, Ga141⟩ := id (A_tl.other W42 (Ne.symm n_a1_tl))
          obtain ⟨T141, h141, X141, e141, W141, st141⟩ := stF X136 hx hZ e136 Ar141 (j := (1 : Int32)) (inb_of Sa141 ⟨by decide, by decide⟩) (g := (mkF m 141 (own_ARIFFFI a1 (1 : Int32) c2 c3 c4 i5) [(.float c2), (.int (1 : Int32)), (.ref tl)])) rfl rfl (hb hby d15_141)
          have V141 : Arv Z h141 tl ktl .float (2 : Int32) [(.float l0), (.float c2)] (.float (0 : UInt32)) := by
            have q := Arv.set Ar141 qa141 Sa141 Na141 Ha141 Ga141 rfl W141 1 rfl (Nat.le_of_ble_eq_true rfl)
            exact q
          have fc_27 := ((A_th.other W42 (Ne.symm n_a1_th)).other W141 (Ne.symm ND.1))
          have fc_28 := ((A_ts.other W42 (Ne.symm n_a1_ts)).other W141 (Ne.symm ND.2.1))
          have fc_29 := ((A_sl.other W42 (Ne.symm n_a1_sl)).other W141 (Ne.symm ND.2.2.1))
          have fc_30 := ((A_sh.other W42 (Ne.symm n_a1_sh)).other W141 (Ne.symm ND.2.2.2.1))
          have fc_31 := ((A_ss.other W42 (Ne.symm n_a1_ss)).other W141 (Ne.symm ND.2.2.2.2.1))
          have fc_32 := ((A_cS.other W42 (Ne.symm n_a1_cS)).other W141 (Ne.symm ND.2.2.2.2.2.1))
          have fc_33 := ((A_cD.other W42 (Ne.symm n_a1_cD)).other W141 (Ne.symm ND.2.2.2.2.2.2.1))
          have fc_34 := ((A_cL.other W42 (Ne.symm n_a1_cL)).other W141 (Ne.symm ND.2.2.2.2.2.2.2.1))
          have fc_35 := ((A_cH.other W42 (Ne.symm n_a1_cH)).other W141 (Ne.symm ND.2.2.2.2.2.2.2.2.1))
          have fc_36 := ((A_cC.other W42 (Ne.symm n_a1_cC)).other W141 (Ne.symm ND.2.2.2.2.2.2.2.2.2.1))
          have K141 : Keep h0 h141 [a1, tl, th, ts, cS, cD, cL, cH, cC] := K42.wr W141 (Or.inl (List.mem_of_getElem? (i := 1) rfl))
          have Z141 : n0 ≤ h141.size := Nat.le_trans Z42 (Keep.of_wr W141).1
          have N141 := Fr.snoc X141 N42 g_tl
          have sg143 : ∀ t, own_S p e below T141 (mkF m 143 (own_ARIFFFI a1 (1 : Int32) c2 c3 c4 i5) [(.ref a1)]) t → own_S p e below T141 (mkF m 142 (own_ARIFFFI a1 (1 : Int32) c2 c3 c4 i5) []) t := by
            intro t k
            refine XS.aloadN X141.here hx rfl (hb hby d15_142) rfl rfl ?_
            exact k
          obtain ⟨T143, X143, e143, st143⟩ := getF X141 hx hZ hown (host := "") (Or.inl (own_w hw 51 rfl)) Via.refl e141 (fc_17.other W141 (Or.inl n_a1_tl)) (g := (mkF m 143 (own_ARIFFFI a1 (1 : Int32) c2 c3 c4 i5) [(.ref a1)])) rfl rfl (hb hby d15_143)
          have sg148 : ∀ t, own_S p e below T143 (mkF m 148 (own_ARIFFFI a1 (1 : Int32) c2 c3 c4 i5) [(.float c3), (.int (1 : Int32)), (.ref th)]) t → own_S p e below T143 (mkF m 146 (own_ARIFFFI a1 (1 : Int32) c2 c3 c4 i5) [(.ref th)]) t := by
            intro t k
            refine XS.iloadN X143.here hx rfl (hb hby d15_146) rfl ?_
            show own_S p e below T143 (mkF m 147 (own_ARIFFFI a1 (1 : Int32) c2 c3 c4 i5) [(.int (1 : Int32)), (.ref th)]) _
            refine XS.floadN X143.here hx rfl (hb hby d15_147) rfl ?_
            exact k
          obtain ⟨cl148, Ar148, qa148, Sa148, Na148, Ha148, Ga148⟩ := id fc_27
          obtain ⟨T148, h148, X148, e148, W148, st148⟩ := stF X143 hx hZ e143 Ar148 (j := (1 : Int32)) (inb_of Sa148 ⟨by decide, by decide⟩) (g := (mkF m 148 (own_ARIFFFI a1 (1 : Int32) c2 c3 c4 i5) [(.float c3), (.int (1 : Int32)), (.ref th)])) rfl rfl (hb hby d15_148)
          have V148 : Arv Z h148 th kth .float (2 : Int32) [(.float u0), (.float c3)] (.float (0 : UInt32)) := by
            have q := Arv.set Ar148 qa148 Sa148 Na148 Ha148 Ga148 rfl W148 1 rfl (Nat.le_of_ble_eq_true rfl)
            exact q
          have fc_37 := ((fc_14.other W141 (Or.inl n_a1_tl)).other W148 (Or.inl n_a1_th))
          have fc_38 := ((fc_15.other W141 (Or.inl n_a1_tl)).other W148 (Or.inl n_a1_th))
          have fc_39 := ((Fw42.other W141 (Or.inl n_a1_tl)).other W148 (Or.inl n_a1_th))
          have fc_40 := ((fc_16.other W141 (Or.inl n_a1_tl)).other W148 (Or.inl n_a1_th))
          have fc_41 := ((fc_17.other W141 (Or.inl n_a1_tl)).other W148 (Or.inl n_a1_th))
          have fc_42 := ((fc_18.other W141 (Or.inl n_a1_tl)).other W148 (Or.inl n_a1_th))
          have fc_43 := ((fc_19.other W141 (Or.inl n_a1_tl)).other W148 (Or.inl n_a1_th))
          have fc_44 := ((fc_20.other W141 (Or.inl n_a1_tl)).other W148 (Or.inl n_a1_th))
          have fc_45 := ((fc_21.other W141 (Or.inl n_a1_tl)).other W148 (Or.inl n_a1_th))
          have fc_46 := ((fc_22.other W141 (Or.inl n_a1_tl)).other W148 (Or.inl n_a1_th))
          have fc_47 := ((fc_23.other W141 (Or.inl n_a1_tl)).other W148 (Or.inl n_a1_th))
          have fc_48 := ((fc_24.other W141 (Or.inl n_a1_tl)).other W148 (Or.inl n_a1_th))
          have fc_49 := ((fc_25.other W141 (Or.inl n_a1_tl)).other W148 (Or.inl n_a1_th))
          have fc_50 := ((fc_26.other W141 (Or.inl n_a1_tl)).other W148 (Or.inl n_a1_th))
          have fc_51 := (fc_32.other W148 (Ne.symm ND.2.2.2.2.2.2.2.2.2.2.2.2.2.2.1))
          have fc_52 := (fc_33.other W148 (Ne.symm ND.2.2.2.2.2.2.2.2.2.2.2.2.2.2.2.1))
          have fc_53 := (fc_34.other W148 (Ne.symm ND.2.2.2.2.2.2.2.2.2.2.2.2.2.2.2.2.1))
          have fc_54 := (fc_35.other W148 (Ne.symm ND.2.2.2.2.2.2.2.2.2.2.2.2.2.2.2.2.2.1))
          have fc_55 := (fc_36.other W148 (Ne.symm ND.2.2.2.2.2.2.2.2.2.2.2.2.2.2.2.2.2.2.1))
          have K148 : Keep h0 h148 [a1, tl, th, ts, cS, cD, cL, cH, cC] := K141.wr W148 (Or.inl (List.mem_of_getElem? (i := 2) rfl))
          have Z148 : n0 ≤ h148.size := Nat.le_trans Z141 (Keep.of_wr W148).1
          have N148 := Fr.snoc X148 N141 g_th
          have sg150 : ∀ t, own_S p e below T148 (mkF m 150 (own_ARIFFFI a1 (1 : Int32) c2 c3 c4 i5) [(.ref a1)]) t → own_S p e below T148 (mkF m 149 (own_ARIFFFI a1 (1 : Int32) c2 c3 c4 i5) []) t := by
            intro t k
            refine XS.aloadN X148.here hx rfl (hb hby d15_149) rfl rfl ?_
            exact k
          obtain ⟨T150, X150, e150, st150⟩ := getF X148 hx hZ hown (host := "") (Or.inl (own_w hw 53 rfl)) Via.refl e148 fc_42 (g := (mkF m 150 (own_ARIFFFI a1 (1 : Int32) c2 c3 c4 i5) [(.ref a1)])) rfl rfl (hb hby d15_150)
          have sg156 : ∀ t, own_S p e below T150 (mkF m 156 (own_ARIFFFI a1 (1 : Int32) c2 c3 c4 i5) [(.float c4), (.int (1 : Int32)), (.ref ts)]) t → own_S p e below T150 (mkF m 153 (own_ARIFFFI a1 (1 : Int32) c2 c3 c4 i5) [(.ref ts)]) t := by
            intro t k
            refine XS.iloadN X150.here hx rfl (hb hby d15_153) rfl ?_
            show own_S p e below T150 (mkF m 154 (own_ARIFFFI a1 (1 : Int32) c2 c3 c4 i5) [(.int (1 : Int32)), (.ref ts)]) _
            refine XS.fload X150.here hx rfl (hb hby d15_154) rfl ?_
            exact k
          obtain ⟨cl156, Ar156, qa156, Sa156, Na156, Ha156, Ga156⟩ := id (fc_28.other W148 (Ne.symm ND.2.2.2.2.2.2.2.2.2.2.1))
          obtain ⟨T156, h156, X156, e156, W156, st156⟩ := stF X150 hx hZ e150 Ar156 (j := (1 : Int32)) (inb_of Sa156 ⟨by decide, by decide⟩) (g := (mkF m 156 (own_ARIFFFI a1 (1 : Int32) c2 c3 c4 i5) [(.float c4), (.int (1 : Int32)), (.ref ts)])) rfl rfl (hb hby d15_156)
          have V156 : Arv Z h156 ts kts .float (2 : Int32) [(.float s0), (.float c4)] (.float (0 : UInt32)) := by
            have q := Arv.set Ar156 qa156 Sa156 Na156 Ha156 Ga156 rfl W156 1 rfl (Nat.le_of_ble_eq_true rfl)
            exact q
          have fc_56 := ((fc_29.other W148 (Ne.symm ND.2.2.2.2.2.2.2.2.2.2.2.1)).other W156 (Ne.symm ND.2.2.2.2.2.2.2.2.2.2.2.2.2.2.2.2.2.2.2.1))
          have fc_57 := ((fc_30.other W148 (Ne.symm ND.2.2.2.2.2.2.2.2.2.2.2.2.1)).other W156 (Ne.symm ND.2.2.2.2.2.2.2.2.2.2.2.2.2.2.2.2.2.2.2.2.1))
          have fc_58 := ((fc_31.other W148 (Ne.symm ND.2.2.2.2.2.2.2.2.2.2.2.2.2.1)).other W156 (Ne.symm ND.2.2.2.2.2.2.2.2.2.2.2.2.2.2.2.2.2.2.2.2.2.1))
          have fc_59 := (fc_51.other W156 (Ne.symm ND.2.2.2.2.2.2.2.2.2.2.2.2.2.2.2.2.2.2.2.2.2.2.1))
          have fc_60 := (fc_52.other W156 (Ne.symm ND.2.2.2.2.2.2.2.2.2.2.2.2.2.2.2.2.2.2.2.2.2.2.2.1))
          have fc_61 := (fc_53.other W156 (Ne.symm ND.2.2.2.2.2.2.2.2.2.2.2.2.2.2.2.2.2.2.2.2.2.2.2.2.1))
          have fc_62 := (fc_54.other W156 (Ne.symm ND.2.2.2.2.2.2.2.2.2.2.2.2.2.2.2.2.2.2.2.2.2.2.2.2.2.1))
          have fc_63 := (fc_55.other W156 (Ne.symm ND.2.2.2.2.2.2.2.2.2.2.2.2.2.2.2.2.2.2.2.2.2.2.2.2.2.2.1))
          have K156 : Keep h0 h156 [a1, tl, th, ts, cS, cD, cL, cH, cC] := K148.wr W156 (Or.inl (List.mem_of_getElem? (i := 3) rfl))
          have Z156 : n0 ≤ h156.size := Nat.le_trans Z148 (Keep.of_wr W156).1
          have N156 := Fr.snoc X156 N148 g_ts
          have sg10 : ∀ t, own_S p e below T156 (mkF m 10 (own_ARIFFFI a1 (1 : Int32) c2 c3 c4 i5) []) t → own_S p e below T156 (mkF m 157 (own_ARIFFFI a1 (1 : Int32) c2 c3 c4 i5) []) t := by
            intro t k
            refine XS.goto X156.here hx rfl (pc0 := 157) (pc' := 10) rfl (hb hby d15_157) (by decide) (by decide) ?_
            exact k
          obtain ⟨T', L', H', y1, y2, y3, y4, y5, X', N', e', K', R', st'⟩ := ih hs l0 c2 u0 c3 s0 c4 T156 _ h156 (.val (.int (1 : Int32))) (.val (.float c2)) (.val (.float c3)) (.val (.float c4)) (.val (.int i5)) (by simpa using hlen) (by omega) hdm.l ((own_last_no (e := (es, (1 : Int32), el, eh, ec)) (show ¬ (1 : Int32) = (0 : Int32) from by decide)).symm.trans hI0) hlD X156 N156 e156 K156 Z156 (⟨_, _, _, _, _, _, _, _, _, _, _, _, _, _, _, _, ND, ⟨own_gsh G1, own_gsh G2, own_gsh G3, own_gsh G4, own_gsh G5⟩, ((((E_q.wr W42).wr W141).wr W148).wr W156), (fc_37.other W156 (Or.inl n_a1_ts)), (fc_40.other W156 (Or.inl n_a1_ts)), (fc_41.other W156 (Or.inl n_a1_ts)), (fc_42.other W156 (Or.inl n_a1_ts)), (fc_43.other W156 (Or.inl n_a1_ts)), (fc_44.other W156 (Or.inl n_a1_ts)), (fc_45.other W156 (Or.inl n_a1_ts)), (fc_46.other W156 (Or.inl n_a1_ts)), (fc_47.other W156 (Or.inl n_a1_ts)), (fc_48.other W156 (Or.inl n_a1_ts)), (fc_49.other W156 (Or.inl n_a1_ts)), (fc_50.other W156 (Or.inl n_a1_ts)), (fc_38.other W156 (Or.inl n_a1_ts)), (by rw [← hn_j42]; exact (fc_39.other W156 (Or.inl n_a1_ts))), ((V141.other W148 ND.1).other W156 ND.2.1), (V148.other W156 ND.2.2.2.2.2.2.2.2.2.2.1), V156, fc_56, fc_57, fc_58, fc_59, fc_60, fc_61, fc_62, fc_63⟩) (own_one1 rfl) (own_one1 rfl) (own_one1 rfl) (own_one1 rfl) (own_one1 rfl)
          exact ⟨T', L', H', y1, y2, y3, y4, y5, X', N', e', K', (by rw [own_pop_yes hc32]; exact R'), fun t k => (sg11 t (st11 t (sg18 t (st18 t (sg22 t (st22 t (sg27 t (sg29 t (st29 t (sg37 t (st37 t (sg42 t (st42 t (sg46 t (st46 t (sg50 t (st50 t (sg54 t (sg56 t (st56 t (sg60 t (sg63 t (st63 t (sg67 t (sg70 t (st70 t (sg74 t (sg78 t (st78 t (sg83 t (sg85 t (sti t (sg136 t (st136 t (sg141 t (st141 t (sg143 t (st143 t (sg148 t (st148 t (sg150 t (st150 t (sg156 t (st156 t (sg10 t (st' t k))))))))))))))))))))))))))))))))))))))))))))))⟩
      · have sg160 : ∀ t, own_S p e below T29 (mkF m 160 (own_ARSSSSS a1 x1 x2 x3 x4 x5) []) t → own_S p e below T29 (mkF m 32 (own_ARSSSSS a1 x1 x2 x3 x4 x5) [(.int nn), (.int es)]) t := by
          intro t k
          refine XS.icmpYes X29.here hx rfl (pc0 := 32) (pc' := 160) rfl (hb hby d15_32) rfl (feq hc32).2 (by decide) (by decide) ?_
          exact k
        exact ⟨T29, _, _, (x1) , (x2) , (x3) , (x4) , (x5), X29, NL, e29, KH, (by rw [own_pop_no hc32]; exact ⟨l0, l1, u0, u1, s0, s1, hI0, hI1, (⟨_, _, _, _, _, _, _, _, _, _, _, g1, g2, g3, g4, g5, ND, ⟨G1, G2, G3, G4, G5⟩, E_q, F_dim, F_tl, F_th, F_ts, F_sl, F_sh, F_ss, F_cS, F_cD, F_cL, F_cH, F_cC, F_ec, (by rw [← hkk]; exact F_cc), A_tl, A_th, A_ts, A_sl, A_sh, A_ss, (by rw [own_shift]; exact A_cS), (by rw [own_shift]; exact A_cD), (by rw [own_shift]; exact A_cL), (by rw [own_shift]; exact A_cH), (by rw [own_shift]; exact A_cC)⟩)⟩), fun t k => (sg11 t (st11 t (sg18 t (st18 t (sg22 t (st22 t (sg27 t (sg29 t (st29 t (sg160 t k))))))))))⟩
  skip
  obtain ⟨Tlo, Llo, Hlo, y1, y2, y3, y4, y5, Xlo, Nlo, elo, Klo, Rlo, stlo⟩ := outer hist.length hist l0 l1 u0 u1 s0 s1 T7 _ h7 .unset .unset .unset .unset .unset rfl hl hdm hI0 hI1 X7 N7 e7 K7 Z7 (⟨_, _, _, _, _, _, _, _, _, _, _, _, _, _, _, _, ND, ⟨G1, G2, G3, G4, G5⟩, (E_q.wr W7), fc, fc_3, fc_4, fc_5, fc_6, fc_7, fc_8, fc_9, fc_10, fc_11, fc_12, fc_13, Fw7, (by rw [← hkk]; exact fc_2), (A_tl.other W7 (Ne.symm n_a1_tl)), (A_th.other W7 (Ne.symm n_a1_th)), (A_ts.other W7 (Ne.symm n_a1_ts)), (A_sl.other W7 (Ne.symm n_a1_sl)), (A_sh.other W7 (Ne.symm n_a1_sh)), (A_ss.other W7 (Ne.symm n_a1_ss)), (A_cS.other W7 (Ne.symm n_a1_cS)), (A_cD.other W7 (Ne.symm n_a1_cD)), (A_cL.other W7 (Ne.symm n_a1_cL)), (A_cH.other W7 (Ne.symm n_a1_cH)), (A_cC.other W7 (Ne.symm n_a1_cC))⟩) own_one0 own_one0 own_one0 own_one0 own_one0
  refine own_by stlo ?_
  obtain ⟨fs, hr, hrun, hended, hW, hsame⟩ := Xlo.leave (v := none) (fun _ => rfl)
  refine ⟨_, _, ?_, hrun, hended, _, _, rfl, ?_, ⟨_, rfl⟩, hW, hsame.mono (by decide) (by decide)⟩
  · exact Xlo.returnOut hx Bd.returns (hb hby d15_160) hr
  · show Q15 Z a1 tl th ts sl sh ss cS cD cL cH cC n l0 l1 u0 u1 s0 s1 hist h0 n0 _ Tlo.heap _
    rw [elo]
    exact ⟨rfl, Nlo, Klo, (by rw [← hnn]; exact Rlo)⟩
theorem d5_0 : decode prog_33_method_2_code 0 = .ok (.aload_n 0, 1) := by decide +kernel
theorem d5_1 : decode prog_33_method_2_code 1 = .ok (.invokespecial 15, 3) := by decide +kernel
theorem d5_4 : decode prog_33_method_2_code 4 = .ok (.aload_n 0, 1) := by decide +kernel
theorem d5_5 : decode prog_33_method_2_code 5 = .ok (.bipush 16, 2) := by decide +kernel
theorem d5_7 : decode prog_33_method_2_code 7 = .ok (.newarray .int, 2) := by decide +kernel
theorem d5_9 : decode prog_33_method_2_code 9 = .ok (.putfield 20, 3) := by decide +kernel
theorem d5_12 : decode prog_33_method_2_code 12 = .ok (.aload_n 0, 1) := by decide +kernel
theorem d5_13 : decode prog_33_method_2_code 13 = .ok (.bipush 16, 2) := by decide +kernel
theorem d5_15 : decode prog_33_method_2_code 15 = .ok (.newarray .int, 2) := by decide +kernel
theorem d5_17 : decode prog_33_method_2_code 17 = .ok (.putfield 24, 3) := by decide +kernel
theorem d5_20 : decode prog_33_method_2_code 20 = .ok (.aload_n 0, 1) := by decide +kernel
theorem d5_21 : decode prog_33_method_2_code 21 = .ok (.bipush 16, 2) := by decide +kernel
theorem d5_23 : decode prog_33_method_2_code 23 = .ok (.newarray .float, 2) := by decide +kernel
theorem d5_25 : decode prog_33_method_2_code 25 = .ok (.putfield 27, 3) := by decide +kernel
theorem d5_28 : decode prog_33_method_2_code 28 = .ok (.aload_n 0, 1) := by decide +kernel
theorem d5_29 : decode prog_33_method_2_code 29 = .ok (.bipush 16, 2) := by decide +kernel
theorem d5_31 : decode prog_33_method_2_code 31 = .ok (.newarray .float, 2) := by decide +kernel
theorem d5_33 : decode prog_33_method_2_code 33 = .ok (.putfield 31, 3) := by decide +kernel
theorem d5_36 : decode prog_33_method_2_code 36 = .ok (.aload_n 0, 1) := by decide +kernel
theorem d5_37 : decode prog_33_method_2_code 37 = .ok (.bipush 16, 2) := by decide +kernel
theorem d5_39 : decode prog_33_method_2_code 39 = .ok (.newarray .float, 2) := by decide +kernel
theorem d5_41 : decode prog_33_method_2_code 41 = .ok (.putfield 34, 3) := by decide +kernel
theorem d5_44 : decode prog_33_method_2_code 44 = .ok (.aload_n 0, 1) := by decide +kernel
theorem d5_45 : decode prog_33_method_2_code 45 = .ok (.iload_n 1, 1) := by decide +kernel
theorem d5_46 : decode prog_33_method_2_code 46 = .ok (.putfield 37, 3) := by decide +kernel
theorem d5_49 : decode prog_33_method_2_code 49 = .ok (.aload_n 0, 1) := by decide +kernel
theorem d5_50 : decode prog_33_method_2_code 50 = .ok (.aload_n 2, 1) := by decide +kernel
theorem d5_51 : decode prog_33_method_2_code 51 = .ok (.invokevirtual 41, 3) := by decide +kernel
theorem d5_54 : decode prog_33_method_2_code 54 = .ok (.checkcast 42, 3) := by decide +kernel
theorem d5_57 : decode prog_33_method_2_code 57 = .ok (.putfield 46, 3) := by decide +kernel
theorem d5_60 : decode prog_33_method_2_code 60 = .ok (.aload_n 0, 1) := by decide +kernel
theorem d5_61 : decode prog_33_method_2_code 61 = .ok (.aload_n 3, 1) := by decide +kernel
theorem d5_62 : decode prog_33_method_2_code 62 = .ok (.invokevirtual 41, 3) := by decide +kernel
theorem d5_65 : decode prog_33_method_2_code 65 = .ok (.checkcast 42, 3) := by decide +kernel
theorem d5_68 : decode prog_33_method_2_code 68 = .ok (.putfield 49, 3) := by decide +kernel
theorem d5_71 : decode prog_33_method_2_code 71 = .ok (.aload_n 0, 1) := by decide +kernel
theorem d5_72 : decode prog_33_method_2_code 72 = .ok (.aload 4, 2) := by decide +kernel
theorem d5_74 : decode prog_33_method_2_code 74 = .ok (.invokevirtual 41, 3) := by decide +kernel
theorem d5_77 : decode prog_33_method_2_code 77 = .ok (.checkcast 42, 3) := by decide +kernel
theorem d5_80 : decode prog_33_method_2_code 80 = .ok (.putfield 52, 3) := by decide +kernel
theorem d5_83 : decode prog_33_method_2_code 83 = .ok (.aload_n 0, 1) := by decide +kernel
theorem d5_84 : decode prog_33_method_2_code 84 = .ok (.aload_n 2, 1) := by decide +kernel
theorem d5_85 : decode prog_33_method_2_code 85 = .ok (.invokevirtual 41, 3) := by decide +kernel
theorem d5_88 : decode prog_33_method_2_code 88 = .ok (.checkcast 42, 3) := by decide +kernel
theorem d5_91 : decode prog_33_method_2_code 91 = .ok (.putfield 55, 3) := by decide +kernel
theorem d5_94 : decode prog_33_method_2_code 94 = .ok (.aload_n 0, 1) := by decide +kernel
theorem d5_95 : decode prog_33_method_2_code 95 = .ok (.aload_n 3, 1) := by decide +kernel
theorem d5_96 : decode prog_33_method_2_code 96 = .ok (.invokevirtual 41, 3) := by decide +kernel
theorem d5_99 : decode prog_33_method_2_code 99 = .ok (.checkcast 42, 3) := by decide +kernel
theorem d5_102 : decode prog_33_method_2_code 102 = .ok (.putfield 58, 3) := by decide +kernel
theorem d5_105 : decode prog_33_method_2_code 105 = .ok (.aload_n 0, 1) := by decide +kernel
theorem d5_106 : decode prog_33_method_2_code 106 = .ok (.aload 4, 2) := by decide +kernel
theorem d5_108 : decode prog_33_method_2_code 108 = .ok (.invokevirtual 41, 3) := by decide +kernel
theorem d5_111 : decode prog_33_method_2_code 111 = .ok (.checkcast 42, 3) := by decide +kernel
theorem d5_114 : decode prog_33_method_2_code 114 = .ok (.putfield 61, 3) := by decide +kernel
theorem d5_117 : decode prog_33_method_2_code 117 = .ok (.return_, 1) := by decide +kernel
theorem pn_5 : plainFor (⟨"com/example/reverie/reverie/ScalarQuantizer", "<init>", "(I[F[F[F)V"⟩ : MethodName) = true := by first | exact plainFor_of_name (by first | (simp [plainName, overriddenIn]; done) | decide +kernel) | decide +kernel | exact Jvm.Free.JP.mathPlain rfl (by decide +kernel)
theorem ef_5 (m : MethodId) (a1 : Addr) (a2 : Addr) (a3 : Addr) (a4 : Addr) : entryFrame m #[(.ref a1), (.int (2 : Int32)), (.ref a2), (.ref a3), (.ref a4)] 5 = mkF m 0 #[.val (.ref a1), .val (.int (2 : Int32)), .val (.ref a2), .val (.ref a3), .val (.ref a4)] [] := by first | (simp [entryFrame, mkF, argsToLocals, Value.category]; done) | rfl
def Q5 (Z : State) (a1 : Addr) (a2 : Addr) (a3 : Addr) (a4 : Addr) (ka2 : ClassId) (ka3 : ClassId) (ka4 : ClassId) (h0 : Heap) (n0 : Nat) (v : Option Value) (h : Heap) (L : List Loc) : Prop := v = none ∧ Fr n0 L ∧ Keep h0 h [a1] ∧ ∃ tl th ts sl sh ss cS cD cL cH cC : Addr, (∀ x ∈ [tl, th, ts, sl, sh, ss, cS, cD, cL, cH, cC], h0.size ≤ x) ∧ own_Q Z h a1 tl th ts sl sh ss cS cD cL cH cC (0 : Int32) (2139095040 : UInt32) (2139095040 : UInt32) (4286578688 : UInt32) (4286578688 : UInt32) (0 : UInt32) (0 : UInt32) ([] : List own_E)
set_option maxRecDepth 65536 in
set_option maxHeartbeats 40000000 in
theorem rm5 (l : Launch) (Z : State) (a0 : Array Value) (hw : ∀ d ∈ tables_1, d.before a0 Z = true) (ws : List Jvm.Cond) (a1 : Addr) (a2 : Addr) (a3 : Addr) (a4 : Addr) (ka2 : ClassId) (ka3 : ClassId) (ka4 : ClassId) (h0 : Heap) (n0 : Nat) (Z0 : n0 ≤ h0.size) (E_a1 : Exa Z h0 a1 "com/example/reverie/reverie/ScalarQuantizer") (F_changeStarts : Fld Z h0 a1 "com/example/reverie/reverie/ScalarQuantizer" "changeStarts" "[I" .null) (F_changeDimensions : Fld Z h0 a1 "com/example/reverie/reverie/ScalarQuantizer" "changeDimensions" "[I" .null) (F_changeLows : Fld Z h0 a1 "com/example/reverie/reverie/ScalarQuantizer" "changeLows" "[F" .null) (F_changeHighs : Fld Z h0 a1 "com/example/reverie/reverie/ScalarQuantizer" "changeHighs" "[F" .null) (F_changeScales : Fld Z h0 a1 "com/example/reverie/reverie/ScalarQuantizer" "changeScales" "[F" .null) (F_dimension : Fld Z h0 a1 "com/example/reverie/reverie/ScalarQuantizer" "dimension" "I" (.int (0 : Int32))) (F_lows : Fld Z h0 a1 "com/example/reverie/reverie/ScalarQuantizer" "lows" "[F" .null) (F_highs : Fld Z h0 a1 "com/example/reverie/reverie/ScalarQuantizer" "highs" "[F" .null) (F_scales : Fld Z h0 a1 "com/example/reverie/reverie/ScalarQuantizer" "scales" "[F" .null) (F_startLows : Fld Z h0 a1 "com/example/reverie/reverie/ScalarQuantizer" "startLows" "[F" .null) (F_startHighs : Fld Z h0 a1 "com/example/reverie/reverie/ScalarQuantizer" "startHighs" "[F" .null) (F_startScales : Fld Z h0 a1 "com/example/reverie/reverie/ScalarQuantizer" "startScales" "[F" .null) (F_encodedCount : Fld Z h0 a1 "com/example/reverie/reverie/ScalarQuantizer" "encodedCount" "I" (.int (0 : Int32))) (F_changeCount : Fld Z h0 a1 "com/example/reverie/reverie/ScalarQuantizer" "changeCount" "I" (.int (0 : Int32))) (g_a1 : n0 ≤ a1) (E_a2 : Exa Z h0 a2 "[F") (E_a3 : Exa Z h0 a3 "[F") (E_a4 : Exa Z h0 a4 "[F") (A_a2 : Arv Z h0 a2 ka2 .float (2 : Int32) [(.float (2139095040 : UInt32)), (.float (2139095040 : UInt32))] (.float (0 : UInt32))) (A_a3 : Arv Z h0 a3 ka3 .float (2 : Int32) [(.float (4286578688 : UInt32)), (.float (4286578688 : UInt32))] (.float (0 : UInt32))) (A_a4 : Arv Z h0 a4 ka4 .float (2 : Int32) [(.float (0 : UInt32)), (.float (0 : UInt32))] (.float (0 : UInt32))) :
    MetFree l (⟨"com/example/reverie/reverie/ScalarQuantizer", "<init>", "(I[F[F[F)V"⟩ : MethodName) (head1 (Jvm.Cond.code (⟨"com/example/reverie/reverie/ScalarQuantizer", "<init>", "(I[F[F[F)V"⟩ : MethodName) prog_33_method_2_code 5 none :: ws) ({ frames := 1, cells := 11, slots := 92, locals := 15 } : Room)) (fun a U => a = #[(.ref a1), (.int (2 : Int32)), (.ref a2), (.ref a3), (.ref a4)] ∧ Z.Warmed39 U.vm ∧ U.heap = h0) (fun _ _ _ _ _ => True) (fun _ U o U' => ∃ v L, o = .returned v ∧ Q5 Z a1 a2 a3 a4 ka2 ka3 ka4 h0 n0 v U'.heap L ∧ FrameEnd U o U' L ({ frames := 1, cells := 11, slots := 92, locals := 15 } : Room).cells ({ frames := 1, cells := 11, slots := 92, locals := 15 } : Room).slots) := by
  refine MetFree.of_bodySF pn_5 hisR ?_
  intro p e s m args below meth c s₁ Bd hml0 hP hK
  obtain ⟨rfl, hZ, hh⟩ := hP
  have hx := Bd.exec
  have hby := Bd.bytes
  have hml : c.maxLocals = 5 := hml0
  have hown : s.vm.findClass "com/example/reverie/reverie/ScalarQuantizer" = some m.cls := findClass_of_methodNamed Bd.named
  have hnm := (name_of_methodNamed Bd.named Bd.method).1
  have X0 : Stand p l e ({ frames := 1, cells := 11, slots := 92, locals := 15 } : Room) s m #[(.ref a1), (.int (2 : Int32)), (.ref a2), (.ref a3), (.ref a4)] below meth c s₁ [] 0 0 := Stand.of_body Bd
  have e0 : s₁.heap = h0 := by rw [← hh, Bd.state]; rfl
  have N0 := Fr.nil n0
  refine own_at (castTop (ef_5 m a1 a2 a3 a4)) ?_
  have n_a1_a2 : a1 ≠ a2 := E_a1.neArv A_a2 (own_w hw 7 rfl)
  have n_a1_a3 : a1 ≠ a3 := E_a1.neArv A_a3 (own_w hw 7 rfl)
  have n_a1_a4 : a1 ≠ a4 := E_a1.neArv A_a4 (own_w hw 7 rfl)
  have K0 := Keep.refl h0 [a1]
  have sg1 : ∀ t, own_S p e below s₁ (mkF m 1 (own_ARIRRR a1 (2 : Int32) a2 a3 a4) [(.ref a1)]) t → own_S p e below s₁ (mkF m 0 (own_ARIRRR a1 (2 : Int32) a2 a3 a4) []) t := by
    intro t k
    refine XS.aloadN X0.here hx rfl (hb hby d5_0) rfl rfl ?_
    exact k
  refine own_by sg1 ?_
  obtain ⟨T1, X1, e1, st1⟩ := initO X0 hx hZ hown (own_w hw 24 rfl) (own_w hw 25 rfl) (own_w hw 26 rfl) e0 (g := (mkF m 1 (own_ARIRRR a1 (2 : Int32) a2 a3 a4) [(.ref a1)])) rfl (by rw [hml]; rfl) rfl (hb hby d5_1) (by decide) (W := 0) (by show 2 * 0 + _ ≤ _; exact Nat.le_of_eq rfl) (by decide)
  refine own_by st1 ?_
  have sg7 : ∀ t, own_S p e below T1 (mkF m 7 (own_ARIRRR a1 (2 : Int32) a2 a3 a4) [(.int (16 : Int32)), (.ref a1)]) t → own_S p e below T1 (mkF m 4 (own_ARIRRR a1 (2 : Int32) a2 a3 a4) []) t := by
    intro t k
    refine XS.aloadN X1.here hx rfl (hb hby d5_4) rfl rfl ?_
    show own_S p e below T1 (mkF m 5 (own_ARIRRR a1 (2 : Int32) a2 a3 a4) [(.ref a1)]) _
    refine XS.bipush X1.here hx rfl (hb hby d5_5) ?_
    exact k
  refine own_by sg7 ?_
  obtain ⟨T7, h7, kc7, X7, e7, E7, A7, st7⟩ := newP X1 hx hZ (own_w hw 27 rfl) e1 (g := (mkF m 7 (own_ARIRRR a1 (2 : Int32) a2 a3 a4) [(.int (16 : Int32)), (.ref a1)])) rfl (hb hby d5_7) rfl (by decide) (cap := 16) (by decide) (by decide) (by decide) (by decide)
  obtain ⟨b7, g7⟩ : ∃ z, z = h0.size := ⟨_, rfl⟩
  rw [← g7] at A7 st7
  have ne_a1_b7 : a1 ≠ b7 := Nat.ne_of_lt (Nat.lt_of_lt_of_le E_a1.lt (Nat.le_of_eq g7.symm))
  have ne_a2_b7 : a2 ≠ b7 := Nat.ne_of_lt (Nat.lt_of_lt_of_le E_a2.lt (Nat.le_of_eq g7.symm))
  have ne_a3_b7 : a3 ≠ b7 := Nat.ne_of_lt (Nat.lt_of_lt_of_le E_a3.lt (Nat.le_of_eq g7.symm))
  have ne_a4_b7 : a4 ≠ b7 := Nat.ne_of_lt (Nat.lt_of_lt_of_le E_a4.lt (Nat.le_of_eq g7.symm))
  have g_b7 : n0 ≤ b7 := Nat.le_trans Z0 (Nat.le_of_eq g7.symm)
  have sz_b7 : h0.size ≤ b7 := Nat.le_trans K0.1 (Nat.le_of_eq g7.symm)
  have K7 := K0.ext E7
  have Z7 : n0 ≤ h7.size := Nat.le_trans Z0 E7.1
  have V7 : Arv Z h7 b7 kc7 .int (16 : Int32) [(.int (0 : Int32)), (.int (0 : Int32)), (.int (0 : Int32)), (.int (0 : Int32)), (.int (0 : Int32)), (.int (0 : Int32)), (.int (0 : Int32)), (.int (0 : Int32)), (.int (0 : Int32)), (.int (0 : Int32)), (.int (0 : Int32)), (.int (0 : Int32)), (.int (0 : Int32)), (.int (0 : Int32)), (.int (0 : Int32)), (.int (0 : Int32))] (.int (0 : Int32)) := (Arv.new A7 (by decide)).pad (pad_rep [] (.int (0 : Int32)) 16)
  refine own_by st7 ?_
  obtain ⟨T9, h9, X9, e9, W9, st9⟩ := putF X7 hx hZ hown (host := "") (Or.inl (own_w hw 28 rfl)) Via.refl e7 (F_changeStarts.ext E7) (E_a1.ext E7) (Or.inl (own_w hw 29 rfl)) (own_w hw 7 rfl) (ty := (.array .int)) (by decide) rfl rfl (g := (mkF m 9 (own_ARIRRR a1 (2 : Int32) a2 a3 a4) [(.ref b7), (.ref a1)])) rfl rfl (hb hby d5_9)
  have Fw9 := (F_changeStarts.ext E7).same W9
  have fc := ((F_changeDimensions.ext E7).other W9 (Or.inr (slot_ne (Or.inl (own_w hw 31 rfl)) (Or.inl (own_w hw 29 rfl)) (by decide) (t := (.array .int)) (t' := (.array .int)) (by decide) (by decide))))
  have fc_2 := ((F_changeLows.ext E7).other W9 (Or.inr (slot_ne (Or.inl (own_w hw 33 rfl)) (Or.inl (own_w hw 29 rfl)) (by decide) (t := (.array .float)) (t' := (.array .int)) (by decide) (by decide))))
  have fc_3 := ((F_changeHighs.ext E7).other W9 (Or.inr (slot_ne (Or.inl (own_w hw 35 rfl)) (Or.inl (own_w hw 29 rfl)) (by decide) (t := (.array .float)) (t' := (.array .int)) (by decide) (by decide))))
  have fc_4 := ((F_changeScales.ext E7).other W9 (Or.inr (slot_ne (Or.inl (own_w hw 37 rfl)) (Or.inl (own_w hw 29 rfl)) (by decide) (t := (.array .float)) (t' := (.array .int)) (by decide) (by decide))))
  have fc_5 := ((F_dimension.ext E7).other W9 (Or.inr (slot_ne (Or.inr (own_w hw 39 rfl)) (Or.inl (own_w hw 29 rfl)) (by decide) (t := .int) (t' := (.array .int)) (by decide) (by decide))))
  have fc_6 := ((F_lows.ext E7).other W9 (Or.inr (slot_ne (Or.inr (own_w hw 50 rfl)) (Or.inl (own_w hw 29 rfl)) (by decide) (t := (.array .float)) (t' := (.array .int)) (by decide) (by decide))))
  have fc_7 := ((F_highs.ext E7).other W9 (Or.inr (slot_ne (Or.inr (own_w hw 52 rfl)) (Or.inl (own_w hw 29 rfl)) (by decide) (t := (.array .float)) (t' := (.array .int)) (by decide) (by decide))))
  have fc_8 := ((F_scales.ext E7).other W9 (Or.inr (slot_ne (Or.inr (own_w hw 54 rfl)) (Or.inl (own_w hw 29 rfl)) (by decide) (t := (.array .float)) (t' := (.array .int)) (by decide) (by decide))))
  have fc_9 := ((F_startLows.ext E7).other W9 (Or.inr (slot_ne (Or.inr (own_w hw 56 rfl)) (Or.inl (own_w hw 29 rfl)) (by decide) (t := (.array .float)) (t' := (.array .int)) (by decide) (by decide))))
  have fc_10 := ((F_startHighs.ext E7).other W9 (Or.inr (slot_ne (Or.inr (own_w hw 58 rfl)) (Or.inl (own_w hw 29 rfl)) (by decide) (t := (.array .float)) (t' := (.array .int)) (by decide) (by decide))))
  have fc_11 := ((F_startScales.ext E7).other W9 (Or.inr (slot_ne (Or.inr (own_w hw 60 rfl)) (Or.inl (own_w hw 29 rfl)) (by decide) (t := (.array .float)) (t' := (.array .int)) (by decide) (by decide))))
  have fc_12 := ((F_encodedCount.ext E7).other W9 (Or.inr (slot_ne (Or.inl (own_w hw 84 rfl)) (Or.inl (own_w hw 29 rfl)) (by decide) (t := .int) (t' := (.array .int)) (by decide) (by decide))))
  have fc_13 := ((F_changeCount.ext E7).other W9 (Or.inr (slot_ne (Or.inl (own_w hw 82 rfl)) (Or.inl (own_w hw 29 rfl)) (by decide) (t := .int) (t' := (.array .int)) (by decide) (by decide))))
  have K9 : Keep h0 h9 [a1] := K7.wr W9 (Or.inl (List.mem_of_getElem? (i := 0) rfl))
  have Z9 : n0 ≤ h9.size := Nat.le_trans Z7 (Keep.of_wr W9).1
  have N9 := Fr.snoc X9 N0 g_a1
  refine own_by st9 ?_
  have sg15 : ∀ t, own_S p e below T9 (mkF m 15 (own_ARIRRR a1 (2 : Int32) a2 a3 a4) [(.int (16 : Int32)), (.ref a1)]) t → own_S p e below T9 (mkF m 12 (own_ARIRRR a1 (2 : Int32) a2 a3 a4) []) t := by
    intro t k
    refine XS.aloadN X9.here hx rfl (hb hby d5_12) rfl rfl ?_
    show own_S p e below T9 (mkF m 13 (own_ARIRRR a1 (2 : Int32) a2 a3 a4) [(.ref a1)]) _
    refine XS.bipush X9.here hx rfl (hb hby d5_13) ?_
    exact k
  refine own_by sg15 ?_
  obtain ⟨T15, h15, kc15, X15, e15, E15, A15, st15⟩ := newP X9 hx hZ (own_w hw 27 rfl) e9 (g := (mkF m 15 (own_ARIRRR a1 (2 : Int32) a2 a3 a4) [(.int (16 : Int32)), (.ref a1)])) rfl (hb hby d5_15) rfl (by decide) (cap := 16) (by decide) (by decide) (by decide) (by decide)
  obtain ⟨b15, g15⟩ : ∃ z, z = h9.size := ⟨_, rfl⟩
  rw [← g15] at A15 st15
  have ne_a1_b15 : a1 ≠ b15 := Nat.ne_of_lt (Nat.lt_of_lt_of_le ((E_a1.ext E7).wr W9).lt (Nat.le_of_eq g15.symm))
  have ne_a2_b15 : a2 ≠ b15 := Nat.ne_of_lt (Nat.lt_of_lt_of_le ((E_a2.ext E7).wr W9).lt (Nat.le_of_eq g15.symm))
  have ne_a3_b15 : a3 ≠ b15 := Nat.ne_of_lt (Nat.lt_of_lt_of_le ((E_a3.ext E7).wr W9).lt (Nat.le_of_eq g15.symm))
  have ne_a4_b15 : a4 ≠ b15 := Nat.ne_of_lt (Nat.lt_of_lt_of_le ((E_a4.ext E7).wr W9).lt (Nat.le_of_eq g15.symm))
  have ne_b7_b15 : b7 ≠ b15 := Nat.ne_of_lt (Nat.lt_of_lt_of_le (V7.other W9 (Ne.symm ne_a1_b7)).lt (Nat.le_of_eq g15.symm))
  have g_b15 : n0 ≤ b15 := Nat.le_trans Z9 (Nat.le_of_eq g15.symm)
  have sz_b15 : h0.size ≤ b15 := Nat.le_trans K9.1 (Nat.le_of_eq g15.symm)
  have K15 := K9.ext E15
  have Z15 : n0 ≤ h15.size := Nat.le_trans Z9 E15.1
  have V15 : Arv Z h15 b15 kc15 .int (16 : Int32) [(.int (0 : Int32)), (.int (0 : Int32)), (.int (0 : Int32)), (.int (0 : Int32)), (.int (0 : Int32)), (.int (0 : Int32)), (.int (0 : Int32)), (.int (0 : Int32)), (.int (0 : Int32)), (.int (0 : Int32)), (.int (0 : Int32)), (.int (0 : Int32)), (.int (0 : Int32)), (.int (0 : Int32)), (.int (0 : Int32)), (.int (0 : Int32))] (.int (0 : Int32)) := (Arv.new A15 (by decide)).pad (pad_rep [] (.int (0 : Int32)) 16)
  refine own_by st15 ?_
  obtain ⟨T17, h17, X17, e17, W17, st17⟩ := putF X15 hx hZ hown (host := "") (Or.inl (own_w hw 30 rfl)) Via.refl e15 (fc.ext E15) (((E_a1.ext E7).wr W9).ext E15) (Or.inl (own_w hw 31 rfl)) (own_w hw 7 rfl) (ty := (.array .int)) (by decide) rfl rfl (g := (mkF m 17 (own_ARIRRR a1 (2 : Int32) a2 a3 a4) [(.ref b15), (.ref a1)])) rfl rfl (hb hby d5_17)
  have Fw17 := (fc.ext E15).same W17
  have fc_14 := ((Fw9.ext E15).other W17 (Or.inr (slot_ne (Or.inl (own_w hw 29 rfl)) (Or.inl (own_w hw 31 rfl)) (by decide) (t := (.array .int)) (t' := (.array .int)) (by decide) (by decide))))
  have fc_15 := ((fc_2.ext E15).other W17 (Or.inr (slot_ne (Or.inl (own_w hw 33 rfl)) (Or.inl (own_w hw 31 rfl)) (by decide) (t := (.array .float)) (t' := (.array .int)) (by decide) (by decide))))
  have fc_16 := ((fc_3.ext E15).other W17 (Or.inr (slot_ne (Or.inl (own_w hw 35 rfl)) (Or.inl (own_w hw 31 rfl)) (by decide) (t := (.array .float)) (t' := (.array .int)) (by decide) (by decide))))
  have fc_17 := ((fc_4.ext E15).other W17 (Or.inr (slot_ne (Or.inl (own_w hw 37 rfl)) (Or.inl (own_w hw 31 rfl)) (by decide) (t := (.array .float)) (t' := (.array .int)) (by decide) (by decide))))
  have fc_18 := ((fc_5.ext E15).other W17 (Or.inr (slot_ne (Or.inr (own_w hw 39 rfl)) (Or.inl (own_w hw 31 rfl)) (by decide) (t := .int) (t' := (.array .int)) (by decide) (by decide))))
  have fc_19 := ((fc_6.ext E15).other W17 (Or.inr (slot_ne (Or.inr (own_w hw 50 rfl)) (Or.inl (own_w hw 31 rfl)) (by decide) (t := (.array .float)) (t' := (.array .int)) (by decide) (by decide))))
  have fc_20 := ((fc_7.ext E15).other W17 (Or.inr (slot_ne (Or.inr (own_w hw 52 rfl)) (Or.inl (own_w hw 31 rfl)) (by decide) (t := (.array .float)) (t' := (.array .int)) (by decide) (by decide))))
  have fc_21 := ((fc_8.ext E15).other W17 (Or.inr (slot_ne (Or.inr (own_w hw 54 rfl)) (Or.inl (own_w hw 31 rfl)) (by decide) (t := (.array .float)) (t' := (.array .int)) (by decide) (by decide))))
  have fc_22 := ((fc_9.ext E15).other W17 (Or.inr (slot_ne (Or.inr (own_w hw 56 rfl)) (Or.inl (own_w hw 31 rfl)) (by decide) (t := (.array .float)) (t' := (.array .int)) (by decide) (by decide))))
  have fc_23 := ((fc_10.ext E15).other W17 (Or.inr (slot_ne (Or.inr (own_w hw 58 rfl)) (Or.inl (own_w hw 31 rfl)) (by decide) (t := (.array .float)) (t' := (.array .int)) (by decide) (by decide))))
  have fc_24 := ((fc_11.ext E15).other W17 (Or.inr (slot_ne (Or.inr (own_w hw 60 rfl)) (Or.inl (own_w hw 31 rfl)) (by decide) (t := (.array .float)) (t' := (.array .int)) (by decide) (by decide))))
  have fc_25 := ((fc_12.ext E15).other W17 (Or.inr (slot_ne (Or.inl (own_w hw 84 rfl)) (Or.inl (own_w hw 31 rfl)) (by decide) (t := .int) (t' := (.array .int)) (by decide) (by decide))))
  have fc_26 := ((fc_13.ext E15).other W17 (Or.inr (slot_ne (Or.inl (own_w hw 82 rfl)) (Or.inl (own_w hw 31 rfl)) (by decide) (t := .int) (t' := (.array .int)) (by decide) (by decide))))
  have fc_27 := ((((A_a2.ext E7).other W9 (Ne.symm n_a1_a2)).ext E15).other W17 (Ne.symm n_a1_a2))
  have fc_28 := ((((A_a3.ext E7).other W9 (Ne.symm n_a1_a3)).ext E15).other W17 (Ne.symm n_a1_a3))
  have fc_29 := ((((A_a4.ext E7).other W9 (Ne.symm n_a1_a4)).ext E15).other W17 (Ne.symm n_a1_a4))
  have fc_30 := (((V7.other W9 (Ne.symm ne_a1_b7)).ext E15).other W17 (Ne.symm ne_a1_b7))
  have K17 : Keep h0 h17 [a1] := K15.wr W17 (Or.inl (List.mem_of_getElem? (i := 0) rfl))
  have Z17 : n0 ≤ h17.size := Nat.le_trans Z15 (Keep.of_wr W17).1
  have N17 := Fr.snoc X17 N9 g_a1
  refine own_by st17 ?_
  have sg23 : ∀ t, own_S p e below T17 (mkF m 23 (own_ARIRRR a1 (2 : Int32) a2 a3 a4) [(.int (16 : Int32)), (.ref a1)]) t → own_S p e below T17 (mkF m 20 (own_ARIRRR a1 (2 : Int32) a2 a3 a4) []) t := by
    intro t k
    refine XS.aloadN X17.here hx rfl (hb hby d5_20) rfl rfl ?_
    show own_S p e below T17 (mkF m 21 (own_ARIRRR a1 (2 : Int32) a2 a3 a4) [(.ref a1)]) _
    refine XS.bipush X17.here hx rfl (hb hby d5_21) ?_
    exact k
  refine own_by sg23 ?_
  obtain ⟨T23, h23, kc23, X23, e23, E23, A23, st23⟩ := newP X17 hx hZ (own_w hw 4 rfl) e17 (g := (mkF m 23 (own_ARIRRR a1 (2 : Int32) a2 a3 a4) [(.int (16 : Int32)), (.ref a1)])) rfl (hb hby d5_23) rfl (by decide) (cap := 16) (by decide) (by decide) (by decide) (by decide)
  obtain ⟨b23, g23⟩ : ∃ z, z = h17.size := ⟨_, rfl⟩
  rw [← g23] at A23 st23
  have ne_a1_b23 : a1 ≠ b23 := Nat.ne_of_lt (Nat.lt_of_lt_of_le ((((E_a1.ext E7).wr W9).ext E15).wr W17).lt (Nat.le_of_eq g23.symm))
  have ne_a2_b23 : a2 ≠ b23 := Nat.ne_of_lt (Nat.lt_of_lt_of_le ((((E_a2.ext E7).wr W9).ext E15).wr W17).lt (Nat.le_of_eq g23.symm))
  have ne_a3_b23 : a3 ≠ b23 := Nat.ne_of_lt (Nat.lt_of_lt_of_le ((((E_a3.ext E7).wr W9).ext E15).wr W17).lt (Nat.le_of_eq g23.symm))
  have ne_a4_b23 : a4 ≠ b23 := Nat.ne_of_lt (Nat.lt_of_lt_of_le ((((E_a4.ext E7).wr W9).ext E15).wr W17).lt (Nat.le_of_eq g23.symm))
  have ne_b7_b23 : b7 ≠ b23 := Nat.ne_of_lt (Nat.lt_of_lt_of_le fc_30.lt (Nat.le_of_eq g23.symm))
  have ne_b15_b23 : b15 ≠ b23 := Nat.ne_of_lt (Nat.lt_of_lt_of_le (V15.other W17 (Ne.symm ne_a1_b15)).lt (Nat.le_of_eq g23.symm))
  have g_b23 : n0 ≤ b23 := Nat.le_trans Z17 (Nat.le_of_eq g23.symm)
  have sz_b23 : h0.size ≤ b23 := Nat.le_trans K17.1 (Nat.le_of_eq g23.symm)
  have K23 := K17.ext E23
  have Z23 : n0 ≤ h23.size := Nat.le_trans Z17 E23.1
  have V23 : Arv Z h23 b23 kc23 .float (16 : Int32) [(.float (0 : UInt32)), (.float (0 : UInt32)), (.float (0 : UInt32)), (.float (0 : UInt32)), (.float (0 : UInt32)), (.float (0 : UInt32)), (.float (0 : UInt32)), (.float (0 : UInt32)), (.float (0 : UInt32)), (.float (0 : UInt32)), (.float (0 : UInt32)), (.float (0 : UInt32)), (.float (0 : UInt32)), (.float (0 : UInt32)), (.float (0 : UInt32)), (.float (0 : UInt32))] (.float (0 : UInt32)) := (Arv.new A23 (by decide)).pad (pad_rep [] (.float (0 : UInt32)) 16)
  refine own_by st23 ?_
  obtain ⟨T25, h25, X25, e25, W25, st25⟩ := putF X23 hx hZ hown (host := "") (Or.inl (own_w hw 32 rfl)) Via.refl e23 (fc_15.ext E23) (((((E_a1.ext E7).wr W9).ext E15).wr W17).ext E23) (Or.inl (own_w hw 33 rfl)) (own_w hw 7 rfl) (ty := (.array .float)) (by decide) rfl rfl (g := (mkF m 25 (own_ARIRRR a1 (2 : Int32) a2 a3 a4) [(.ref b23), (.ref a1)])) rfl rfl (hb hby d5_25)
  have Fw25 := (fc_15.ext E23).same W25
  have fc_31 := ((fc_14.ext E23).other W25 (Or.inr (slot_ne (Or.inl (own_w hw 29 rfl)) (Or.inl (own_w hw 33 rfl)) (by decide) (t := (.array .int)) (t' := (.array .float)) (by decide) (by decide))))
  have fc_32 := ((Fw17.ext E23).other W25 (Or.inr (slot_ne (Or.inl (own_w hw 31 rfl)) (Or.inl (own_w hw 33 rfl)) (by decide) (t := (.array .int)) (t' := (.array .float)) (by decide) (by decide))))
  have fc_33 := ((fc_16.ext E23).other W25 (Or.inr (slot_ne (Or.inl (own_w hw 35 rfl)) (Or.inl (own_w hw 33 rfl)) (by decide) (t := (.array .float)) (t' := (.array .float)) (by decide) (by decide))))
  have fc_34 := ((fc_17.ext E23).other W25 (Or.inr (slot_ne (Or.inl (own_w hw 37 rfl)) (Or.inl (own_w hw 33 rfl)) (by decide) (t := (.array .float)) (t' := (.array .float)) (by decide) (by decide))))
  have fc_35 := ((fc_18.ext E23).other W25 (Or.inr (slot_ne (Or.inr (own_w hw 39 rfl)) (Or.inl (own_w hw 33 rfl)) (by decide) (t := .int) (t' := (.array .float)) (by decide) (by decide))))
  have fc_36 := ((fc_19.ext E23).other W25 (Or.inr (slot_ne (Or.inr (own_w hw 50 rfl)) (Or.inl (own_w hw 33 rfl)) (by decide) (t := (.array .float)) (t' := (.array .float)) (by decide) (by decide))))
  have fc_37 := ((fc_20.ext E23).other W25 (Or.inr (slot_ne (Or.inr (own_w hw 52 rfl)) (Or.inl (own_w hw 33 rfl)) (by decide) (t := (.array .float)) (t' := (.array .float)) (by decide) (by decide))))
  have fc_38 := ((fc_21.ext E23).other W25 (Or.inr (slot_ne (Or.inr (own_w hw 54 rfl)) (Or.inl (own_w hw 33 rfl)) (by decide) (t := (.array .float)) (t' := (.array .float)) (by decide) (by decide))))
  have fc_39 := ((fc_22.ext E23).other W25 (Or.inr (slot_ne (Or.inr (own_w hw 56 rfl)) (Or.inl (own_w hw 33 rfl)) (by decide) (t := (.array .float)) (t' := (.array .float)) (by decide) (by decide))))
  have fc_40 := ((fc_23.ext E23).other W25 (Or.inr (slot_ne (Or.inr (own_w hw 58 rfl)) (Or.inl (own_w hw 33 rfl)) (by decide) (t := (.array .float)) (t' := (.array .float)) (by decide) (by decide))))
  have fc_41 := ((fc_24.ext E23).other W25 (Or.inr (slot_ne (Or.inr (own_w hw 60 rfl)) (Or.inl (own_w hw 33 rfl)) (by decide) (t := (.array .float)) (t' := (.array .float)) (by decide) (by decide))))
  have fc_42 := ((fc_25.ext E23).other W25 (Or.inr (slot_ne (Or.inl (own_w hw 84 rfl)) (Or.inl (own_w hw 33 rfl)) (by decide) (t := .int) (t' := (.array .float)) (by decide) (by decide))))
  have fc_43 := ((fc_26.ext E23).other W25 (Or.inr (slot_ne (Or.inl (own_w hw 82 rfl)) (Or.inl (own_w hw 33 rfl)) (by decide) (t := .int) (t' := (.array .float)) (by decide) (by decide))))
  have fc_44 := (((V15.other W17 (Ne.symm ne_a1_b15)).ext E23).other W25 (Ne.symm ne_a1_b15))
  have K25 : Keep h0 h25 [a1] := K23.wr W25 (Or.inl (List.mem_of_getElem? (i := 0) rfl))
  have Z25 : n0 ≤ h25.size := Nat.le_trans Z23 (Keep.of_wr W25).1
  have N25 := Fr.snoc X25 N17 g_a1
  refine own_by st25 ?_
  have sg31 : ∀ t, own_S p e below T25 (mkF m 31 (own_ARIRRR a1 (2 : Int32) a2 a3 a4) [(.int (16 : Int32)), (.ref a1)]) t → own_S p e below T25 (mkF m 28 (own_ARIRRR a1 (2 : Int32) a2 a3 a4) []) t := by
    intro t k
    refine XS.aloadN X25.here hx rfl (hb hby d5_28) rfl rfl ?_
    show own_S p e below T25 (mkF m 29 (own_ARIRRR a1 (2 : Int32) a2 a3 a4) [(.ref a1)]) _
    refine XS.bipush X25.here hx rfl (hb hby d5_29) ?_
    exact k
  refine own_by sg31 ?_
  obtain ⟨T31, h31, kc31, X31, e31, E31, A31, st31⟩ := newP X25 hx hZ (own_w hw 4 rfl) e25 (g := (mkF m 31 (own_ARIRRR a1 (2 : Int32) a2 a3 a4) [(.int (16 : Int32)), (.ref a1)])) rfl (hb hby d5_31) rfl (by decide) (cap := 16) (by decide) (by decide) (by decide) (by decide)
  obtain ⟨b31, g31⟩ : ∃ z, z = h25.size := ⟨_, rfl⟩
  rw [← g31] at A31 st31
  have ne_a1_b31 : a1 ≠ b31 := Nat.ne_of_lt (Nat.lt_of_lt_of_le ((((((E_a1.ext E7).wr W9).ext E15).wr W17).ext E23).wr W25).lt (Nat.le_of_eq g31.symm))
  have ne_a2_b31 : a2 ≠ b31 := Nat.ne_of_lt (Nat.lt_of_lt_of_le ((((((E_a2.ext E7).wr W9).ext E15).wr W17).ext E23).wr W25).lt (Nat.le_of_eq g31.symm))
  have ne_a3_b31 : a3 ≠ b31 := Nat.ne_of_lt (Nat.lt_of_lt_of_le ((((((E_a3.ext E7).wr W9).ext E15).wr W17).ext E23).wr W25).lt (Nat.le_of_eq g31.symm))
  have ne_a4_b31 : a4 ≠ b31 := Nat.ne_of_lt (Nat.lt_of_lt_of_le ((((((E_a4.ext E7).wr W9).ext E15).wr W17).ext E23).wr W25).lt (Nat.le_of_eq g31.symm))
  have ne_b7_b31 : b7 ≠ b31 := Nat.ne_of_lt (Nat.lt_of_lt_of_le ((fc_30.ext E23).other W25 (Ne.symm ne_a1_b7)).lt (Nat.le_of_eq g31.symm))
  have ne_b15_b31 : b15 ≠ b31 := Nat.ne_of_lt (Nat.lt_of_lt_of_le fc_44.lt (Nat.le_of_eq g31.symm))
  have ne_b23_b31 : b23 ≠ b31 := Nat.ne_of_lt (Nat.lt_of_lt_of_le (V23.other W25 (Ne.symm ne_a1_b23)).lt (Nat.le_of_eq g31.symm))
  have g_b31 : n0 ≤ b31 := Nat.le_trans Z25 (Nat.le_of_eq g31.symm)
  have sz_b31 : h0.size ≤ b31 := Nat.le_trans K25.1 (Nat.le_of_eq g31.symm)
  have fc_45 := (((((((E_a1.ext E7).wr W9).ext E15).wr W17).ext E23).wr W25).ext E31)
  have fc_46 := (((((((E_a2.ext E7).wr W9).ext E15).wr W17).ext E23).wr W25).ext E31)
  have fc_47 := (((((((E_a3.ext E7).wr W9).ext E15).wr W17).ext E23).wr W25).ext E31)
  have fc_48 := (((((((E_a4.ext E7).wr W9).ext E15).wr W17).ext E23).wr W25).ext E31)
  have K31 := K25.ext E31
  have Z31 : n0 ≤ h31.size := Nat.le_trans Z25 E31.1
  have V31 : Arv Z h31 b31 kc31 .float (16 : Int32) [(.float (0 : UInt32)), (.float (0 : UInt32)), (.float (0 : UInt32)), (.float (0 : UInt32)), (.float (0 : UInt32)), (.float (0 : UInt32)), (.float (0 : UInt32)), (.float (0 : UInt32)), (.float (0 : UInt32)), (.float (0 : UInt32)), (.float (0 : UInt32)), (.float (0 : UInt32)), (.float (0 : UInt32)), (.float (0 : UInt32)), (.float (0 : UInt32)), (.float (0 : UInt32))] (.float (0 : UInt32)) := (Arv.new A31 (by decide)).pad (pad_rep [] (.float (0 : UInt32)) 16)
  refine own_by st31 ?_
  obtain ⟨T33, h33, X33, e33, W33, st33⟩ := putF X31 hx hZ hown (host := "") (Or.inl (own_w hw 34 rfl)) Via.refl e31 (fc_33.ext E31) fc_45 (Or.inl (own_w hw 35 rfl)) (own_w hw 7 rfl) (ty := (.array .float)) (by decide) rfl rfl (g := (mkF m 33 (own_ARIRRR a1 (2 : Int32) a2 a3 a4) [(.ref b31), (.ref a1)])) rfl rfl (hb hby d5_33)
  have Fw33 := (fc_33.ext E31).same W33
  have fc_49 := ((fc_31.ext E31).other W33 (Or.inr (slot_ne (Or.inl (own_w hw 29 rfl)) (Or.inl (own_w hw 35 rfl)) (by decide) (t := (.array .int)) (t' := (.array .float)) (by decide) (by decide))))
  have fc_50 := ((fc_32.ext E31).other W33 (Or.inr (slot_ne (Or.inl (own_w hw 31 rfl)) (Or.inl (own_w hw 35 rfl)) (by decide) (t := (.array .int)) (t' := (.array .float)) (by decide) (by decide))))
  have fc_51 := ((Fw25.ext E31).other W33 (Or.inr (slot_ne (Or.inl (own_w hw 33 rfl)) (Or.inl (own_w hw 35 rfl)) (by decide) (t := (.array .float)) (t' := (.array .float)) (by decide) (by decide))))
  have fc_52 := ((fc_34.ext E31).other W33 (Or.inr (slot_ne (Or.inl (own_w hw 37 rfl)) (Or.inl (own_w hw 35 rfl)) (by decide) (t := (.array .float)) (t' := (.array .float)) (by decide) (by decide))))
  have fc_53 := ((fc_35.ext E31).other W33 (Or.inr (slot_ne (Or.inr (own_w hw 39 rfl)) (Or.inl (own_w hw 35 rfl)) (by decide) (t := .int) (t' := (.array .float)) (by decide) (by decide))))
  have fc_54 := ((fc_36.ext E31).other W33 (Or.inr (slot_ne (Or.inr (own_w hw 50 rfl)) (Or.inl (own_w hw 35 rfl)) (by decide) (t := (.array .float)) (t' := (.array .float)) (by decide) (by decide))))
  have fc_55 := ((fc_37.ext E31).other W33 (Or.inr (slot_ne (Or.inr (own_w hw 52 rfl)) (Or.inl (own_w hw 35 rfl)) (by decide) (t := (.array .float)) (t' := (.array .float)) (by decide) (by decide))))
  have fc_56 := ((fc_38.ext E31).other W33 (Or.inr (slot_ne (Or.inr (own_w hw 54 rfl)) (Or.inl (own_w hw 35 rfl)) (by decide) (t := (.array .float)) (t' := (.array .float)) (by decide) (by decide))))
  have fc_57 := ((fc_39.ext E31).other W33 (Or.inr (slot_ne (Or.inr (own_w hw 56 rfl)) (Or.inl (own_w hw 35 rfl)) (by decide) (t := (.array .float)) (t' := (.array .float)) (by decide) (by decide))))
  have fc_58 := ((fc_40.ext E31).other W33 (Or.inr (slot_ne (Or.inr (own_w hw 58 rfl)) (Or.inl (own_w hw 35 rfl)) (by decide) (t := (.array .float)) (t' := (.array .float)) (by decide) (by decide))))
  have fc_59 := ((fc_41.ext E31).other W33 (Or.inr (slot_ne (Or.inr (own_w hw 60 rfl)) (Or.inl (own_w hw 35 rfl)) (by decide) (t := (.array .float)) (t' := (.array .float)) (by decide) (by decide))))
  have fc_60 := ((fc_42.ext E31).other W33 (Or.inr (slot_ne (Or.inl (own_w hw 84 rfl)) (Or.inl (own_w hw 35 rfl)) (by decide) (t := .int) (t' := (.array .float)) (by decide) (by decide))))
  have fc_61 := ((fc_43.ext E31).other W33 (Or.inr (slot_ne (Or.inl (own_w hw 82 rfl)) (Or.inl (own_w hw 35 rfl)) (by decide) (t := .int) (t' := (.array .float)) (by decide) (by decide))))
  have fc_62 := ((((fc_27.ext E23).other W25 (Ne.symm n_a1_a2)).ext E31).other W33 (Ne.symm n_a1_a2))
  have fc_63 := ((((fc_28.ext E23).other W25 (Ne.symm n_a1_a3)).ext E31).other W33 (Ne.symm n_a1_a3))
  have fc_64 := ((((fc_29.ext E23).other W25 (Ne.symm n_a1_a4)).ext E31).other W33 (Ne.symm n_a1_a4))
  have fc_65 := ((((fc_30.ext E23).other W25 (Ne.symm ne_a1_b7)).ext E31).other W33 (Ne.symm ne_a1_b7))
  have fc_66 := (((V23.other W25 (Ne.symm ne_a1_b23)).ext E31).other W33 (Ne.symm ne_a1_b23))
  have K33 : Keep h0 h33 [a1] := K31.wr W33 (Or.inl (List.mem_of_getElem? (i := 0) rfl))
  have Z33 : n0 ≤ h33.size := Nat.le_trans Z31 (Keep.of_wr W33).1
  have N33 := Fr.snoc X33 N25 g_a1
  refine own_by st33 ?_
  have sg39 : ∀ t, own_S p e below T33 (mkF m 39 (own_ARIRRR a1 (2 : Int32) a2 a3 a4) [(.int (16 : Int32)), (.ref a1)]) t → own_S p e below T33 (mkF m 36 (own_ARIRRR a1 (2 : Int32) a2 a3 a4) []) t := by
    intro t k
    refine XS.aloadN X33.here hx rfl (hb hby d5_36) rfl rfl ?_
    show own_S p e below T33 (mkF m 37 (own_ARIRRR a1 (2 : Int32) a2 a3 a4) [(.ref a1)]) _
    refine XS.bipush X33.here hx rfl (hb hby d5_37) ?_
    exact k
  refine own_by sg39 ?_
  obtain ⟨T39, h39, kc39, X39, e39, E39, A39, st39⟩ := newP X33 hx hZ (own_w hw 4 rfl) e33 (g := (mkF m 39 (own_ARIRRR a1 (2 : Int32) a2 a3 a4) [(.int (16 : Int32)), (.ref a1)])) rfl (hb hby d5_39) rfl (by decide) (cap := 16) (by decide) (by decide) (by decide) (by decide)
  obtain ⟨b39, g39⟩ : ∃ z, z = h33.size := ⟨_, rfl⟩
  rw [← g39] at A39 st39
  have ne_a1_b39 : a1 ≠ b39 := Nat.ne_of_lt (Nat.lt_of_lt_of_le (fc_45.wr W33).lt (Nat.le_of_eq g39.symm))
  have ne_a2_b39 : a2 ≠ b39 := Nat.ne_of_lt (Nat.lt_of_lt_of_le (fc_46.wr W33).lt (Nat.le_of_eq g39.symm))
  have ne_a3_b39 : a3 ≠ b39 := Nat.ne_of_lt (Nat.lt_of_lt_of_le (fc_47.wr W33).lt (Nat.le_of_eq g39.symm))
  have ne_a4_b39 : a4 ≠ b39 := Nat.ne_of_lt (Nat.lt_of_lt_of_le (fc_48.wr W33).lt (Nat.le_of_eq g39.symm))
  have ne_b7_b39 : b7 ≠ b39 := Nat.ne_of_lt (Nat.lt_of_lt_of_le fc_65.lt (Nat.le_of_eq g39.symm))
  have ne_b15_b39 : b15 ≠ b39 := Nat.ne_of_lt (Nat.lt_of_lt_of_le ((fc_44.ext E31).other W33 (Ne.symm ne_a1_b15)).lt (Nat.le_of_eq g39.symm))
  have ne_b23_b39 : b23 ≠ b39 := Nat.ne_of_lt (Nat.lt_of_lt_of_le fc_66.lt (Nat.le_of_eq g39.symm))
  have ne_b31_b39 : b31 ≠ b39 := Nat.ne_of_lt (Nat.lt_of_lt_of_le (V31.other W33 (Ne.symm ne_a1_b31)).lt (Nat.le_of_eq g39.symm))
  have g_b39 : n0 ≤ b39 := Nat.le_trans Z33 (Nat.le_of_eq g39.symm)
  have sz_b39 : h0.size ≤ b39 := Nat.le_trans K33.1 (Nat.le_of_eq g39.symm)
  have K39 := K33.ext E39
  have Z39 : n0 ≤ h39.size := Nat.le_trans Z33 E39.1
  have V39 : Arv Z h39 b39 kc39 .float (16 : Int32) [(.float (0 : UInt32)), (.float (0 : UInt32)), (.float (0 : UInt32)), (.float (0 : UInt32)), (.float (0 : UInt32)), (.float (0 : UInt32)), (.float (0 : UInt32)), (.float (0 : UInt32)), (.float (0 : UInt32)), (.float (0 : UInt32)), (.float (0 : UInt32)), (.float (0 : UInt32)), (.float (0 : UInt32)), (.float (0 : UInt32)), (.float (0 : UInt32)), (.float (0 : UInt32))] (.float (0 : UInt32)) := (Arv.new A39 (by decide)).pad (pad_rep [] (.float (0 : UInt32)) 16)
  refine own_by st39 ?_
  obtain ⟨T41, h41, X41, e41, W41, st41⟩ := putF X39 hx hZ hown (host := "") (Or.inl (own_w hw 36 rfl)) Via.refl e39 (fc_52.ext E39) ((fc_45.wr W33).ext E39) (Or.inl (own_w hw 37 rfl)) (own_w hw 7 rfl) (ty := (.array .float)) (by decide) rfl rfl (g := (mkF m 41 (own_ARIRRR a1 (2 : Int32) a2 a3 a4) [(.ref b39), (.ref a1)])) rfl rfl (hb hby d5_41)
  have Fw41 := (fc_52.ext E39).same W41
  have fc_67 := ((fc_49.ext E39).other W41 (Or.inr (slot_ne (Or.inl (own_w hw 29 rfl)) (Or.inl (own_w hw 37 rfl)) (by decide) (t := (.array .int)) (t' := (.array .float)) (by decide) (by decide))))
  have fc_68 := ((fc_50.ext E39).other W41 (Or.inr (slot_ne (Or.inl (own_w hw 31 rfl)) (Or.inl (own_w hw 37 rfl)) (by decide) (t := (.array .int)) (t' := (.array .float)) (by decide) (by decide))))
  have fc_69 := ((fc_51.ext E39).other W41 (Or.inr (slot_ne (Or.inl (own_w hw 33 rfl)) (Or.inl (own_w hw 37 rfl)) (by decide) (t := (.array .float)) (t' := (.array .float)) (by decide) (by decide))))
  have fc_70 := ((Fw33.ext E39).other W41 (Or.inr (slot_ne (Or.inl (own_w hw 35 rfl)) (Or.inl (own_w hw 37 rfl)) (by decide) (t := (.array .float)) (t' := (.array .float)) (by decide) (by decide))))
  have fc_71 := ((fc_53.ext E39).other W41 (Or.inr (slot_ne (Or.inr (own_w hw 39 rfl)) (Or.inl (own_w hw 37 rfl)) (by decide) (t := .int) (t' := (.array .float)) (by decide) (by decide))))
  have fc_72 := ((fc_54.ext E39).other W41 (Or.inr (slot_ne (Or.inr (own_w hw 50 rfl)) (Or.inl (own_w hw 37 rfl)) (by decide) (t := (.array .float)) (t' := (.array .float)) (by decide) (by decide))))
  have fc_73 := ((fc_55.ext E39).other W41 (Or.inr (slot_ne (Or.inr (own_w hw 52 rfl)) (Or.inl (own_w hw 37 rfl)) (by decide) (t := (.array .float)) (t' := (.array .float)) (by decide) (by decide))))
  have fc_74 := ((fc_56.ext E39).other W41 (Or.inr (slot_ne (Or.inr (own_w hw 54 rfl)) (Or.inl (own_w hw 37 rfl)) (by decide) (t := (.array .float)) (t' := (.array .float)) (by decide) (by decide))))
  have fc_75 := ((fc_57.ext E39).other W41 (Or.inr (slot_ne (Or.inr (own_w hw 56 rfl)) (Or.inl (own_w hw 37 rfl)) (by decide) (t := (.array .float)) (t' := (.array .float)) (by decide) (by decide))))
  have fc_76 := ((fc_58.ext E39).other W41 (Or.inr (slot_ne (Or.inr (own_w hw 58 rfl)) (Or.inl (own_w hw 37 rfl)) (by decide) (t := (.array .float)) (t' := (.array .float)) (by decide) (by decide))))
  have fc_77 := ((fc_59.ext E39).other W41 (Or.inr (slot_ne (Or.inr (own_w hw 60 rfl)) (Or.inl (own_w hw 37 rfl)) (by decide) (t := (.array .float)) (t' := (.array .float)) (by decide) (by decide))))
  have fc_78 := ((fc_60.ext E39).other W41 (Or.inr (slot_ne (Or.inl (own_w hw 84 rfl)) (Or.inl (own_w hw 37 rfl)) (by decide) (t := .int) (t' := (.array .float)) (by decide) (by decide))))
  have fc_79 := ((fc_61.ext E39).other W41 (Or.inr (slot_ne (Or.inl (own_w hw 82 rfl)) (Or.inl (own_w hw 37 rfl)) (by decide) (t := .int) (t' := (.array .float)) (by decide) (by decide))))
  have fc_80 := ((((fc_44.ext E31).other W33 (Ne.symm ne_a1_b15)).ext E39).other W41 (Ne.symm ne_a1_b15))
  have fc_81 := (((V31.other W33 (Ne.symm ne_a1_b31)).ext E39).other W41 (Ne.symm ne_a1_b31))
  have K41 : Keep h0 h41 [a1] := K39.wr W41 (Or.inl (List.mem_of_getElem? (i := 0) rfl))
  have Z41 : n0 ≤ h41.size := Nat.le_trans Z39 (Keep.of_wr W41).1
  have N41 := Fr.snoc X41 N33 g_a1
  refine own_by st41 ?_
  have sg46 : ∀ t, own_S p e below T41 (mkF m 46 (own_ARIRRR a1 (2 : Int32) a2 a3 a4) [(.int (2 : Int32)), (.ref a1)]) t → own_S p e below T41 (mkF m 44 (own_ARIRRR a1 (2 : Int32) a2 a3 a4) []) t := by
    intro t k
    refine XS.aloadN X41.here hx rfl (hb hby d5_44) rfl rfl ?_
    show own_S p e below T41 (mkF m 45 (own_ARIRRR a1 (2 : Int32) a2 a3 a4) [(.ref a1)]) _
    refine XS.iloadN X41.here hx rfl (hb hby d5_45) rfl ?_
    exact k
  refine own_by sg46 ?_
  obtain ⟨T46, h46, X46, e46, W46, st46⟩ := putF X41 hx hZ hown (host := "") (Or.inl (own_w hw 38 rfl)) Via.refl e41 fc_71 (((fc_45.wr W33).ext E39).wr W41) (Or.inr ⟨(own_w hw 39 rfl), rfl, hnm⟩) (own_w hw 7 rfl) (ty := .int) (by decide) rfl rfl (g := (mkF m 46 (own_ARIRRR a1 (2 : Int32) a2 a3 a4) [(.int (2 : Int32)), (.ref a1)])) rfl rfl (hb hby d5_46)
  have Fw46 := fc_71.same W46
  have fc_82 := (fc_67.other W46 (Or.inr (slot_ne (Or.inl (own_w hw 29 rfl)) (Or.inr (own_w hw 39 rfl)) (by decide) (t := (.array .int)) (t' := .int) (by decide) (by decide))))
  have fc_83 := (fc_68.other W46 (Or.inr (slot_ne (Or.inl (own_w hw 31 rfl)) (Or.inr (own_w hw 39 rfl)) (by decide) (t := (.array .int)) (t' := .int) (by decide) (by decide))))
  have fc_84 := (fc_69.other W46 (Or.inr (slot_ne (Or.inl (own_w hw 33 rfl)) (Or.inr (own_w hw 39 rfl)) (by decide) (t := (.array .float)) (t' := .int) (by decide) (by decide))))
  have fc_85 := (fc_70.other W46 (Or.inr (slot_ne (Or.inl (own_w hw 35 rfl)) (Or.inr (own_w hw 39 rfl)) (by decide) (t := (.array .float)) (t' := .int) (by decide) (by decide))))
  have fc_86 := (Fw41.other W46 (Or.inr (slot_ne (Or.inl (own_w hw 37 rfl)) (Or.inr (own_w hw 39 rfl)) (by decide) (t := (.array .float)) (t' := .int) (by decide) (by decide))))
  have fc_87 := (fc_72.other W46 (Or.inr (slot_ne (Or.inr (own_w hw 50 rfl)) (Or.inr (own_w hw 39 rfl)) (by decide) (t := (.array .float)) (t' := .int) (by decide) (by decide))))
  have fc_88 := (fc_73.other W46 (Or.inr (slot_ne (Or.inr (own_w hw 52 rfl)) (Or.inr (own_w hw 39 rfl)) (by decide) (t := (.array .float)) (t' := .int) (by decide) (by decide))))
  have fc_89 := (fc_74.other W46 (Or.inr (slot_ne (Or.inr (own_w hw 54 rfl)) (Or.inr (own_w hw 39 rfl)) (by decide) (t := (.array .float)) (t' := .int) (by decide) (by decide))))
  have fc_90 := (fc_75.other W46 (Or.inr (slot_ne (Or.inr (own_w hw 56 rfl)) (Or.inr (own_w hw 39 rfl)) (by decide) (t := (.array .float)) (t' := .int) (by decide) (by decide))))
  have fc_91 := (fc_76.other W46 (Or.inr (slot_ne (Or.inr (own_w hw 58 rfl)) (Or.inr (own_w hw 39 rfl)) (by decide) (t := (.array .float)) (t' := .int) (by decide) (by decide))))
  have fc_92 := (fc_77.other W46 (Or.inr (slot_ne (Or.inr (own_w hw 60 rfl)) (Or.inr (own_w hw 39 rfl)) (by decide) (t := (.array .float)) (t' := .int) (by decide) (by decide))))
  have fc_93 := (fc_78.other W46 (Or.inr (slot_ne (Or.inl (own_w hw 84 rfl)) (Or.inr (own_w hw 39 rfl)) (by decide) (t := .int) (t' := .int) (by decide) (by decide))))
  have fc_94 := (fc_79.other W46 (Or.inr (slot_ne (Or.inl (own_w hw 82 rfl)) (Or.inr (own_w hw 39 rfl)) (by decide) (t := .int) (t' := .int) (by decide) (by decide))))
  have fc_95 := (((fc_62.ext E39).other W41 (Ne.symm n_a1_a2)).other W46 (Ne.symm n_a1_a2))
  have fc_96 := (((fc_63.ext E39).other W41 (Ne.symm n_a1_a3)).other W46 (Ne.symm n_a1_a3))
  have fc_97 := (((fc_64.ext E39).other W41 (Ne.symm n_a1_a4)).other W46 (Ne.symm n_a1_a4))
  have fc_98 := (((fc_65.ext E39).other W41 (Ne.symm ne_a1_b7)).other W46 (Ne.symm ne_a1_b7))
  have fc_99 := (((fc_66.ext E39).other W41 (Ne.symm ne_a1_b23)).other W46 (Ne.symm ne_a1_b23))
  have fc_100 := ((V39.other W41 (Ne.symm ne_a1_b39)).other W46 (Ne.symm ne_a1_b39))
  have K46 : Keep h0 h46 [a1] := K41.wr W46 (Or.inl (List.mem_of_getElem? (i := 0) rfl))
  have Z46 : n0 ≤ h46.size := Nat.le_trans Z41 (Keep.of_wr W46).1
  have N46 := Fr.snoc X46 N41 g_a1
  refine own_by st46 ?_
  have sg51 : ∀ t, own_S p e below T46 (mkF m 51 (own_ARIRRR a1 (2 : Int32) a2 a3 a4) [(.ref a2), (.ref a1)]) t → own_S p e below T46 (mkF m 49 (own_ARIRRR a1 (2 : Int32) a2 a3 a4) []) t := by
    intro t k
    refine XS.aloadN X46.here hx rfl (hb hby d5_49) rfl rfl ?_
    show own_S p e below T46 (mkF m 50 (own_ARIRRR a1 (2 : Int32) a2 a3 a4) [(.ref a1)]) _
    refine XS.aloadN X46.here hx rfl (hb hby d5_50) rfl rfl ?_
    exact k
  refine own_by sg51 ?_
  obtain ⟨T51, h51, X51, e51, E51, Ar51, A51, st51⟩ := cloneH X46 hx hZ hown (own_w hw 40 rfl) (own_w hw 41 rfl) (own_w hw 45 rfl) (own_w hw 43 rfl) (own_w hw 44 rfl) (own_w hw 46 rfl) e46 (fc_95).arh ((((fc_46.wr W33).ext E39).wr W41).wr W46) (g := (mkF m 51 (own_ARIRRR a1 (2 : Int32) a2 a3 a4) [(.ref a2), (.ref a1)])) rfl (by rw [hml]; rfl) rfl (hb hby d5_51) (by decide) (W := 1) (cap := 2) (by show 2 * 0 + _ ≤ _; exact Nat.le_of_eq rfl) (by decide) (by decide) (by decide) (by decide)
  obtain ⟨b51, g51⟩ : ∃ z, z = h46.size := ⟨_, rfl⟩
  rw [← g51] at Ar51 A51 st51
  have V51 : Arv Z h51 b51 ka2 .float (2 : Int32) [(.float (2139095040 : UInt32)), (.float (2139095040 : UInt32))] (.float (0 : UInt32)) := Ar51
  have ne_a1_b51 : a1 ≠ b51 := Nat.ne_of_lt (Nat.lt_of_lt_of_le ((((fc_45.wr W33).ext E39).wr W41).wr W46).lt (Nat.le_of_eq g51.symm))
  have ne_a2_b51 : a2 ≠ b51 := Nat.ne_of_lt (Nat.lt_of_lt_of_le ((((fc_46.wr W33).ext E39).wr W41).wr W46).lt (Nat.le_of_eq g51.symm))
  have ne_a3_b51 : a3 ≠ b51 := Nat.ne_of_lt (Nat.lt_of_lt_of_le ((((fc_47.wr W33).ext E39).wr W41).wr W46).lt (Nat.le_of_eq g51.symm))
  have ne_a4_b51 : a4 ≠ b51 := Nat.ne_of_lt (Nat.lt_of_lt_of_le ((((fc_48.wr W33).ext E39).wr W41).wr W46).lt (Nat.le_of_eq g51.symm))
  have ne_b7_b51 : b7 ≠ b51 := Nat.ne_of_lt (Nat.lt_of_lt_of_le fc_98.lt (Nat.le_of_eq g51.symm))
  have ne_b15_b51 : b15 ≠ b51 := Nat.ne_of_lt (Nat.lt_of_lt_of_le (fc_80.other W46 (Ne.symm ne_a1_b15)).lt (Nat.le_of_eq g51.symm))
  have ne_b23_b51 : b23 ≠ b51 := Nat.ne_of_lt (Nat.lt_of_lt_of_le fc_99.lt (Nat.le_of_eq g51.symm))
  have ne_b31_b51 : b31 ≠ b51 := Nat.ne_of_lt (Nat.lt_of_lt_of_le (fc_81.other W46 (Ne.symm ne_a1_b31)).lt (Nat.le_of_eq g51.symm))
  have ne_b39_b51 : b39 ≠ b51 := Nat.ne_of_lt (Nat.lt_of_lt_of_le fc_100.lt (Nat.le_of_eq g51.symm))
  have g_b51 : n0 ≤ b51 := Nat.le_trans Z46 (Nat.le_of_eq g51.symm)
  have sz_b51 : h0.size ≤ b51 := Nat.le_trans K46.1 (Nat.le_of_eq g51.symm)
  have K51 := K46.ext E51
  have Z51 : n0 ≤ h51.size := Nat.le_trans Z46 E51.1
  refine own_by st51 ?_
  obtain ⟨T54, X54, e54, st54⟩ := castY X51 hx hZ hown (own_w hw 47 rfl) e51 (Ins.self A51) (g := (mkF m 54 (own_ARIRRR a1 (2 : Int32) a2 a3 a4) [(.ref b51), (.ref a1)])) rfl rfl (hb hby d5_54)
  refine own_by st54 ?_
  obtain ⟨T57, h57, X57, e57, W57, st57⟩ := putF X54 hx hZ hown (host := "") (Or.inl (own_w hw 49 rfl)) Via.refl e54 (fc_87.ext E51) (((((fc_45.wr W33).ext E39).wr W41).wr W46).ext E51) (Or.inr ⟨(own_w hw 50 rfl), rfl, hnm⟩) (own_w hw 7 rfl) (ty := (.array .float)) (by decide) rfl rfl (g := (mkF m 57 (own_ARIRRR a1 (2 : Int32) a2 a3 a4) [(.ref b51), (.ref a1)])) rfl rfl (hb hby d5_57)
  have Fw57 := (fc_87.ext E51).same W57
  have fc_101 := ((((((fc_45.wr W33).ext E39).wr W41).wr W46).ext E51).wr W57)
  have fc_102 := ((fc_82.ext E51).other W57 (Or.inr (slot_ne (Or.inl (own_w hw 29 rfl)) (Or.inr (own_w hw 50 rfl)) (by decide) (t := (.array .int)) (t' := (.array .float)) (by decide) (by decide))))
  have fc_103 := ((fc_83.ext E51).other W57 (Or.inr (slot_ne (Or.inl (own_w hw 31 rfl)) (Or.inr (own_w hw 50 rfl)) (by decide) (t := (.array .int)) (t' := (.array .float)) (by decide) (by decide))))
  have fc_104 := ((fc_84.ext E51).other W57 (Or.inr (slot_ne (Or.inl (own_w hw 33 rfl)) (Or.inr (own_w hw 50 rfl)) (by decide) (t := (.array .float)) (t' := (.array .float)) (by decide) (by decide))))
  have fc_105 := ((fc_85.ext E51).other W57 (Or.inr (slot_ne (Or.inl (own_w hw 35 rfl)) (Or.inr (own_w hw 50 rfl)) (by decide) (t := (.array .float)) (t' := (.array .float)) (by decide) (by decide))))
  have fc_106 := ((fc_86.ext E51).other W57 (Or.inr (slot_ne (Or.inl (own_w hw 37 rfl)) (Or.inr (own_w hw 50 rfl)) (by decide) (t := (.array .float)) (t' := (.array .float)) (by decide) (by decide))))
  have fc_107 := ((Fw46.ext E51).other W57 (Or.inr (slot_ne (Or.inr (own_w hw 39 rfl)) (Or.inr (own_w hw 50 rfl)) (by decide) (t := .int) (t' := (.array .float)) (by decide) (by decide))))
  have fc_108 := ((fc_88.ext E51).other W57 (Or.inr (slot_ne (Or.inr (own_w hw 52 rfl)) (Or.inr (own_w hw 50 rfl)) (by decide) (t := (.array .float)) (t' := (.array .float)) (by decide) (by decide))))
  have fc_109 := ((fc_89.ext E51).other W57 (Or.inr (slot_ne (Or.inr (own_w hw 54 rfl)) (Or.inr (own_w hw 50 rfl)) (by decide) (t := (.array .float)) (t' := (.array .float)) (by decide) (by decide))))
  have fc_110 := ((fc_90.ext E51).other W57 (Or.inr (slot_ne (Or.inr (own_w hw 56 rfl)) (Or.inr (own_w hw 50 rfl)) (by decide) (t := (.array .float)) (t' := (.array .float)) (by decide) (by decide))))
  have fc_111 := ((fc_91.ext E51).other W57 (Or.inr (slot_ne (Or.inr (own_w hw 58 rfl)) (Or.inr (own_w hw 50 rfl)) (by decide) (t := (.array .float)) (t' := (.array .float)) (by decide) (by decide))))
  have fc_112 := ((fc_92.ext E51).other W57 (Or.inr (slot_ne (Or.inr (own_w hw 60 rfl)) (Or.inr (own_w hw 50 rfl)) (by decide) (t := (.array .float)) (t' := (.array .float)) (by decide) (by decide))))
  have fc_113 := ((fc_93.ext E51).other W57 (Or.inr (slot_ne (Or.inl (own_w hw 84 rfl)) (Or.inr (own_w hw 50 rfl)) (by decide) (t := .int) (t' := (.array .float)) (by decide) (by decide))))
  have fc_114 := ((fc_94.ext E51).other W57 (Or.inr (slot_ne (Or.inl (own_w hw 82 rfl)) (Or.inr (own_w hw 50 rfl)) (by decide) (t := .int) (t' := (.array .float)) (by decide) (by decide))))
  have fc_115 := ((((((fc_46.wr W33).ext E39).wr W41).wr W46).ext E51).wr W57)
  have fc_116 := ((((((fc_47.wr W33).ext E39).wr W41).wr W46).ext E51).wr W57)
  have fc_117 := ((((((fc_48.wr W33).ext E39).wr W41).wr W46).ext E51).wr W57)
  have fc_118 := (((fc_80.other W46 (Ne.symm ne_a1_b15)).ext E51).other W57 (Ne.symm ne_a1_b15))
  have fc_119 := (((fc_81.other W46 (Ne.symm ne_a1_b31)).ext E51).other W57 (Ne.symm ne_a1_b31))
  have K57 : Keep h0 h57 [a1] := K51.wr W57 (Or.inl (List.mem_of_getElem? (i := 0) rfl))
  have Z57 : n0 ≤ h57.size := Nat.le_trans Z51 (Keep.of_wr W57).1
  have N57 := Fr.snoc X57 N46 g_a1
  refine own_by st57 ?_
  have sg62 : ∀ t, own_S p e below T57 (mkF m 62 (own_ARIRRR a1 (2 : Int32) a2 a3 a4) [(.ref a3), (.ref a1)]) t → own_S p e below T57 (mkF m 60 (own_ARIRRR a1 (2 : Int32) a2 a3 a4) []) t := by
    intro t k
    refine XS.aloadN X57.here hx rfl (hb hby d5_60) rfl rfl ?_
    show own_S p e below T57 (mkF m 61 (own_ARIRRR a1 (2 : Int32) a2 a3 a4) [(.ref a1)]) _
    refine XS.aloadN X57.here hx rfl (hb hby d5_61) rfl rfl ?_
    exact k
  refine own_by sg62 ?_
  obtain ⟨T62, h62, X62, e62, E62, Ar62, A62, st62⟩ := cloneH X57 hx hZ hown (own_w hw 40 rfl) (own_w hw 41 rfl) (own_w hw 45 rfl) (own_w hw 43 rfl) (own_w hw 44 rfl) (own_w hw 46 rfl) e57 (((fc_96.ext E51).other W57 (Ne.symm n_a1_a3))).arh fc_116 (g := (mkF m 62 (own_ARIRRR a1 (2 : Int32) a2 a3 a4) [(.ref a3), (.ref a1)])) rfl (by rw [hml]; rfl) rfl (hb hby d5_62) (by decide) (W := 1) (cap := 2) (by show 2 * 0 + _ ≤ _; exact Nat.le_of_eq rfl) (by decide) (by decide) (by decide) (by decide)
  obtain ⟨b62, g62⟩ : ∃ z, z = h57.size := ⟨_, rfl⟩
  rw [← g62] at Ar62 A62 st62
  have V62 : Arv Z h62 b62 ka3 .float (2 : Int32) [(.float (4286578688 : UInt32)), (.float (4286578688 : UInt32))] (.float (0 : UInt32)) := Ar62
  have ne_a1_b62 : a1 ≠ b62 := Nat.ne_of_lt (Nat.lt_of_lt_of_le fc_101.lt (Nat.le_of_eq g62.symm))
  have ne_a2_b62 : a2 ≠ b62 := Nat.ne_of_lt (Nat.lt_of_lt_of_le fc_115.lt (Nat.le_of_eq g62.symm))
  have ne_a3_b62 : a3 ≠ b62 := Nat.ne_of_lt (Nat.lt_of_lt_of_le fc_116.lt (Nat.le_of_eq g62.symm))
  have ne_a4_b62 : a4 ≠ b62 := Nat.ne_of_lt (Nat.lt_of_lt_of_le fc_117.lt (Nat.le_of_eq g62.symm))
  have ne_b7_b62 : b7 ≠ b62 := Nat.ne_of_lt (Nat.lt_of_lt_of_le ((fc_98.ext E51).other W57 (Ne.symm ne_a1_b7)).lt (Nat.le_of_eq g62.symm))
  have ne_b15_b62 : b15 ≠ b62 := Nat.ne_of_lt (Nat.lt_of_lt_of_le fc_118.lt (Nat.le_of_eq g62.symm))
  have ne_b23_b62 : b23 ≠ b62 := Nat.ne_of_lt (Nat.lt_of_lt_of_le ((fc_99.ext E51).other W57 (Ne.symm ne_a1_b23)).lt (Nat.le_of_eq g62.symm))
  have ne_b31_b62 : b31 ≠ b62 := Nat.ne_of_lt (Nat.lt_of_lt_of_le fc_119.lt (Nat.le_of_eq g62.symm))
  have ne_b39_b62 : b39 ≠ b62 := Nat.ne_of_lt (Nat.lt_of_lt_of_le ((fc_100.ext E51).other W57 (Ne.symm ne_a1_b39)).lt (Nat.le_of_eq g62.symm))
  have ne_b51_b62 : b51 ≠ b62 := Nat.ne_of_lt (Nat.lt_of_lt_of_le (A51.wr W57).lt (Nat.le_of_eq g62.symm))
  have g_b62 : n0 ≤ b62 := Nat.le_trans Z57 (Nat.le_of_eq g62.symm)
  have sz_b62 : h0.size ≤ b62 := Nat.le_trans K57.1 (Nat.le_of_eq g62.symm)
  have K62 := K57.ext E62
  have Z62 : n0 ≤ h62.size := Nat.le_trans Z57 E62.1
  refine own_by st62 ?_
  obtain ⟨T65, X65, e65, st65⟩ := castY X62 hx hZ hown (own_w hw 47 rfl) e62 (Ins.self A62) (g := (mkF m 65 (own_ARIRRR a1 (2 : Int32) a2 a3 a4) [(.ref b62), (.ref a1)])) rfl rfl (hb hby d5_65)
  refine own_by st65 ?_
  obtain ⟨T68, h68, X68, e68, W68, st68⟩ := putF X65 hx hZ hown (host := "") (Or.inl (own_w hw 51 rfl)) Via.refl e65 (fc_108.ext E62) (fc_101.ext E62) (Or.inr ⟨(own_w hw 52 rfl), rfl, hnm⟩) (own_w hw 7 rfl) (ty := (.array .float)) (by decide) rfl rfl (g := (mkF m 68 (own_ARIRRR a1 (2 : Int32) a2 a3 a4) [(.ref b62), (.ref a1)])) rfl rfl (hb hby d5_68)
  have Fw68 := (fc_108.ext E62).same W68
  have fc_120 := ((fc_102.ext E62).other W68 (Or.inr (slot_ne (Or.inl (own_w hw 29 rfl)) (Or.inr (own_w hw 52 rfl)) (by decide) (t := (.array .int)) (t' := (.array .float)) (by decide) (by decide))))
  have fc_121 := ((fc_103.ext E62).other W68 (Or.inr (slot_ne (Or.inl (own_w hw 31 rfl)) (Or.inr (own_w hw 52 rfl)) (by decide) (t := (.array .int)) (t' := (.array .float)) (by decide) (by decide))))
  have fc_122 := ((fc_104.ext E62).other W68 (Or.inr (slot_ne (Or.inl (own_w hw 33 rfl)) (Or.inr (own_w hw 52 rfl)) (by decide) (t := (.array .float)) (t' := (.array .float)) (by decide) (by decide))))
  have fc_123 := ((fc_105.ext E62).other W68 (Or.inr (slot_ne (Or.inl (own_w hw 35 rfl)) (Or.inr (own_w hw 52 rfl)) (by decide) (t := (.array .float)) (t' := (.array .float)) (by decide) (by decide))))
  have fc_124 := ((fc_106.ext E62).other W68 (Or.inr (slot_ne (Or.inl (own_w hw 37 rfl)) (Or.inr (own_w hw 52 rfl)) (by decide) (t := (.array .float)) (t' := (.array .float)) (by decide) (by decide))))
  have fc_125 := ((fc_107.ext E62).other W68 (Or.inr (slot_ne (Or.inr (own_w hw 39 rfl)) (Or.inr (own_w hw 52 rfl)) (by decide) (t := .int) (t' := (.array .float)) (by decide) (by decide))))
  have fc_126 := ((Fw57.ext E62).other W68 (Or.inr (slot_ne (Or.inr (own_w hw 50 rfl)) (Or.inr (own_w hw 52 rfl)) (by decide) (t := (.array .float)) (t' := (.array .float)) (by decide) (by decide))))
  have fc_127 := ((fc_109.ext E62).other W68 (Or.inr (slot_ne (Or.inr (own_w hw 54 rfl)) (Or.inr (own_w hw 52 rfl)) (by decide) (t := (.array .float)) (t' := (.array .float)) (by decide) (by decide))))
  have fc_128 := ((fc_110.ext E62).other W68 (Or.inr (slot_ne (Or.inr (own_w hw 56 rfl)) (Or.inr (own_w hw 52 rfl)) (by decide) (t := (.array .float)) (t' := (.array .float)) (by decide) (by decide))))
  have fc_129 := ((fc_111.ext E62).other W68 (Or.inr (slot_ne (Or.inr (own_w hw 58 rfl)) (Or.inr (own_w hw 52 rfl)) (by decide) (t := (.array .float)) (t' := (.array .float)) (by decide) (by decide))))
  have fc_130 := ((fc_112.ext E62).other W68 (Or.inr (slot_ne (Or.inr (own_w hw 60 rfl)) (Or.inr (own_w hw 52 rfl)) (by decide) (t := (.array .float)) (t' := (.array .float)) (by decide) (by decide))))
  have fc_131 := ((fc_113.ext E62).other W68 (Or.inr (slot_ne (Or.inl (own_w hw 84 rfl)) (Or.inr (own_w hw 52 rfl)) (by decide) (t := .int) (t' := (.array .float)) (by decide) (by decide))))
  have fc_132 := ((fc_114.ext E62).other W68 (Or.inr (slot_ne (Or.inl (own_w hw 82 rfl)) (Or.inr (own_w hw 52 rfl)) (by decide) (t := .int) (t' := (.array .float)) (by decide) (by decide))))
  have fc_133 := ((((fc_95.ext E51).other W57 (Ne.symm n_a1_a2)).ext E62).other W68 (Ne.symm n_a1_a2))
  have fc_134 := ((((fc_96.ext E51).other W57 (Ne.symm n_a1_a3)).ext E62).other W68 (Ne.symm n_a1_a3))
  have fc_135 := ((((fc_97.ext E51).other W57 (Ne.symm n_a1_a4)).ext E62).other W68 (Ne.symm n_a1_a4))
  have fc_136 := ((((fc_98.ext E51).other W57 (Ne.symm ne_a1_b7)).ext E62).other W68 (Ne.symm ne_a1_b7))
  have fc_137 := ((((fc_99.ext E51).other W57 (Ne.symm ne_a1_b23)).ext E62).other W68 (Ne.symm ne_a1_b23))
  have fc_138 := ((((fc_100.ext E51).other W57 (Ne.symm ne_a1_b39)).ext E62).other W68 (Ne.symm ne_a1_b39))
  have fc_139 := (((V51.other W57 (Ne.symm ne_a1_b51)).ext E62).other W68 (Ne.symm ne_a1_b51))
  have K68 : Keep h0 h68 [a1] := K62.wr W68 (Or.inl (List.mem_of_getElem? (i := 0) rfl))
  have Z68 : n0 ≤ h68.size := Nat.le_trans Z62 (Keep.of_wr W68).1
  have N68 := Fr.snoc X68 N57 g_a1
  refine own_by st68 ?_
  have sg74 : ∀ t, own_S p e below T68 (mkF m 74 (own_ARIRRR a1 (2 : Int32) a2 a3 a4) [(.ref a4), (.ref a1)]) t → own_S p e below T68 (mkF m 71 (own_ARIRRR a1 (2 : Int32) a2 a3 a4) []) t := by
    intro t k
    refine XS.aloadN X68.here hx rfl (hb hby d5_71) rfl rfl ?_
    show own_S p e below T68 (mkF m 72 (own_ARIRRR a1 (2 : Int32) a2 a3 a4) [(.ref a1)]) _
    refine XS.aload X68.here hx rfl (hb hby d5_72) rfl rfl ?_
    exact k
  refine own_by sg74 ?_
  obtain ⟨T74, h74, X74, e74, E74, Ar74, A74, st74⟩ := cloneH X68 hx hZ hown (own_w hw 40 rfl) (own_w hw 41 rfl) (own_w hw 45 rfl) (own_w hw 43 rfl) (own_w hw 44 rfl) (own_w hw 46 rfl) e68 (fc_135).arh ((fc_117.ext E62).wr W68) (g := (mkF m 74 (own_ARIRRR a1 (2 : Int32) a2 a3 a4) [(.ref a4), (.ref a1)])) rfl (by rw [hml]; rfl) rfl (hb hby d5_74) (by decide) (W := 1) (cap := 2) (by show 2 * 0 + _ ≤ _; exact Nat.le_of_eq rfl) (by decide) (by decide) (by decide) (by decide)
  obtain ⟨b74, g74⟩ : ∃ z, z = h68.size := ⟨_, rfl⟩
  rw [← g74] at Ar74 A74 st74
  have V74 : Arv Z h74 b74 ka4 .float (2 : Int32) [(.float (0 : UInt32)), (.float (0 : UInt32))] (.float (0 : UInt32)) := Ar74
  have ne_a1_b74 : a1 ≠ b74 := Nat.ne_of_lt (Nat.lt_of_lt_of_le ((fc_101.ext E62).wr W68).lt (Nat.le_of_eq g74.symm))
  have ne_a2_b74 : a2 ≠ b74 := Nat.ne_of_lt (Nat.lt_of_lt_of_le ((fc_115.ext E62).wr W68).lt (Nat.le_of_eq g74.symm))
  have ne_a3_b74 : a3 ≠ b74 := Nat.ne_of_lt (Nat.lt_of_lt_of_le ((fc_116.ext E62).wr W68).lt (Nat.le_of_eq g74.symm))
  have ne_a4_b74 : a4 ≠ b74 := Nat.ne_of_lt (Nat.lt_of_lt_of_le ((fc_117.ext E62).wr W68).lt (Nat.le_of_eq g74.symm))
  have ne_b7_b74 : b7 ≠ b74 := Nat.ne_of_lt (Nat.lt_of_lt_of_le fc_136.lt (Nat.le_of_eq g74.symm))
  have ne_b15_b74 : b15 ≠ b74 := Nat.ne_of_lt (Nat.lt_of_lt_of_le ((fc_118.ext E62).other W68 (Ne.symm ne_a1_b15)).lt (Nat.le_of_eq g74.symm))
  have ne_b23_b74 : b23 ≠ b74 := Nat.ne_of_lt (Nat.lt_of_lt_of_le fc_137.lt (Nat.le_of_eq g74.symm))
  have ne_b31_b74 : b31 ≠ b74 := Nat.ne_of_lt (Nat.lt_of_lt_of_le ((fc_119.ext E62).other W68 (Ne.symm ne_a1_b31)).lt (Nat.le_of_eq g74.symm))
  have ne_b39_b74 : b39 ≠ b74 := Nat.ne_of_lt (Nat.lt_of_lt_of_le fc_138.lt (Nat.le_of_eq g74.symm))
  have ne_b51_b74 : b51 ≠ b74 := Nat.ne_of_lt (Nat.lt_of_lt_of_le (((A51.wr W57).ext E62).wr W68).lt (Nat.le_of_eq g74.symm))
  have ne_b62_b74 : b62 ≠ b74 := Nat.ne_of_lt (Nat.lt_of_lt_of_le (A62.wr W68).lt (Nat.le_of_eq g74.symm))
  have g_b74 : n0 ≤ b74 := Nat.le_trans Z68 (Nat.le_of_eq g74.symm)
  have sz_b74 : h0.size ≤ b74 := Nat.le_trans K68.1 (Nat.le_of_eq g74.symm)
  have K74 := K68.ext E74
  have Z74 : n0 ≤ h74.size := Nat.le_trans Z68 E74.1
  refine own_by st74 ?_
  obtain ⟨T77, X77, e77, st77⟩ := castY X74 hx hZ hown (own_w hw 47 rfl) e74 (Ins.self A74) (g := (mkF m 77 (own_ARIRRR a1 (2 : Int32) a2 a3 a4) [(.ref b74), (.ref a1)])) rfl rfl (hb hby d5_77)
  refine own_by st77 ?_
  obtain ⟨T80, h80, X80, e80, W80, st80⟩ := putF X77 hx hZ hown (host := "") (Or.inl (own_w hw 53 rfl)) Via.refl e77 (fc_127.ext E74) (((fc_101.ext E62).wr W68).ext E74) (Or.inr ⟨(own_w hw 54 rfl), rfl, hnm⟩) (own_w hw 7 rfl) (ty := (.array .float)) (by decide) rfl rfl (g := (mkF m 80 (own_ARIRRR a1 (2 : Int32) a2 a3 a4) [(.ref b74), (.ref a1)])) rfl rfl (hb hby d5_80)
  have Fw80 := (fc_127.ext E74).same W80
  have fc_140 := ((fc_120.ext E74).other W80 (Or.inr (slot_ne (Or.inl (own_w hw 29 rfl)) (Or.inr (own_w hw 54 rfl)) (by decide) (t := (.array .int)) (t' := (.array .float)) (by decide) (by decide))))
  have fc_141 := ((fc_121.ext E74).other W80 (Or.inr (slot_ne (Or.inl (own_w hw 31 rfl)) (Or.inr (own_w hw 54 rfl)) (by decide) (t := (.array .int)) (t' := (.array .float)) (by decide) (by decide))))
  have fc_142 := ((fc_122.ext E74).other W80 (Or.inr (slot_ne (Or.inl (own_w hw 33 rfl)) (Or.inr (own_w hw 54 rfl)) (by decide) (t := (.array .float)) (t' := (.array .float)) (by decide) (by decide))))
  have fc_143 := ((fc_123.ext E74).other W80 (Or.inr (slot_ne (Or.inl (own_w hw 35 rfl)) (Or.inr (own_w hw 54 rfl)) (by decide) (t := (.array .float)) (t' := (.array .float)) (by decide) (by decide))))
  have fc_144 := ((fc_124.ext E74).other W80 (Or.inr (slot_ne (Or.inl (own_w hw 37 rfl)) (Or.inr (own_w hw 54 rfl)) (by decide) (t := (.array .float)) (t' := (.array .float)) (by decide) (by decide))))
  have fc_145 := ((fc_125.ext E74).other W80 (Or.inr (slot_ne (Or.inr (own_w hw 39 rfl)) (Or.inr (own_w hw 54 rfl)) (by decide) (t := .int) (t' := (.array .float)) (by decide) (by decide))))
  have fc_146 := ((fc_126.ext E74).other W80 (Or.inr (slot_ne (Or.inr (own_w hw 50 rfl)) (Or.inr (own_w hw 54 rfl)) (by decide) (t := (.array .float)) (t' := (.array .float)) (by decide) (by decide))))
  have fc_147 := ((Fw68.ext E74).other W80 (Or.inr (slot_ne (Or.inr (own_w hw 52 rfl)) (Or.inr (own_w hw 54 rfl)) (by decide) (t := (.array .float)) (t' := (.array .float)) (by decide) (by decide))))
  have fc_148 := ((fc_128.ext E74).other W80 (Or.inr (slot_ne (Or.inr (own_w hw 56 rfl)) (Or.inr (own_w hw 54 rfl)) (by decide) (t := (.array .float)) (t' := (.array .float)) (by decide) (by decide))))
  have fc_149 := ((fc_129.ext E74).other W80 (Or.inr (slot_ne (Or.inr (own_w hw 58 rfl)) (Or.inr (own_w hw 54 rfl)) (by decide) (t := (.array .float)) (t' := (.array .float)) (by decide) (by decide))))
  have fc_150 := ((fc_130.ext E74).other W80 (Or.inr (slot_ne (Or.inr (own_w hw 60 rfl)) (Or.inr (own_w hw 54 rfl)) (by decide) (t := (.array .float)) (t' := (.array .float)) (by decide) (by decide))))
  have fc_151 := ((fc_131.ext E74).other W80 (Or.inr (slot_ne (Or.inl (own_w hw 84 rfl)) (Or.inr (own_w hw 54 rfl)) (by decide) (t := .int) (t' := (.array .float)) (by decide) (by decide))))
  have fc_152 := ((fc_132.ext E74).other W80 (Or.inr (slot_ne (Or.inl (own_w hw 82 rfl)) (Or.inr (own_w hw 54 rfl)) (by decide) (t := .int) (t' := (.array .float)) (by decide) (by decide))))
  have fc_153 := ((((fc_118.ext E62).other W68 (Ne.symm ne_a1_b15)).ext E74).other W80 (Ne.symm ne_a1_b15))
  have fc_154 := ((((fc_119.ext E62).other W68 (Ne.symm ne_a1_b31)).ext E74).other W80 (Ne.symm ne_a1_b31))
  have fc_155 := (((V62.other W68 (Ne.symm ne_a1_b62)).ext E74).other W80 (Ne.symm ne_a1_b62))
  have K80 : Keep h0 h80 [a1] := K74.wr W80 (Or.inl (List.mem_of_getElem? (i := 0) rfl))
  have Z80 : n0 ≤ h80.size := Nat.le_trans Z74 (Keep.of_wr W80).1
  have N80 := Fr.snoc X80 N68 g_a1
  refine own_by st80 ?_
  have sg85 : ∀ t, own_S p e below T80 (mkF m 85 (own_ARIRRR a1 (2 : Int32) a2 a3 a4) [(.ref a2), (.ref a1)]) t → own_S p e below T80 (mkF m 83 (own_ARIRRR a1 (2 : Int32) a2 a3 a4) []) t := by
    intro t k
    refine XS.aloadN X80.here hx rfl (hb hby d5_83) rfl rfl ?_
    show own_S p e below T80 (mkF m 84 (own_ARIRRR a1 (2 : Int32) a2 a3 a4) [(.ref a1)]) _
    refine XS.aloadN X80.here hx rfl (hb hby d5_84) rfl rfl ?_
    exact k
  refine own_by sg85 ?_
  obtain ⟨T85, h85, X85, e85, E85, Ar85, A85, st85⟩ := cloneH X80 hx hZ hown (own_w hw 40 rfl) (own_w hw 41 rfl) (own_w hw 45 rfl) (own_w hw 43 rfl) (own_w hw 44 rfl) (own_w hw 46 rfl) e80 (((fc_133.ext E74).other W80 (Ne.symm n_a1_a2))).arh ((((fc_115.ext E62).wr W68).ext E74).wr W80) (g := (mkF m 85 (own_ARIRRR a1 (2 : Int32) a2 a3 a4) [(.ref a2), (.ref a1)])) rfl (by rw [hml]; rfl) rfl (hb hby d5_85) (by decide) (W := 1) (cap := 2) (by show 2 * 0 + _ ≤ _; exact Nat.le_of_eq rfl) (by decide) (by decide) (by decide) (by decide)
  obtain ⟨b85, g85⟩ : ∃ z, z = h80.size := ⟨_, rfl⟩
  rw [← g85] at Ar85 A85 st85
  have V85 : Arv Z h85 b85 ka2 .float (2 : Int32) [(.float (2139095040 : UInt32)), (.float (2139095040 : UInt32))] (.float (0 : UInt32)) := Ar85
  have ne_a1_b85 : a1 ≠ b85 := Nat.ne_of_lt (Nat.lt_of_lt_of_le ((((fc_101.ext E62).wr W68).ext E74).wr W80).lt (Nat.le_of_eq g85.symm))
  have ne_a2_b85 : a2 ≠ b85 := Nat.ne_of_lt (Nat.lt_of_lt_of_le ((((fc_115.ext E62).wr W68).ext E74).wr W80).lt (Nat.le_of_eq g85.symm))
  have ne_a3_b85 : a3 ≠ b85 := Nat.ne_of_lt (Nat.lt_of_lt_of_le ((((fc_116.ext E62).wr W68).ext E74).wr W80).lt (Nat.le_of_eq g85.symm))
  have ne_a4_b85 : a4 ≠ b85 := Nat.ne_of_lt (Nat.lt_of_lt_of_le ((((fc_117.ext E62).wr W68).ext E74).wr W80).lt (Nat.le_of_eq g85.symm))
  have ne_b7_b85 : b7 ≠ b85 := Nat.ne_of_lt (Nat.lt_of_lt_of_le ((fc_136.ext E74).other W80 (Ne.symm ne_a1_b7)).lt (Nat.le_of_eq g85.symm))
  have ne_b15_b85 : b15 ≠ b85 := Nat.ne_of_lt (Nat.lt_of_lt_of_le fc_153.lt (Nat.le_of_eq g85.symm))
  have ne_b23_b85 : b23 ≠ b85 := Nat.ne_of_lt (Nat.lt_of_lt_of_le ((fc_137.ext E74).other W80 (Ne.symm ne_a1_b23)).lt (Nat.le_of_eq g85.symm))
  have ne_b31_b85 : b31 ≠ b85 := Nat.ne_of_lt (Nat.lt_of_lt_of_le fc_154.lt (Nat.le_of_eq g85.symm))
  have ne_b39_b85 : b39 ≠ b85 := Nat.ne_of_lt (Nat.lt_of_lt_of_le ((fc_138.ext E74).other W80 (Ne.symm ne_a1_b39)).lt (Nat.le_of_eq g85.symm))
  have ne_b51_b85 : b51 ≠ b85 := Nat.ne_of_lt (Nat.lt_of_lt_of_le (((((A51.wr W57).ext E62).wr W68).ext E74).wr W80).lt (Nat.le_of_eq g85.symm))
  have ne_b62_b85 : b62 ≠ b85 := Nat.ne_of_lt (Nat.lt_of_lt_of_le (((A62.wr W68).ext E74).wr W80).lt (Nat.le_of_eq g85.symm))
  have ne_b74_b85 : b74 ≠ b85 := Nat.ne_of_lt (Nat.lt_of_lt_of_le (A74.wr W80).lt (Nat.le_of_eq g85.symm))
  have g_b85 : n0 ≤ b85 := Nat.le_trans Z80 (Nat.le_of_eq g85.symm)
  have sz_b85 : h0.size ≤ b85 := Nat.le_trans K80.1 (Nat.le_of_eq g85.symm)
  have K85 := K80.ext E85
  have Z85 : n0 ≤ h85.size := Nat.le_trans Z80 E85.1
  refine own_by st85 ?_
  obtain ⟨T88, X88, e88, st88⟩ := castY X85 hx hZ hown (own_w hw 47 rfl) e85 (Ins.self A85) (g := (mkF m 88 (own_ARIRRR a1 (2 : Int32) a2 a3 a4) [(.ref b85), (.ref a1)])) rfl rfl (hb hby d5_88)
  refine own_by st88 ?_
  obtain ⟨T91, h91, X91, e91, W91, st91⟩ := putF X88 hx hZ hown (host := "") (Or.inl (own_w hw 55 rfl)) Via.refl e88 (fc_148.ext E85) (((((fc_101.ext E62).wr W68).ext E74).wr W80).ext E85) (Or.inr ⟨(own_w hw 56 rfl), rfl, hnm⟩) (own_w hw 7 rfl) (ty := (.array .float)) (by decide) rfl rfl (g := (mkF m 91 (own_ARIRRR a1 (2 : Int32) a2 a3 a4) [(.ref b85), (.ref a1)])) rfl rfl (hb hby d5_91)
  have Fw91 := (fc_148.ext E85).same W91
  have fc_156 := ((((((fc_101.ext E62).wr W68).ext E74).wr W80).ext E85).wr W91)
  have fc_157 := ((fc_140.ext E85).other W91 (Or.inr (slot_ne (Or.inl (own_w hw 29 rfl)) (Or.inr (own_w hw 56 rfl)) (by decide) (t := (.array .int)) (t' := (.array .float)) (by decide) (by decide))))
  have fc_158 := ((fc_141.ext E85).other W91 (Or.inr (slot_ne (Or.inl (own_w hw 31 rfl)) (Or.inr (own_w hw 56 rfl)) (by decide) (t := (.array .int)) (t' := (.array .float)) (by decide) (by decide))))
  have fc_159 := ((fc_142.ext E85).other W91 (Or.inr (slot_ne (Or.inl (own_w hw 33 rfl)) (Or.inr (own_w hw 56 rfl)) (by decide) (t := (.array .float)) (t' := (.array .float)) (by decide) (by decide))))
  have fc_160 := ((fc_143.ext E85).other W91 (Or.inr (slot_ne (Or.inl (own_w hw 35 rfl)) (Or.inr (own_w hw 56 rfl)) (by decide) (t := (.array .float)) (t' := (.array .float)) (by decide) (by decide))))
  have fc_161 := ((fc_144.ext E85).other W91 (Or.inr (slot_ne (Or.inl (own_w hw 37 rfl)) (Or.inr (own_w hw 56 rfl)) (by decide) (t := (.array .float)) (t' := (.array .float)) (by decide) (by decide))))
  have fc_162 := ((fc_145.ext E85).other W91 (Or.inr (slot_ne (Or.inr (own_w hw 39 rfl)) (Or.inr (own_w hw 56 rfl)) (by decide) (t := .int) (t' := (.array .float)) (by decide) (by decide))))
  have fc_163 := ((fc_146.ext E85).other W91 (Or.inr (slot_ne (Or.inr (own_w hw 50 rfl)) (Or.inr (own_w hw 56 rfl)) (by decide) (t := (.array .float)) (t' := (.array .float)) (by decide) (by decide))))
  have fc_164 := ((fc_147.ext E85).other W91 (Or.inr (slot_ne (Or.inr (own_w hw 52 rfl)) (Or.inr (own_w hw 56 rfl)) (by decide) (t := (.array .float)) (t' := (.array .float)) (by decide) (by decide))))
  have fc_165 := ((Fw80.ext E85).other W91 (Or.inr (slot_ne (Or.inr (own_w hw 54 rfl)) (Or.inr (own_w hw 56 rfl)) (by decide) (t := (.array .float)) (t' := (.array .float)) (by decide) (by decide))))
  have fc_166 := ((fc_149.ext E85).other W91 (Or.inr (slot_ne (Or.inr (own_w hw 58 rfl)) (Or.inr (own_w hw 56 rfl)) (by decide) (t := (.array .float)) (t' := (.array .float)) (by decide) (by decide))))
  have fc_167 := ((fc_150.ext E85).other W91 (Or.inr (slot_ne (Or.inr (own_w hw 60 rfl)) (Or.inr (own_w hw 56 rfl)) (by decide) (t := (.array .float)) (t' := (.array .float)) (by decide) (by decide))))
  have fc_168 := ((fc_151.ext E85).other W91 (Or.inr (slot_ne (Or.inl (own_w hw 84 rfl)) (Or.inr (own_w hw 56 rfl)) (by decide) (t := .int) (t' := (.array .float)) (by decide) (by decide))))
  have fc_169 := ((fc_152.ext E85).other W91 (Or.inr (slot_ne (Or.inl (own_w hw 82 rfl)) (Or.inr (own_w hw 56 rfl)) (by decide) (t := .int) (t' := (.array .float)) (by decide) (by decide))))
  have fc_170 := ((((((fc_115.ext E62).wr W68).ext E74).wr W80).ext E85).wr W91)
  have fc_171 := ((((((fc_116.ext E62).wr W68).ext E74).wr W80).ext E85).wr W91)
  have fc_172 := ((((((fc_117.ext E62).wr W68).ext E74).wr W80).ext E85).wr W91)
  have fc_173 := ((((fc_133.ext E74).other W80 (Ne.symm n_a1_a2)).ext E85).other W91 (Ne.symm n_a1_a2))
  have fc_174 := ((((fc_134.ext E74).other W80 (Ne.symm n_a1_a3)).ext E85).other W91 (Ne.symm n_a1_a3))
  have fc_175 := ((((fc_135.ext E74).other W80 (Ne.symm n_a1_a4)).ext E85).other W91 (Ne.symm n_a1_a4))
  have fc_176 := ((((fc_136.ext E74).other W80 (Ne.symm ne_a1_b7)).ext E85).other W91 (Ne.symm ne_a1_b7))
  have fc_177 := ((((fc_137.ext E74).other W80 (Ne.symm ne_a1_b23)).ext E85).other W91 (Ne.symm ne_a1_b23))
  have fc_178 := ((((fc_138.ext E74).other W80 (Ne.symm ne_a1_b39)).ext E85).other W91 (Ne.symm ne_a1_b39))
  have fc_179 := (((((((A51.wr W57).ext E62).wr W68).ext E74).wr W80).ext E85).wr W91)
  have fc_180 := ((((fc_139.ext E74).other W80 (Ne.symm ne_a1_b51)).ext E85).other W91 (Ne.symm ne_a1_b51))
  have fc_181 := (((V74.other W80 (Ne.symm ne_a1_b74)).ext E85).other W91 (Ne.symm ne_a1_b74))
  have K91 : Keep h0 h91 [a1] := K85.wr W91 (Or.inl (List.mem_of_getElem? (i := 0) rfl))
  have Z91 : n0 ≤ h91.size := Nat.le_trans Z85 (Keep.of_wr W91).1
  have N91 := Fr.snoc X91 N80 g_a1
  refine own_by st91 ?_
  have sg96 : ∀ t, own_S p e below T91 (mkF m 96 (own_ARIRRR a1 (2 : Int32) a2 a3 a4) [(.ref a3), (.ref a1)]) t → own_S p e below T91 (mkF m 94 (own_ARIRRR a1 (2 : Int32) a2 a3 a4) []) t := by
    intro t k
    refine XS.aloadN X91.here hx rfl (hb hby d5_94) rfl rfl ?_
    show own_S p e below T91 (mkF m 95 (own_ARIRRR a1 (2 : Int32) a2 a3 a4) [(.ref a1)]) _
    refine XS.aloadN X91.here hx rfl (hb hby d5_95) rfl rfl ?_
    exact k
  refine own_by sg96 ?_
  obtain ⟨T96, h96, X96, e96, E96, Ar96, A96, st96⟩ := cloneH X91 hx hZ hown (own_w hw 40 rfl) (own_w hw 41 rfl) (own_w hw 45 rfl) (own_w hw 43 rfl) (own_w hw 44 rfl) (own_w hw 46 rfl) e91 (fc_174).arh fc_171 (g := (mkF m 96 (own_ARIRRR a1 (2 : Int32) a2 a3 a4) [(.ref a3), (.ref a1)])) rfl (by rw [hml]; rfl) rfl (hb hby d5_96) (by decide) (W := 1) (cap := 2) (by show 2 * 0 + _ ≤ _; exact Nat.le_of_eq rfl) (by decide) (by decide) (by decide) (by decide)
  obtain ⟨b96, g96⟩ : ∃ z, z = h91.size := ⟨_, rfl⟩
  rw [← g96] at Ar96 A96 st96
  have V96 : Arv Z h96 b96 ka3 .float (2 : Int32) [(.float (4286578688 : UInt32)), (.float (4286578688 : UInt32))] (.float (0 : UInt32)) := Ar96
  have ne_a1_b96 : a1 ≠ b96 := Nat.ne_of_lt (Nat.lt_of_lt_of_le fc_156.lt (Nat.le_of_eq g96.symm))
  have ne_a2_b96 : a2 ≠ b96 := Nat.ne_of_lt (Nat.lt_of_lt_of_le fc_170.lt (Nat.le_of_eq g96.symm))
  have ne_a3_b96 : a3 ≠ b96 := Nat.ne_of_lt (Nat.lt_of_lt_of_le fc_171.lt (Nat.le_of_eq g96.symm))
  have ne_a4_b96 : a4 ≠ b96 := Nat.ne_of_lt (Nat.lt_of_lt_of_le fc_172.lt (Nat.le_of_eq g96.symm))
  have ne_b7_b96 : b7 ≠ b96 := Nat.ne_of_lt (Nat.lt_of_lt_of_le fc_176.lt (Nat.le_of_eq g96.symm))
  have ne_b15_b96 : b15 ≠ b96 := Nat.ne_of_lt (Nat.lt_of_lt_of_le ((fc_153.ext E85).other W91 (Ne.symm ne_a1_b15)).lt (Nat.le_of_eq g96.symm))
  have ne_b23_b96 : b23 ≠ b96 := Nat.ne_of_lt (Nat.lt_of_lt_of_le fc_177.lt (Nat.le_of_eq g96.symm))
  have ne_b31_b96 : b31 ≠ b96 := Nat.ne_of_lt (Nat.lt_of_lt_of_le ((fc_154.ext E85).other W91 (Ne.symm ne_a1_b31)).lt (Nat.le_of_eq g96.symm))
  have ne_b39_b96 : b39 ≠ b96 := Nat.ne_of_lt (Nat.lt_of_lt_of_le fc_178.lt (Nat.le_of_eq g96.symm))
  have ne_b51_b96 : b51 ≠ b96 := Nat.ne_of_lt (Nat.lt_of_lt_of_le fc_179.lt (Nat.le_of_eq g96.symm))
  have ne_b62_b96 : b62 ≠ b96 := Nat.ne_of_lt (Nat.lt_of_lt_of_le (((((A62.wr W68).ext E74).wr W80).ext E85).wr W91).lt (Nat.le_of_eq g96.symm))
  have ne_b74_b96 : b74 ≠ b96 := Nat.ne_of_lt (Nat.lt_of_lt_of_le (((A74.wr W80).ext E85).wr W91).lt (Nat.le_of_eq g96.symm))
  have ne_b85_b96 : b85 ≠ b96 := Nat.ne_of_lt (Nat.lt_of_lt_of_le (A85.wr W91).lt (Nat.le_of_eq g96.symm))
  have g_b96 : n0 ≤ b96 := Nat.le_trans Z91 (Nat.le_of_eq g96.symm)
  have sz_b96 : h0.size ≤ b96 := Nat.le_trans K91.1 (Nat.le_of_eq g96.symm)
  have K96 := K91.ext E96
  have Z96 : n0 ≤ h96.size := Nat.le_trans Z91 E96.1
  refine own_by st96 ?_
  obtain ⟨T99, X99, e99, st99⟩ := castY X96 hx hZ hown (own_w hw 47 rfl) e96 (Ins.self A96) (g := (mkF m 99 (own_ARIRRR a1 (2 : Int32) a2 a3 a4) [(.ref b96), (.ref a1)])) rfl rfl (hb hby d5_99)
  refine own_by st99 ?_
  obtain ⟨T102, h102, X102, e102, W102, st102⟩ := putF X99 hx hZ hown (host := "") (Or.inl (own_w hw 57 rfl)) Via.refl e99 (fc_166.ext E96) (fc_156.ext E96) (Or.inr ⟨(own_w hw 58 rfl), rfl, hnm⟩) (own_w hw 7 rfl) (ty := (.array .float)) (by decide) rfl rfl (g := (mkF m 102 (own_ARIRRR a1 (2 : Int32) a2 a3 a4) [(.ref b96), (.ref a1)])) rfl rfl (hb hby d5_102)
  have Fw102 := (fc_166.ext E96).same W102
  have fc_182 := ((fc_157.ext E96).other W102 (Or.inr (slot_ne (Or.inl (own_w hw 29 rfl)) (Or.inr (own_w hw 58 rfl)) (by decide) (t := (.array .int)) (t' := (.array .float)) (by decide) (by decide))))
  have fc_183 := ((fc_158.ext E96).other W102 (Or.inr (slot_ne (Or.inl (own_w hw 31 rfl)) (Or.inr (own_w hw 58 rfl)) (by decide) (t := (.array .int)) (t' := (.array .float)) (by decide) (by decide))))
  have fc_184 := ((fc_159.ext E96).other W102 (Or.inr (slot_ne (Or.inl (own_w hw 33 rfl)) (Or.inr (own_w hw 58 rfl)) (by decide) (t := (.array .float)) (t' := (.array .float)) (by decide) (by decide))))
  have fc_185 := ((fc_160.ext E96).other W102 (Or.inr (slot_ne (Or.inl (own_w hw 35 rfl)) (Or.inr (own_w hw 58 rfl)) (by decide) (t := (.array .float)) (t' := (.array .float)) (by decide) (by decide))))
  have fc_186 := ((fc_161.ext E96).other W102 (Or.inr (slot_ne (Or.inl (own_w hw 37 rfl)) (Or.inr (own_w hw 58 rfl)) (by decide) (t := (.array .float)) (t' := (.array .float)) (by decide) (by decide))))
  have fc_187 := ((fc_162.ext E96).other W102 (Or.inr (slot_ne (Or.inr (own_w hw 39 rfl)) (Or.inr (own_w hw 58 rfl)) (by decide) (t := .int) (t' := (.array .float)) (by decide) (by decide))))
  have fc_188 := ((fc_163.ext E96).other W102 (Or.inr (slot_ne (Or.inr (own_w hw 50 rfl)) (Or.inr (own_w hw 58 rfl)) (by decide) (t := (.array .float)) (t' := (.array .float)) (by decide) (by decide))))
  have fc_189 := ((fc_164.ext E96).other W102 (Or.inr (slot_ne (Or.inr (own_w hw 52 rfl)) (Or.inr (own_w hw 58 rfl)) (by decide) (t := (.array .float)) (t' := (.array .float)) (by decide) (by decide))))
  have fc_190 := ((fc_165.ext E96).other W102 (Or.inr (slot_ne (Or.inr (own_w hw 54 rfl)) (Or.inr (own_w hw 58 rfl)) (by decide) (t := (.array .float)) (t' := (.array .float)) (by decide) (by decide))))
  have fc_191 := ((Fw91.ext E96).other W102 (Or.inr (slot_ne (Or.inr (own_w hw 56 rfl)) (Or.inr (own_w hw 58 rfl)) (by decide) (t := (.array .float)) (t' := (.array .float)) (by decide) (by decide))))
  have fc_192 := ((fc_167.ext E96).other W102 (Or.inr (slot_ne (Or.inr (own_w hw 60 rfl)) (Or.inr (own_w hw 58 rfl)) (by decide) (t := (.array .float)) (t' := (.array .float)) (by decide) (by decide))))
  have fc_193 := ((fc_168.ext E96).other W102 (Or.inr (slot_ne (Or.inl (own_w hw 84 rfl)) (Or.inr (own_w hw 58 rfl)) (by decide) (t := .int) (t' := (.array .float)) (by decide) (by decide))))
  have fc_194 := ((fc_169.ext E96).other W102 (Or.inr (slot_ne (Or.inl (own_w hw 82 rfl)) (Or.inr (own_w hw 58 rfl)) (by decide) (t := .int) (t' := (.array .float)) (by decide) (by decide))))
  have fc_195 := ((((fc_153.ext E85).other W91 (Ne.symm ne_a1_b15)).ext E96).other W102 (Ne.symm ne_a1_b15))
  have fc_196 := ((((fc_154.ext E85).other W91 (Ne.symm ne_a1_b31)).ext E96).other W102 (Ne.symm ne_a1_b31))
  have fc_197 := (((((((A62.wr W68).ext E74).wr W80).ext E85).wr W91).ext E96).wr W102)
  have fc_198 := ((((fc_155.ext E85).other W91 (Ne.symm ne_a1_b62)).ext E96).other W102 (Ne.symm ne_a1_b62))
  have fc_199 := (((V85.other W91 (Ne.symm ne_a1_b85)).ext E96).other W102 (Ne.symm ne_a1_b85))
  have K102 : Keep h0 h102 [a1] := K96.wr W102 (Or.inl (List.mem_of_getElem? (i := 0) rfl))
  have Z102 : n0 ≤ h102.size := Nat.le_trans Z96 (Keep.of_wr W102).1
  have N102 := Fr.snoc X102 N91 g_a1
  refine own_by st102 ?_
  have sg108 : ∀ t, own_S p e below T102 (mkF m 108 (own_ARIRRR a1 (2 : Int32) a2 a3 a4) [(.ref a4), (.ref a1)]) t → own_S p e below T102 (mkF m 105 (own_ARIRRR a1 (2 : Int32) a2 a3 a4) []) t := by
    intro t k
    refine XS.aloadN X102.here hx rfl (hb hby d5_105) rfl rfl ?_
    show own_S p e below T102 (mkF m 106 (own_ARIRRR a1 (2 : Int32) a2 a3 a4) [(.ref a1)]) _
    refine XS.aload X102.here hx rfl (hb hby d5_106) rfl rfl ?_
    exact k
  refine own_by sg108 ?_
  obtain ⟨T108, h108, X108, e108, E108, Ar108, A108, st108⟩ := cloneH X102 hx hZ hown (own_w hw 40 rfl) (own_w hw 41 rfl) (own_w hw 45 rfl) (own_w hw 43 rfl) (own_w hw 44 rfl) (own_w hw 46 rfl) e102 (((fc_175.ext E96).other W102 (Ne.symm n_a1_a4))).arh ((fc_172.ext E96).wr W102) (g := (mkF m 108 (own_ARIRRR a1 (2 : Int32) a2 a3 a4) [(.ref a4), (.ref a1)])) rfl (by rw [hml]; rfl) rfl (hb hby d5_108) (by decide) (W := 1) (cap := 2) (by show 2 * 0 + _ ≤ _; exact Nat.le_of_eq rfl) (by decide) (by decide) (by decide) (by decide)
  obtain ⟨b108, g108⟩ : ∃ z, z = h102.size := ⟨_, rfl⟩
  rw [← g108] at Ar108 A108 st108
  have V108 : Arv Z h108 b108 ka4 .float (2 : Int32) [(.float (0 : UInt32)), (.float (0 : UInt32))] (.float (0 : UInt32)) := Ar108
  have ne_a1_b108 : a1 ≠ b108 := Nat.ne_of_lt (Nat.lt_of_lt_of_le ((fc_156.ext E96).wr W102).lt (Nat.le_of_eq g108.symm))
  have ne_a2_b108 : a2 ≠ b108 := Nat.ne_of_lt (Nat.lt_of_lt_of_le ((fc_170.ext E96).wr W102).lt (Nat.le_of_eq g108.symm))
  have ne_a3_b108 : a3 ≠ b108 := Nat.ne_of_lt (Nat.lt_of_lt_of_le ((fc_171.ext E96).wr W102).lt (Nat.le_of_eq g108.symm))
  have ne_a4_b108 : a4 ≠ b108 := Nat.ne_of_lt (Nat.lt_of_lt_of_le ((fc_172.ext E96).wr W102).lt (Nat.le_of_eq g108.symm))
  have ne_b7_b108 : b7 ≠ b108 := Nat.ne_of_lt (Nat.lt_of_lt_of_le ((fc_176.ext E96).other W102 (Ne.symm ne_a1_b7)).lt (Nat.le_of_eq g108.symm))
  have ne_b15_b108 : b15 ≠ b108 := Nat.ne_of_lt (Nat.lt_of_lt_of_le fc_195.lt (Nat.le_of_eq g108.symm))
  have ne_b23_b108 : b23 ≠ b108 := Nat.ne_of_lt (Nat.lt_of_lt_of_le ((fc_177.ext E96).other W102 (Ne.symm ne_a1_b23)).lt (Nat.le_of_eq g108.symm))
  have ne_b31_b108 : b31 ≠ b108 := Nat.ne_of_lt (Nat.lt_of_lt_of_le fc_196.lt (Nat.le_of_eq g108.symm))
  have ne_b39_b108 : b39 ≠ b108 := Nat.ne_of_lt (Nat.lt_of_lt_of_le ((fc_178.ext E96).other W102 (Ne.symm ne_a1_b39)).lt (Nat.le_of_eq g108.symm))
  have ne_b51_b108 : b51 ≠ b108 := Nat.ne_of_lt (Nat.lt_of_lt_of_le ((fc_179.ext E96).wr W102).lt (Nat.le_of_eq g108.symm))
  have ne_b62_b108 : b62 ≠ b108 := Nat.ne_of_lt (Nat.lt_of_lt_of_le fc_197.lt (Nat.le_of_eq g108.symm))
  have ne_b74_b108 : b74 ≠ b108 := Nat.ne_of_lt (Nat.lt_of_lt_of_le (((((A74.wr W80).ext E85).wr W91).ext E96).wr W102).lt (Nat.le_of_eq g108.symm))
  have ne_b85_b108 : b85 ≠ b108 := Nat.ne_of_lt (Nat.lt_of_lt_of_le (((A85.wr W91).ext E96).wr W102).lt (Nat.le_of_eq g108.symm))
  have ne_b96_b108 : b96 ≠ b108 := Nat.ne_of_lt (Nat.lt_of_lt_of_le (A96.wr W102).lt (Nat.le_of_eq g108.symm))
  have g_b108 : n0 ≤ b108 := Nat.le_trans Z102 (Nat.le_of_eq g108.symm)
  have sz_b108 : h0.size ≤ b108 := Nat.le_trans K102.1 (Nat.le_of_eq g108.symm)
  have fc_200 := ((((((A74.wr W80).ext E85).wr W91).ext E96).wr W102).ext E108)
  have K108 := K102.ext E108
  have Z108 : n0 ≤ h108.size := Nat.le_trans Z102 E108.1
  refine own_by st108 ?_
  obtain ⟨T111, X111, e111, st111⟩ := castY X108 hx hZ hown (own_w hw 47 rfl) e108 (Ins.self A108) (g := (mkF m 111 (own_ARIRRR a1 (2 : Int32) a2 a3 a4) [(.ref b108), (.ref a1)])) rfl rfl (hb hby d5_111)
  refine own_by st111 ?_
  obtain ⟨T114, h114, X114, e114, W114, st114⟩ := putF X111 hx hZ hown (host := "") (Or.inl (own_w hw 59 rfl)) Via.refl e111 (fc_192.ext E108) (((fc_156.ext E96).wr W102).ext E108) (Or.inr ⟨(own_w hw 60 rfl), rfl, hnm⟩) (own_w hw 7 rfl) (ty := (.array .float)) (by decide) rfl rfl (g := (mkF m 114 (own_ARIRRR a1 (2 : Int32) a2 a3 a4) [(.ref b108), (.ref a1)])) rfl rfl (hb hby d5_114)
  have Fw114 := (fc_192.ext E108).same W114
  have fc_201 := ((fc_182.ext E108).other W114 (Or.inr (slot_ne (Or.inl (own_w hw 29 rfl)) (Or.inr (own_w hw 60 rfl)) (by decide) (t := (.array .int)) (t' := (.array .float)) (by decide) (by decide))))
  have fc_202 := ((fc_183.ext E108).other W114 (Or.inr (slot_ne (Or.inl (own_w hw 31 rfl)) (Or.inr (own_w hw 60 rfl)) (by decide) (t := (.array .int)) (t' := (.array .float)) (by decide) (by decide))))
  have fc_203 := ((fc_184.ext E108).other W114 (Or.inr (slot_ne (Or.inl (own_w hw 33 rfl)) (Or.inr (own_w hw 60 rfl)) (by decide) (t := (.array .float)) (t' := (.array .float)) (by decide) (by decide))))
  have fc_204 := ((fc_185.ext E108).other W114 (Or.inr (slot_ne (Or.inl (own_w hw 35 rfl)) (Or.inr (own_w hw 60 rfl)) (by decide) (t := (.array .float)) (t' := (.array .float)) (by decide) (by decide))))
  have fc_205 := ((fc_186.ext E108).other W114 (Or.inr (slot_ne (Or.inl (own_w hw 37 rfl)) (Or.inr (own_w hw 60 rfl)) (by decide) (t := (.array .float)) (t' := (.array .float)) (by decide) (by decide))))
  have fc_206 := ((fc_187.ext E108).other W114 (Or.inr (slot_ne (Or.inr (own_w hw 39 rfl)) (Or.inr (own_w hw 60 rfl)) (by decide) (t := .int) (t' := (.array .float)) (by decide) (by decide))))
  have fc_207 := ((fc_188.ext E108).other W114 (Or.inr (slot_ne (Or.inr (own_w hw 50 rfl)) (Or.inr (own_w hw 60 rfl)) (by decide) (t := (.array .float)) (t' := (.array .float)) (by decide) (by decide))))
  have fc_208 := ((fc_189.ext E108).other W114 (Or.inr (slot_ne (Or.inr (own_w hw 52 rfl)) (Or.inr (own_w hw 60 rfl)) (by decide) (t := (.array .float)) (t' := (.array .float)) (by decide) (by decide))))
  have fc_209 := ((fc_190.ext E108).other W114 (Or.inr (slot_ne (Or.inr (own_w hw 54 rfl)) (Or.inr (own_w hw 60 rfl)) (by decide) (t := (.array .float)) (t' := (.array .float)) (by decide) (by decide))))
  have fc_210 := ((fc_191.ext E108).other W114 (Or.inr (slot_ne (Or.inr (own_w hw 56 rfl)) (Or.inr (own_w hw 60 rfl)) (by decide) (t := (.array .float)) (t' := (.array .float)) (by decide) (by decide))))
  have fc_211 := ((Fw102.ext E108).other W114 (Or.inr (slot_ne (Or.inr (own_w hw 58 rfl)) (Or.inr (own_w hw 60 rfl)) (by decide) (t := (.array .float)) (t' := (.array .float)) (by decide) (by decide))))
  have fc_212 := ((fc_193.ext E108).other W114 (Or.inr (slot_ne (Or.inl (own_w hw 84 rfl)) (Or.inr (own_w hw 60 rfl)) (by decide) (t := .int) (t' := (.array .float)) (by decide) (by decide))))
  have fc_213 := ((fc_194.ext E108).other W114 (Or.inr (slot_ne (Or.inl (own_w hw 82 rfl)) (Or.inr (own_w hw 60 rfl)) (by decide) (t := .int) (t' := (.array .float)) (by decide) (by decide))))
  have fc_214 := ((((fc_173.ext E96).other W102 (Ne.symm n_a1_a2)).ext E108).other W114 (Ne.symm n_a1_a2))
  have fc_215 := ((((fc_174.ext E96).other W102 (Ne.symm n_a1_a3)).ext E108).other W114 (Ne.symm n_a1_a3))
  have fc_216 := ((((fc_175.ext E96).other W102 (Ne.symm n_a1_a4)).ext E108).other W114 (Ne.symm n_a1_a4))
  have fc_217 := ((((fc_176.ext E96).other W102 (Ne.symm ne_a1_b7)).ext E108).other W114 (Ne.symm ne_a1_b7))
  have fc_218 := ((((fc_177.ext E96).other W102 (Ne.symm ne_a1_b23)).ext E108).other W114 (Ne.symm ne_a1_b23))
  have fc_219 := ((((fc_178.ext E96).other W102 (Ne.symm ne_a1_b39)).ext E108).other W114 (Ne.symm ne_a1_b39))
  have fc_220 := ((((fc_180.ext E96).other W102 (Ne.symm ne_a1_b51)).ext E108).other W114 (Ne.symm ne_a1_b51))
  have fc_221 := ((((fc_181.ext E96).other W102 (Ne.symm ne_a1_b74)).ext E108).other W114 (Ne.symm ne_a1_b74))
  have fc_222 := (((V96.other W102 (Ne.symm ne_a1_b96)).ext E108).other W114 (Ne.symm ne_a1_b96))
  have K114 : Keep h0 h114 [a1] := K108.wr W114 (Or.inl (List.mem_of_getElem? (i := 0) rfl))
  have Z114 : n0 ≤ h114.size := Nat.le_trans Z108 (Keep.of_wr W114).1
  have N114 := Fr.snoc X114 N102 g_a1
  refine own_by st114 ?_
  obtain ⟨fs, hr, hrun, hended, hW, hsame⟩ := X114.leave (v := none) (fun _ => rfl)
  refine ⟨_, _, ?_, hrun, hended, _, _, rfl, ?_, ⟨_, rfl⟩, hW, hsame.mono (by decide) (by decide)⟩
  · exact X114.returnOut hx Bd.returns (hb hby d5_117) hr
  · show Q5 Z a1 a2 a3 a4 ka2 ka3 ka4 h0 n0 _ T114.heap _
    rw [e114]
    exact ⟨rfl, N114, K114, b51, b62, b74, b85, b96, b108, b7, b15, b23, b31, b39, (allS sz_b51 (allS sz_b62 (allS sz_b74 (allS sz_b85 (allS sz_b96 (allS sz_b108 (allS sz_b7 (allS sz_b15 (allS sz_b23 (allS sz_b31 (allS sz_b39 all0))))))))))), ⟨_, _, _, _, _, _, _, _, _, _, _, ([0, 0, 0, 0, 0, 0, 0, 0, 0, 0, 0, 0, 0, 0, 0, 0] : List Int32), ([0, 0, 0, 0, 0, 0, 0, 0, 0, 0, 0, 0, 0, 0, 0, 0] : List Int32), ([0, 0, 0, 0, 0, 0, 0, 0, 0, 0, 0, 0, 0, 0, 0, 0] : List UInt32), ([0, 0, 0, 0, 0, 0, 0, 0, 0, 0, 0, 0, 0, 0, 0, 0] : List UInt32), ([0, 0, 0, 0, 0, 0, 0, 0, 0, 0, 0, 0, 0, 0, 0, 0] : List UInt32), ⟨ne_b51_b62, ne_b51_b74, ne_b51_b85, ne_b51_b96, ne_b51_b108, (Ne.symm ne_b7_b51), (Ne.symm ne_b15_b51), (Ne.symm ne_b23_b51), (Ne.symm ne_b31_b51), (Ne.symm ne_b39_b51), ne_b62_b74, ne_b62_b85, ne_b62_b96, ne_b62_b108, (Ne.symm ne_b7_b62), (Ne.symm ne_b15_b62), (Ne.symm ne_b23_b62), (Ne.symm ne_b31_b62), (Ne.symm ne_b39_b62), ne_b74_b85, ne_b74_b96, ne_b74_b108, (Ne.symm ne_b7_b74), (Ne.symm ne_b15_b74), (Ne.symm ne_b23_b74), (Ne.symm ne_b31_b74), (Ne.symm ne_b39_b74), ne_b85_b96, ne_b85_b108, (Ne.symm ne_b7_b85), (Ne.symm ne_b15_b85), (Ne.symm ne_b23_b85), (Ne.symm ne_b31_b85), (Ne.symm ne_b39_b85), ne_b96_b108, (Ne.symm ne_b7_b96), (Ne.symm ne_b15_b96), (Ne.symm ne_b23_b96), (Ne.symm ne_b31_b96), (Ne.symm ne_b39_b96), (Ne.symm ne_b7_b108), (Ne.symm ne_b15_b108), (Ne.symm ne_b23_b108), (Ne.symm ne_b31_b108), (Ne.symm ne_b39_b108), ne_b7_b15, ne_b7_b23, ne_b7_b31, ne_b7_b39, ne_b15_b23, ne_b15_b31, ne_b15_b39, ne_b23_b31, ne_b23_b39, ne_b31_b39⟩, ⟨rfl, rfl, rfl, rfl, rfl⟩, ((((fc_156.ext E96).wr W102).ext E108).wr W114), fc_206, fc_207, fc_208, fc_209, fc_210, fc_211, Fw114, fc_201, fc_202, fc_203, fc_204, fc_205, fc_212, fc_213, fc_220, ((fc_198.ext E108).other W114 (Ne.symm ne_a1_b62)), fc_221, ((fc_199.ext E108).other W114 (Ne.symm ne_a1_b85)), fc_222, (V108.other W114 (Ne.symm ne_a1_b108)), fc_217, ((fc_195.ext E108).other W114 (Ne.symm ne_a1_b15)), fc_218, ((fc_196.ext E108).other W114 (Ne.symm ne_a1_b31)), fc_219⟩⟩
theorem d2_0 : decode prog_33_method_1_code 0 = .ok (.aload_n 0, 1) := by decide +kernel
theorem d2_1 : decode prog_33_method_1_code 1 = .ok (.iload_n 1, 1) := by decide +kernel
theorem d2_2 : decode prog_33_method_1_code 2 = .ok (.iload_n 1, 1) := by decide +kernel
theorem d2_3 : decode prog_33_method_1_code 3 = .ok (.ldc 3, 2) := by decide +kernel
theorem d2_5 : decode prog_33_method_1_code 5 = .ok (.invokestatic 4, 3) := by decide +kernel
theorem d2_8 : decode prog_33_method_1_code 8 = .ok (.iload_n 1, 1) := by decide +kernel
theorem d2_9 : decode prog_33_method_1_code 9 = .ok (.ldc 10, 2) := by decide +kernel
theorem d2_11 : decode prog_33_method_1_code 11 = .ok (.invokestatic 4, 3) := by decide +kernel
theorem d2_14 : decode prog_33_method_1_code 14 = .ok (.iload_n 1, 1) := by decide +kernel
theorem d2_15 : decode prog_33_method_1_code 15 = .ok (.newarray .float, 2) := by decide +kernel
theorem d2_17 : decode prog_33_method_1_code 17 = .ok (.invokespecial 11, 3) := by decide +kernel
theorem d2_20 : decode prog_33_method_1_code 20 = .ok (.return_, 1) := by decide +kernel
theorem pn_2 : plainFor (⟨"com/example/reverie/reverie/ScalarQuantizer", "<init>", "(I)V"⟩ : MethodName) = true := by first | exact plainFor_of_name (by first | (simp [plainName, overriddenIn]; done) | decide +kernel) | decide +kernel | exact Jvm.Free.JP.mathPlain rfl (by decide +kernel)
theorem pd_2_0 : parseMethodDescriptor "(IF)[F" = some ⟨[.int, .float], some (.array .float)⟩ := by decide +kernel
theorem pd_2_1 : parseMethodDescriptor "(I[F[F[F)V" = some ⟨[.int, (.array .float), (.array .float), (.array .float)], none⟩ := by decide +kernel
theorem ef_2 (m : MethodId) (a1 : Addr) : entryFrame m #[(.ref a1), (.int (2 : Int32))] 2 = mkF m 0 #[.val (.ref a1), .val (.int (2 : Int32))] [] := by first | (simp [entryFrame, mkF, argsToLocals, Value.category]; done) | rfl
def Q2 (Z : State) (a1 : Addr) (h0 : Heap) (n0 : Nat) (v : Option Value) (h : Heap) (L : List Loc) : Prop := v = none ∧ Fr n0 L ∧ Keep h0 h [a1] ∧ ∃ tl th ts sl sh ss cS cD cL cH cC : Addr, (∀ x ∈ [tl, th, ts, sl, sh, ss, cS, cD, cL, cH, cC], h0.size ≤ x) ∧ own_Q Z h a1 tl th ts sl sh ss cS cD cL cH cC (0 : Int32) (2139095040 : UInt32) (2139095040 : UInt32) (4286578688 : UInt32) (4286578688 : UInt32) (0 : UInt32) (0 : UInt32) ([] : List own_E)
set_option maxRecDepth 65536 in
set_option maxHeartbeats 40000000 in
theorem rm2 (l : Launch) (Z : State) (a0 : Array Value) (hw : ∀ d ∈ tables_1, d.before a0 Z = true) (ws : List Jvm.Cond) (a1 : Addr) (h0 : Heap) (n0 : Nat) (Z0 : n0 ≤ h0.size) (E_a1 : Exa Z h0 a1 "com/example/reverie/reverie/ScalarQuantizer") (F_changeStarts : Fld Z h0 a1 "com/example/reverie/reverie/ScalarQuantizer" "changeStarts" "[I" .null) (F_changeDimensions : Fld Z h0 a1 "com/example/reverie/reverie/ScalarQuantizer" "changeDimensions" "[I" .null) (F_changeLows : Fld Z h0 a1 "com/example/reverie/reverie/ScalarQuantizer" "changeLows" "[F" .null) (F_changeHighs : Fld Z h0 a1 "com/example/reverie/reverie/ScalarQuantizer" "changeHighs" "[F" .null) (F_changeScales : Fld Z h0 a1 "com/example/reverie/reverie/ScalarQuantizer" "changeScales" "[F" .null) (F_dimension : Fld Z h0 a1 "com/example/reverie/reverie/ScalarQuantizer" "dimension" "I" (.int (0 : Int32))) (F_lows : Fld Z h0 a1 "com/example/reverie/reverie/ScalarQuantizer" "lows" "[F" .null) (F_highs : Fld Z h0 a1 "com/example/reverie/reverie/ScalarQuantizer" "highs" "[F" .null) (F_scales : Fld Z h0 a1 "com/example/reverie/reverie/ScalarQuantizer" "scales" "[F" .null) (F_startLows : Fld Z h0 a1 "com/example/reverie/reverie/ScalarQuantizer" "startLows" "[F" .null) (F_startHighs : Fld Z h0 a1 "com/example/reverie/reverie/ScalarQuantizer" "startHighs" "[F" .null) (F_startScales : Fld Z h0 a1 "com/example/reverie/reverie/ScalarQuantizer" "startScales" "[F" .null) (F_encodedCount : Fld Z h0 a1 "com/example/reverie/reverie/ScalarQuantizer" "encodedCount" "I" (.int (0 : Int32))) (F_changeCount : Fld Z h0 a1 "com/example/reverie/reverie/ScalarQuantizer" "changeCount" "I" (.int (0 : Int32))) (g_a1 : n0 ≤ a1) :
    MetFree l (⟨"com/example/reverie/reverie/ScalarQuantizer", "<init>", "(I)V"⟩ : MethodName) (head1 (Jvm.Cond.code (⟨"com/example/reverie/reverie/ScalarQuantizer", "<init>", "(I)V"⟩ : MethodName) prog_33_method_1_code 2 none :: ws) ({ frames := 2, cells := 14, slots := 98, locals := 32 } : Room)) (fun a U => a = #[(.ref a1), (.int (2 : Int32))] ∧ Z.Warmed39 U.vm ∧ U.heap = h0) (fun _ _ _ _ _ => True) (fun _ U o U' => ∃ v L, o = .returned v ∧ Q2 Z a1 h0 n0 v U'.heap L ∧ FrameEnd U o U' L ({ frames := 2, cells := 14, slots := 98, locals := 32 } : Room).cells ({ frames := 2, cells := 14, slots := 98, locals := 32 } : Room).slots) := by
  refine MetFree.of_bodySF pn_2 hisR ?_
  intro p e s m args below meth c s₁ Bd hml0 hP hK
  obtain ⟨rfl, hZ, hh⟩ := hP
  have hx := Bd.exec
  have hby := Bd.bytes
  have hml : c.maxLocals = 2 := hml0
  have hown : s.vm.findClass "com/example/reverie/reverie/ScalarQuantizer" = some m.cls := findClass_of_methodNamed Bd.named
  have hnm := (name_of_methodNamed Bd.named Bd.method).1
  have X0 : Stand p l e ({ frames := 2, cells := 14, slots := 98, locals := 32 } : Room) s m #[(.ref a1), (.int (2 : Int32))] below meth c s₁ [] 0 0 := Stand.of_body Bd
  have e0 : s₁.heap = h0 := by rw [← hh, Bd.state]; rfl
  have N0 := Fr.nil n0
  refine own_at (castTop (ef_2 m a1)) ?_
  have K0 := Keep.refl h0 [a1]
  have sg5 : ∀ t, own_S p e below s₁ (mkF m 5 #[.val (.ref a1), .val (.int (2 : Int32))] [(.float (2139095040 : UInt32)), (.int (2 : Int32)), (.int (2 : Int32)), (.ref a1)]) t → own_S p e below s₁ (mkF m 0 #[.val (.ref a1), .val (.int (2 : Int32))] []) t := by
    intro t k
    refine XS.aloadN X0.here hx rfl (hb hby d2_0) rfl rfl ?_
    show own_S p e below s₁ (mkF m 1 #[.val (.ref a1), .val (.int (2 : Int32))] [(.ref a1)]) _
    refine XS.iloadN X0.here hx rfl (hb hby d2_1) rfl ?_
    show own_S p e below s₁ (mkF m 2 #[.val (.ref a1), .val (.int (2 : Int32))] [(.int (2 : Int32)), (.ref a1)]) _
    refine XS.iloadN X0.here hx rfl (hb hby d2_2) rfl ?_
    show own_S p e below s₁ (mkF m 3 #[.val (.ref a1), .val (.int (2 : Int32))] [(.int (2 : Int32)), (.int (2 : Int32)), (.ref a1)]) _
    refine X0.ldcFloatC hx hown (mvT hZ (own_w hw 12 rfl)) (g := (mkF m 3 #[.val (.ref a1), .val (.int (2 : Int32))] [(.int (2 : Int32)), (.int (2 : Int32)), (.ref a1)])) rfl (hb hby d2_3) _ ?_
    exact k
  refine own_by sg5 ?_
  obtain ⟨_, _, ⟨T5, L5, k5, n5⟩, -, X5, ⟨Lc5, hQ5, l5, y5, z5⟩, st5⟩ := Jvm.LawKit.callS X0 hx (y := (⟨"com/example/reverie/reverie/ScalarQuantizer", "emptyRanges", "(IF)[F"⟩ : MethodName)) hown (mvT hZ (own_w hw 13 rfl)) (mvT hZ (own_w hw 14 rfl)) (mvT hZ (own_w hw 8 rfl)) (mvT hZ (own_w hw 15 rfl)) (by decide) (backOf (W := 2) (rm3 l Z a0 hw [] (2139095040 : UInt32) h0 n0 Z0) hZ (own_w hw 15 rfl) (own_w hw 8 rfl) (by decide) (by decide)) (g := (mkF m 5 #[.val (.ref a1), .val (.int (2 : Int32))] [(.float (2139095040 : UInt32)), (.int (2 : Int32)), (.int (2 : Int32)), (.ref a1)])) rfl (by rw [hml]; rfl) (argsL := [(.int (2 : Int32)), (.float (2139095040 : UInt32))]) (rest := [(.int (2 : Int32)), (.ref a1)]) (lenOf pd_2_0 rfl) rfl (by show 2 * 0 + _ ≤ _; exact Nat.le_of_eq rfl) (hb hby d2_5) (fun _ _ => ⟨rfl, e0, (by decide : 0 + 1 ≤ _), (by decide : 0 + 2 ≤ _)⟩)
  dsimp only [Pt.U, Pt.locs, Pt.cells, Pt.slots] at X5 l5 y5 z5 st5 hQ5
  subst l5 y5 z5
  obtain ⟨r5, kr5, rfl, ge5, N5q, Kq5, Eq5, Aq5⟩ := hQ5
  have N5 := Fr.app N0 N5q
  have ne_a1_r5 : a1 ≠ r5 := Nat.ne_of_lt (Nat.lt_of_lt_of_le E_a1.lt ge5)
  have g_r5 : n0 ≤ r5 := Nat.le_trans Z0 ge5
  have sz_r5 : h0.size ≤ r5 := Nat.le_trans K0.1 ge5
  have K5 : Keep h0 T5.heap [a1] := K0.trans Kq5 (fun x hx => nomatch hx)
  have Z5 : n0 ≤ T5.heap.size := Nat.le_trans Z0 Kq5.1
  refine own_by st5 ?_
  have sg11 : ∀ t, own_S p e below T5 (mkF m 11 #[.val (.ref a1), .val (.int (2 : Int32))] [(.float (4286578688 : UInt32)), (.int (2 : Int32)), (.ref r5), (.int (2 : Int32)), (.ref a1)]) t → own_S p e below T5 (mkF m 8 #[.val (.ref a1), .val (.int (2 : Int32))] [(.ref r5), (.int (2 : Int32)), (.ref a1)]) t := by
    intro t k
    refine XS.iloadN X5.here hx rfl (hb hby d2_8) rfl ?_
    show own_S p e below T5 (mkF m 9 #[.val (.ref a1), .val (.int (2 : Int32))] [(.int (2 : Int32)), (.ref r5), (.int (2 : Int32)), (.ref a1)]) _
    refine X5.ldcFloatC hx hown (mvT hZ (own_w hw 20 rfl)) (g := (mkF m 9 #[.val (.ref a1), .val (.int (2 : Int32))] [(.int (2 : Int32)), (.ref r5), (.int (2 : Int32)), (.ref a1)])) rfl (hb hby d2_9) _ ?_
    exact k
  refine own_by sg11 ?_
  obtain ⟨_, _, ⟨T11, L11, k11, n11⟩, -, X11, ⟨Lc11, hQ11, l11, y11, z11⟩, st11⟩ := Jvm.LawKit.callS X5 hx (y := (⟨"com/example/reverie/reverie/ScalarQuantizer", "emptyRanges", "(IF)[F"⟩ : MethodName)) hown (mvT hZ (own_w hw 13 rfl)) (mvT hZ (own_w hw 14 rfl)) (mvT hZ (own_w hw 8 rfl)) (mvT hZ (own_w hw 15 rfl)) (by decide) (backOf (W := 3) (rm3 l Z a0 hw [] (4286578688 : UInt32) T5.heap n0 Z5) hZ (own_w hw 15 rfl) (own_w hw 8 rfl) (by decide) (by decide)) (g := (mkF m 11 #[.val (.ref a1), .val (.int (2 : Int32))] [(.float (4286578688 : UInt32)), (.int (2 : Int32)), (.ref r5), (.int (2 : Int32)), (.ref a1)])) rfl (by rw [hml]; rfl) (argsL := [(.int (2 : Int32)), (.float (4286578688 : UInt32))]) (rest := [(.ref r5), (.int (2 : Int32)), (.ref a1)]) (lenOf pd_2_0 rfl) rfl (by show 2 * 0 + _ ≤ _; exact Nat.le_of_eq rfl) (hb hby d2_11) (fun _ _ => ⟨rfl, rfl, (by decide : 1 + 1 ≤ _), (by decide : 2 + 2 ≤ _)⟩)
  dsimp only [Pt.U, Pt.locs, Pt.cells, Pt.slots] at X11 l11 y11 z11 st11 hQ11
  subst l11 y11 z11
  obtain ⟨r11, kr11, rfl, ge11, N11q, Kq11, Eq11, Aq11⟩ := hQ11
  have N11 := Fr.app N5 N11q
  have ne_a1_r11 : a1 ≠ r11 := Nat.ne_of_lt (Nat.lt_of_lt_of_le (E_a1.keep Kq5).lt ge11)
  have ne_r5_r11 : r5 ≠ r11 := Nat.ne_of_lt (Nat.lt_of_lt_of_le Eq5.lt ge11)
  have g_r11 : n0 ≤ r11 := Nat.le_trans Z5 ge11
  have sz_r11 : h0.size ≤ r11 := Nat.le_trans K5.1 ge11
  have fc := ((F_changeStarts.keep Kq5 List.not_mem_nil).keep Kq11 List.not_mem_nil)
  have fc_2 := ((F_changeDimensions.keep Kq5 List.not_mem_nil).keep Kq11 List.not_mem_nil)
  have fc_3 := ((F_changeLows.keep Kq5 List.not_mem_nil).keep Kq11 List.not_mem_nil)
  have fc_4 := ((F_changeHighs.keep Kq5 List.not_mem_nil).keep Kq11 List.not_mem_nil)
  have fc_5 := ((F_changeScales.keep Kq5 List.not_mem_nil).keep Kq11 List.not_mem_nil)
  have fc_6 := ((F_dimension.keep Kq5 List.not_mem_nil).keep Kq11 List.not_mem_nil)
  have fc_7 := ((F_lows.keep Kq5 List.not_mem_nil).keep Kq11 List.not_mem_nil)
  have fc_8 := ((F_highs.keep Kq5 List.not_mem_nil).keep Kq11 List.not_mem_nil)
  have fc_9 := ((F_scales.keep Kq5 List.not_mem_nil).keep Kq11 List.not_mem_nil)
  have fc_10 := ((F_startLows.keep Kq5 List.not_mem_nil).keep Kq11 List.not_mem_nil)
  have fc_11 := ((F_startHighs.keep Kq5 List.not_mem_nil).keep Kq11 List.not_mem_nil)
  have fc_12 := ((F_startScales.keep Kq5 List.not_mem_nil).keep Kq11 List.not_mem_nil)
  have fc_13 := ((F_encodedCount.keep Kq5 List.not_mem_nil).keep Kq11 List.not_mem_nil)
  have fc_14 := ((F_changeCount.keep Kq5 List.not_mem_nil).keep Kq11 List.not_mem_nil)
  have K11 : Keep h0 T11.heap [a1] := K5.trans Kq11 (fun x hx => nomatch hx)
  have Z11 : n0 ≤ T11.heap.size := Nat.le_trans Z5 Kq11.1
  refine own_by st11 ?_
  have sg15 : ∀ t, own_S p e below T11 (mkF m 15 #[.val (.ref a1), .val (.int (2 : Int32))] [(.int (2 : Int32)), (.ref r11), (.ref r5), (.int (2 : Int32)), (.ref a1)]) t → own_S p e below T11 (mkF m 14 #[.val (.ref a1), .val (.int (2 : Int32))] [(.ref r11), (.ref r5), (.int (2 : Int32)), (.ref a1)]) t := by
    intro t k
    refine XS.iloadN X11.here hx rfl (hb hby d2_14) rfl ?_
    exact k
  refine own_by sg15 ?_
  obtain ⟨T15, h15, kc15, X15, e15, E15, A15, Ex15, st15⟩ := newPE X11 hx hZ (own_w hw 4 rfl) rfl (g := (mkF m 15 #[.val (.ref a1), .val (.int (2 : Int32))] [(.int (2 : Int32)), (.ref r11), (.ref r5), (.int (2 : Int32)), (.ref a1)])) rfl (hb hby d2_15) rfl (by decide) (cap := 2) (by decide) (by decide) (by decide) (by decide) (ad := "[F") (by decide)
  obtain ⟨b15, g15⟩ : ∃ z, z = T11.heap.size := ⟨_, rfl⟩
  rw [← g15] at A15 st15 Ex15
  have ne_a1_b15 : a1 ≠ b15 := Nat.ne_of_lt (Nat.lt_of_lt_of_le ((E_a1.keep Kq5).keep Kq11).lt (Nat.le_of_eq g15.symm))
  have ne_r5_b15 : r5 ≠ b15 := Nat.ne_of_lt (Nat.lt_of_lt_of_le (Eq5.keep Kq11).lt (Nat.le_of_eq g15.symm))
  have ne_r11_b15 : r11 ≠ b15 := Nat.ne_of_lt (Nat.lt_of_lt_of_le Eq11.lt (Nat.le_of_eq g15.symm))
  have g_b15 : n0 ≤ b15 := Nat.le_trans Z11 (Nat.le_of_eq g15.symm)
  have sz_b15 : h0.size ≤ b15 := Nat.le_trans K11.1 (Nat.le_of_eq g15.symm)
  have K15 := K11.ext E15
  have Z15 : n0 ≤ h15.size := Nat.le_trans Z11 E15.1
  have V15 : Arv Z h15 b15 kc15 .float (2 : Int32) [(.float (0 : UInt32)), (.float (0 : UInt32))] (.float (0 : UInt32)) := (Arv.new A15 (by decide)).pad (pad_rep [] (.float (0 : UInt32)) 2)
  refine own_by st15 ?_
  obtain ⟨_, _, ⟨T17, L17, k17, n17⟩, -, X17, ⟨Lc17, hQ17, l17, y17, z17⟩, st17⟩ := X15.specialBack hx (y := (⟨"com/example/reverie/reverie/ScalarQuantizer", "<init>", "(I[F[F[F)V"⟩ : MethodName)) rfl hown (mvT hZ (own_w hw 21 rfl)) (mvT hZ (own_w hw 22 rfl)) (mvT hZ (own_w hw 23 rfl)) (by decide) (backOf (W := 0) (rm5 l Z a0 hw [] a1 r5 r11 b15 kr5 kr11 kc15 h15 n0 Z15 (((E_a1.keep Kq5).keep Kq11).ext E15) (fc.ext E15) (fc_2.ext E15) (fc_3.ext E15) (fc_4.ext E15) (fc_5.ext E15) (fc_6.ext E15) (fc_7.ext E15) (fc_8.ext E15) (fc_9.ext E15) (fc_10.ext E15) (fc_11.ext E15) (fc_12.ext E15) (fc_13.ext E15) (fc_14.ext E15) g_a1 ((Eq5.keep Kq11).ext E15) (Eq11.ext E15) Ex15 ((Aq5.keep Kq11 List.not_mem_nil).ext E15) (Aq11.ext E15) V15) hZ (own_w hw 23 rfl) (own_w hw 8 rfl) (by decide) (by decide)) (g := (mkF m 17 #[.val (.ref a1), .val (.int (2 : Int32))] [(.ref b15), (.ref r11), (.ref r5), (.int (2 : Int32)), (.ref a1)])) rfl (by rw [hml]; rfl) (Steps.refl _) (a := a1) (argsL := [(.int (2 : Int32)), (.ref r5), (.ref r11), (.ref b15)]) (rest := []) (lenOf pd_2_1 rfl) rfl (by show 2 * 0 + _ ≤ _; exact Nat.le_of_eq rfl) (hb hby d2_17) (fun _ _ => ⟨rfl, e15, (by decide : 3 + 11 ≤ _), (by decide : 6 + 92 ≤ _)⟩)
  dsimp only [Pt.U, Pt.locs, Pt.cells, Pt.slots] at X17 l17 y17 z17 st17 hQ17
  subst l17 y17 z17
  obtain ⟨rfl, N17q, Kq17, tl, th, ts, sl, sh, ss, cS, cD, cL, cH, cC, al17, QQ17⟩ := hQ17
  have N17 := Fr.app N11 N17q
  have al : ∀ x ∈ [tl, th, ts, sl, sh, ss, cS, cD, cL, cH, cC], h0.size ≤ x := fun x hx => Nat.le_trans K15.1 (al17 x hx)
  have K17 : Keep h0 T17.heap [a1] := K15.trans Kq17 (fun x hx => by cases List.mem_singleton.mp hx; exact (Or.inl (List.mem_of_getElem? (i := 0) rfl)))
  have Z17 : n0 ≤ T17.heap.size := Nat.le_trans Z15 Kq17.1
  refine own_by (fun t k => st17.trans k) ?_
  obtain ⟨fs, hr, hrun, hended, hW, hsame⟩ := X17.leave (v := none) (fun _ => rfl)
  refine ⟨_, _, ?_, hrun, hended, _, _, rfl, ?_, ⟨_, rfl⟩, hW, hsame.mono (by decide) (by decide)⟩
  · exact X17.returnOut hx Bd.returns (hb hby d2_20) hr
  · show Q2 Z a1 h0 n0 _ T17.heap _
    exact ⟨rfl, N17, K17, tl, th, ts, sl, sh, ss, cS, cD, cL, cH, cC, al, QQ17⟩
theorem d17_0 : decode prog_34_method_1_code 0 = .ok (.aload_n 0, 1) := by decide +kernel
theorem d17_1 : decode prog_34_method_1_code 1 = .ok (.aload_n 1, 1) := by decide +kernel
theorem d17_2 : decode prog_34_method_1_code 2 = .ok (.putfield 1, 3) := by decide +kernel
theorem d17_5 : decode prog_34_method_1_code 5 = .ok (.aload_n 0, 1) := by decide +kernel
theorem d17_6 : decode prog_34_method_1_code 6 = .ok (.invokespecial 7, 3) := by decide +kernel
theorem d17_9 : decode prog_34_method_1_code 9 = .ok (.aload_n 0, 1) := by decide +kernel
theorem d17_10 : decode prog_34_method_1_code 10 = .ok (.aload_n 0, 1) := by decide +kernel
theorem d17_11 : decode prog_34_method_1_code 11 = .ok (.getfield 1, 3) := by decide +kernel
theorem d17_14 : decode prog_34_method_1_code 14 = .ok (.getfield 13, 3) := by decide +kernel
theorem d17_17 : decode prog_34_method_1_code 17 = .ok (.newarray .float, 2) := by decide +kernel
theorem d17_19 : decode prog_34_method_1_code 19 = .ok (.putfield 19, 3) := by decide +kernel
theorem d17_22 : decode prog_34_method_1_code 22 = .ok (.aload_n 0, 1) := by decide +kernel
theorem d17_23 : decode prog_34_method_1_code 23 = .ok (.aload_n 0, 1) := by decide +kernel
theorem d17_24 : decode prog_34_method_1_code 24 = .ok (.getfield 1, 3) := by decide +kernel
theorem d17_27 : decode prog_34_method_1_code 27 = .ok (.getfield 13, 3) := by decide +kernel
theorem d17_30 : decode prog_34_method_1_code 30 = .ok (.newarray .float, 2) := by decide +kernel
theorem d17_32 : decode prog_34_method_1_code 32 = .ok (.putfield 23, 3) := by decide +kernel
theorem d17_35 : decode prog_34_method_1_code 35 = .ok (.aload_n 1, 1) := by decide +kernel
theorem d17_36 : decode prog_34_method_1_code 36 = .ok (.getfield 26, 3) := by decide +kernel
theorem d17_39 : decode prog_34_method_1_code 39 = .ok (.iconst 0, 1) := by decide +kernel
theorem d17_40 : decode prog_34_method_1_code 40 = .ok (.aload_n 0, 1) := by decide +kernel
theorem d17_41 : decode prog_34_method_1_code 41 = .ok (.getfield 19, 3) := by decide +kernel
theorem d17_44 : decode prog_34_method_1_code 44 = .ok (.iconst 0, 1) := by decide +kernel
theorem d17_45 : decode prog_34_method_1_code 45 = .ok (.aload_n 1, 1) := by decide +kernel
theorem d17_46 : decode prog_34_method_1_code 46 = .ok (.getfield 13, 3) := by decide +kernel
theorem d17_49 : decode prog_34_method_1_code 49 = .ok (.invokestatic 29, 3) := by decide +kernel
theorem d17_52 : decode prog_34_method_1_code 52 = .ok (.aload_n 1, 1) := by decide +kernel
theorem d17_53 : decode prog_34_method_1_code 53 = .ok (.getfield 35, 3) := by decide +kernel
theorem d17_56 : decode prog_34_method_1_code 56 = .ok (.iconst 0, 1) := by decide +kernel
theorem d17_57 : decode prog_34_method_1_code 57 = .ok (.aload_n 0, 1) := by decide +kernel
theorem d17_58 : decode prog_34_method_1_code 58 = .ok (.getfield 23, 3) := by decide +kernel
theorem d17_61 : decode prog_34_method_1_code 61 = .ok (.iconst 0, 1) := by decide +kernel
theorem d17_62 : decode prog_34_method_1_code 62 = .ok (.aload_n 1, 1) := by decide +kernel
theorem d17_63 : decode prog_34_method_1_code 63 = .ok (.getfield 13, 3) := by decide +kernel
theorem d17_66 : decode prog_34_method_1_code 66 = .ok (.invokestatic 29, 3) := by decide +kernel
theorem d17_69 : decode prog_34_method_1_code 69 = .ok (.return_, 1) := by decide +kernel
theorem pn_17 : plainFor (⟨"com/example/reverie/reverie/ScalarQuantizer$Cursor", "<init>", "(Lcom/example/reverie/reverie/ScalarQuantizer;)V"⟩ : MethodName) = true := by first | exact plainFor_of_name (by first | (simp [plainName, overriddenIn]; done) | decide +kernel) | decide +kernel | exact Jvm.Free.JP.mathPlain rfl (by decide +kernel)
theorem ef_17 (m : MethodId) (a1 : Addr) (a2 : Addr) : entryFrame m #[(.ref a1), (.ref a2)] 2 = mkF m 0 #[.val (.ref a1), .val (.ref a2)] [] := by first | (simp [entryFrame, mkF, argsToLocals, Value.category]; done) | rfl
def Q17 (Z : State) (a1 : Addr) (a2 : Addr) (tl : Addr) (th : Addr) (ts : Addr) (sl : Addr) (sh : Addr) (ss : Addr) (cS : Addr) (cD : Addr) (cL : Addr) (cH : Addr) (cC : Addr) (n : Int32) (l0 : UInt32) (l1 : UInt32) (u0 : UInt32) (u1 : UInt32) (s0 : UInt32) (s1 : UInt32) (hist : List own_E) (h0 : Heap) (n0 : Nat) (v : Option Value) (h : Heap) (L : List Loc) : Prop := v = none ∧ Fr n0 L ∧ Keep h0 h [a1] ∧ ∃ (mi sc : Addr) (kmi ksc : ClassId), h0.size ≤ mi ∧ h0.size ≤ sc ∧ mi ≠ sc ∧ Exa Z h a1 "com/example/reverie/reverie/ScalarQuantizer$Cursor" ∧ Fld Z h a1 "com/example/reverie/reverie/ScalarQuantizer$Cursor" "this$0" "Lcom/example/reverie/reverie/ScalarQuantizer;" (.ref a2) ∧ Fld Z h a1 "com/example/reverie/reverie/ScalarQuantizer$Cursor" "mins" "[F" (.ref mi) ∧ Fld Z h a1 "com/example/reverie/reverie/ScalarQuantizer$Cursor" "cursorScales" "[F" (.ref sc) ∧ Fld Z h a1 "com/example/reverie/reverie/ScalarQuantizer$Cursor" "nextChange" "I" (.int (0 : Int32)) ∧ Arv Z h mi kmi .float (2 : Int32) [(.float (2139095040 : UInt32)), (.float (2139095040 : UInt32))] (.float (0 : UInt32)) ∧ Arv Z h sc ksc .float (2 : Int32) [(.float (0 : UInt32)), (.float (0 : UInt32))] (.float (0 : UInt32))
set_option maxRecDepth 65536 in
set_option maxHeartbeats 40000000 in
theorem rm17 (l : Launch) (Z : State) (a0 : Array Value) (hw : ∀ d ∈ tables_1, d.before a0 Z = true) (ws : List Jvm.Cond) (a1 : Addr) (a2 : Addr) (tl : Addr) (th : Addr) (ts : Addr) (sl : Addr) (sh : Addr) (ss : Addr) (cS : Addr) (cD : Addr) (cL : Addr) (cH : Addr) (cC : Addr) (n : Int32) (l0 : UInt32) (l1 : UInt32) (u0 : UInt32) (u1 : UInt32) (s0 : UInt32) (s1 : UInt32) (hist : List own_E) (h0 : Heap) (n0 : Nat) (Z0 : n0 ≤ h0.size) (E_a1 : Exa Z h0 a1 "com/example/reverie/reverie/ScalarQuantizer$Cursor") (F_this_0 : Fld Z h0 a1 "com/example/reverie/reverie/ScalarQuantizer$Cursor" "this$0" "Lcom/example/reverie/reverie/ScalarQuantizer;" .null) (F_mins : Fld Z h0 a1 "com/example/reverie/reverie/ScalarQuantizer$Cursor" "mins" "[F" .null) (F_cursorScales : Fld Z h0 a1 "com/example/reverie/reverie/ScalarQuantizer$Cursor" "cursorScales" "[F" .null) (F_nextChange : Fld Z h0 a1 "com/example/reverie/reverie/ScalarQuantizer$Cursor" "nextChange" "I" (.int (0 : Int32))) (QQ : own_Q Z h0 a2 tl th ts sl sh ss cS cD cL cH cC n l0 l1 u0 u1 s0 s1 hist) (g_a1 : n0 ≤ a1) :
    MetFree l (⟨"com/example/reverie/reverie/ScalarQuantizer$Cursor", "<init>", "(Lcom/example/reverie/reverie/ScalarQuantizer;)V"⟩ : MethodName) (head1 (Jvm.Cond.code (⟨"com/example/reverie/reverie/ScalarQuantizer$Cursor", "<init>", "(Lcom/example/reverie/reverie/ScalarQuantizer;)V"⟩ : MethodName) prog_34_method_1_code 2 none :: ws) ({ frames := 1, cells := 2, slots := 4, locals := 40 } : Room)) (fun a U => a = #[(.ref a1), (.ref a2)] ∧ Z.Warmed39 U.vm ∧ U.heap = h0) (fun _ _ _ _ _ => True) (fun _ U o U' => ∃ v L, o = .returned v ∧ Q17 Z a1 a2 tl th ts sl sh ss cS cD cL cH cC n l0 l1 u0 u1 s0 s1 hist h0 n0 v U'.heap L ∧ FrameEnd U o U' L ({ frames := 1, cells := 2, slots := 4, locals := 40 } : Room).cells ({ frames := 1, cells := 2, slots := 4, locals := 40 } : Room).slots) := by
  refine MetFree.of_bodySF pn_17 hisR ?_
  intro p e s m args below meth c s₁ Bd hml0 hP hK
  obtain ⟨rfl, hZ, hh⟩ := hP
  have hx := Bd.exec
  have hby := Bd.bytes
  have hml : c.maxLocals = 2 := hml0
  have hown : s.vm.findClass "com/example/reverie/reverie/ScalarQuantizer$Cursor" = some m.cls := findClass_of_methodNamed Bd.named
  have hnm := (name_of_methodNamed Bd.named Bd.method).1
  have X0 : Stand p l e ({ frames := 1, cells := 2, slots := 4, locals := 40 } : Room) s m #[(.ref a1), (.ref a2)] below meth c s₁ [] 0 0 := Stand.of_body Bd
  have e0 : s₁.heap = h0 := by rw [← hh, Bd.state]; rfl
  have N0 := Fr.nil n0
  refine own_at (castTop (ef_17 m a1 a2)) ?_
  obtain ⟨ktl, kth, kts, ksl, ksh, kss, kcS, kcD, kcL, kcH, kcC, g1, g2, g3, g4, g5, ND, ⟨G1, G2, G3, G4, G5⟩, E_q, F_dim, F_tl, F_th, F_ts, F_sl, F_sh, F_ss, F_cS, F_cD, F_cL, F_cH, F_cC, F_ec, F_cc, A_tl, A_th, A_ts, A_sl, A_sh, A_ss, A_cS, A_cD, A_cL, A_cH, A_cC⟩ := id QQ
  have n_a2_tl : a2 ≠ tl := E_q.neArv A_tl (own_w hw 7 rfl)
  have n_a2_th : a2 ≠ th := E_q.neArv A_th (own_w hw 7 rfl)
  have n_a2_ts : a2 ≠ ts := E_q.neArv A_ts (own_w hw 7 rfl)
  have n_a2_sl : a2 ≠ sl := E_q.neArv A_sl (own_w hw 7 rfl)
  have n_a2_sh : a2 ≠ sh := E_q.neArv A_sh (own_w hw 7 rfl)
  have n_a2_ss : a2 ≠ ss := E_q.neArv A_ss (own_w hw 7 rfl)
  have n_a2_cS : a2 ≠ cS := E_q.neArv A_cS (own_w hw 7 rfl)
  have n_a2_cD : a2 ≠ cD := E_q.neArv A_cD (own_w hw 7 rfl)
  have n_a2_cL : a2 ≠ cL := E_q.neArv A_cL (own_w hw 7 rfl)
  have n_a2_cH : a2 ≠ cH := E_q.neArv A_cH (own_w hw 7 rfl)
  have n_a2_cC : a2 ≠ cC := E_q.neArv A_cC (own_w hw 7 rfl)
  obtain ⟨kk, hkk⟩ : ∃ z : Int32, z = Int32.ofNat hist.length := ⟨_, rfl⟩
  rw [← hkk] at F_cc
  have n_a1_a2 : a1 ≠ a2 := E_a1.ne E_q (by decide)
  have n_a1_sl : a1 ≠ sl := E_a1.neArv A_sl (own_w hw 115 rfl)
  have n_a1_ss : a1 ≠ ss := E_a1.neArv A_ss (own_w hw 115 rfl)
  have K0 := Keep.refl h0 [a1]
  have sg2 : ∀ t, own_S p e below s₁ (mkF m 2 #[.val (.ref a1), .val (.ref a2)] [(.ref a2), (.ref a1)]) t → own_S p e below s₁ (mkF m 0 #[.val (.ref a1), .val (.ref a2)] []) t := by
    intro t k
    refine XS.aloadN X0.here hx rfl (hb hby d17_0) rfl rfl ?_
    show own_S p e below s₁ (mkF m 1 #[.val (.ref a1), .val (.ref a2)] [(.ref a1)]) _
    refine XS.aloadN X0.here hx rfl (hb hby d17_1) rfl rfl ?_
    exact k
  refine own_by sg2 ?_
  obtain ⟨T2, h2, X2, e2, W2, st2⟩ := putF X0 hx hZ hown (host := "") (Or.inl (own_w hw 120 rfl)) Via.refl e0 F_this_0 E_a1 (Or.inr ⟨(own_w hw 121 rfl), rfl, hnm⟩) (own_w hw 115 rfl) (ty := (.object "com/example/reverie/reverie/ScalarQuantizer")) (by decide) rfl rfl (g := (mkF m 2 #[.val (.ref a1), .val (.ref a2)] [(.ref a2), (.ref a1)])) rfl rfl (hb hby d17_2)
  have Fw2 := F_this_0.same W2
  have fc := (F_mins.other W2 (Or.inr (slot_ne (Or.inr (own_w hw 125 rfl)) (Or.inr (own_w hw 121 rfl)) (by decide) (t := (.array .float)) (t' := (.object "com/example/reverie/reverie/ScalarQuantizer")) (by decide) (by decide))))
  have fc_2 := (F_cursorScales.other W2 (Or.inr (slot_ne (Or.inr (own_w hw 127 rfl)) (Or.inr (own_w hw 121 rfl)) (by decide) (t := (.array .float)) (t' := (.object "com/example/reverie/reverie/ScalarQuantizer")) (by decide) (by decide))))
  have fc_3 := (F_nextChange.other W2 (Or.inr (slot_ne (Or.inl (own_w hw 140 rfl)) (Or.inr (own_w hw 121 rfl)) (by decide) (t := .int) (t' := (.object "com/example/reverie/reverie/ScalarQuantizer")) (by decide) (by decide))))
  have K2 : Keep h0 h2 [a1] := K0.wr W2 (Or.inl (List.mem_of_getElem? (i := 0) rfl))
  have Z2 : n0 ≤ h2.size := Nat.le_trans Z0 (Keep.of_wr W2).1
  have N2 := Fr.snoc X2 N0 g_a1
  refine own_by st2 ?_
  have sg6 : ∀ t, own_S p e below T2 (mkF m 6 #[.val (.ref a1), .val (.ref a2)] [(.ref a1)]) t → own_S p e below T2 (mkF m 5 #[.val (.ref a1), .val (.ref a2)] []) t := by
    intro t k
    refine XS.aloadN X2.here hx rfl (hb hby d17_5) rfl rfl ?_
    exact k
  refine own_by sg6 ?_
  obtain ⟨T6, X6, e6, st6⟩ := initO X2 hx hZ hown (own_w hw 122 rfl) (own_w hw 25 rfl) (own_w hw 26 rfl) e2 (g := (mkF m 6 #[.val (.ref a1), .val (.ref a2)] [(.ref a1)])) rfl (by rw [hml]; rfl) rfl (hb hby d17_6) (by decide) (W := 0) (by show 2 * 0 + _ ≤ _; exact Nat.le_of_eq rfl) (by decide)
  refine own_by st6 ?_
  have sg11 : ∀ t, own_S p e below T6 (mkF m 11 #[.val (.ref a1), .val (.ref a2)] [(.ref a1), (.ref a1)]) t → own_S p e below T6 (mkF m 9 #[.val (.ref a1), .val (.ref a2)] []) t := by
    intro t k
    refine XS.aloadN X6.here hx rfl (hb hby d17_9) rfl rfl ?_
    show own_S p e below T6 (mkF m 10 #[.val (.ref a1), .val (.ref a2)] [(.ref a1)]) _
    refine XS.aloadN X6.here hx rfl (hb hby d17_10) rfl rfl ?_
    exact k
  refine own_by sg11 ?_
  obtain ⟨T11, X11, e11, st11⟩ := getF X6 hx hZ hown (host := "") (Or.inl (own_w hw 120 rfl)) Via.refl e6 Fw2 (g := (mkF m 11 #[.val (.ref a1), .val (.ref a2)] [(.ref a1), (.ref a1)])) rfl rfl (hb hby d17_11)
  refine own_by st11 ?_
  obtain ⟨T14, X14, e14, st14⟩ := getF X11 hx hZ hown (Or.inr (own_w hw 123 rfl)) Via.refl e11 (F_dim.other W2 (Or.inl (Ne.symm n_a1_a2))) (g := (mkF m 14 #[.val (.ref a1), .val (.ref a2)] [(.ref a2), (.ref a1)])) rfl rfl (hb hby d17_14)
  refine own_by st14 ?_
  obtain ⟨T17, h17, kc17, X17, e17, E17, A17, st17⟩ := newP X14 hx hZ (own_w hw 4 rfl) e14 (g := (mkF m 17 #[.val (.ref a1), .val (.ref a2)] [(.int (2 : Int32)), (.ref a1)])) rfl (hb hby d17_17) rfl (by decide) (cap := 2) (by decide) (by decide) (by decide) (by decide)
  obtain ⟨b17, g17⟩ : ∃ z, z = h2.size := ⟨_, rfl⟩
  rw [← g17] at A17 st17
  have ne_a2_b17 : a2 ≠ b17 := Nat.ne_of_lt (Nat.lt_of_lt_of_le (E_q.wr W2).lt (Nat.le_of_eq g17.symm))
  have ne_sl_b17 : sl ≠ b17 := Nat.ne_of_lt (Nat.lt_of_lt_of_le (A_sl.other W2 (Ne.symm n_a1_sl)).lt (Nat.le_of_eq g17.symm))
  have ne_ss_b17 : ss ≠ b17 := Nat.ne_of_lt (Nat.lt_of_lt_of_le (A_ss.other W2 (Ne.symm n_a1_ss)).lt (Nat.le_of_eq g17.symm))
  have ne_a1_b17 : a1 ≠ b17 := Nat.ne_of_lt (Nat.lt_of_lt_of_le (E_a1.wr W2).lt (Nat.le_of_eq g17.symm))
  have g_b17 : n0 ≤ b17 := Nat.le_trans Z2 (Nat.le_of_eq g17.symm)
  have sz_b17 : h0.size ≤ b17 := Nat.le_trans K2.1 (Nat.le_of_eq g17.symm)
  have K17 := K2.ext E17
  have Z17 : n0 ≤ h17.size := Nat.le_trans Z2 E17.1
  have V17 : Arv Z h17 b17 kc17 .float (2 : Int32) [(.float (0 : UInt32)), (.float (0 : UInt32))] (.float (0 : UInt32)) := (Arv.new A17 (by decide)).pad (pad_rep [] (.float (0 : UInt32)) 2)
  refine own_by st17 ?_
  obtain ⟨T19, h19, X19, e19, W19, st19⟩ := putF X17 hx hZ hown (host := "") (Or.inl (own_w hw 124 rfl)) Via.refl e17 (fc.ext E17) ((E_a1.wr W2).ext E17) (Or.inr ⟨(own_w hw 125 rfl), rfl, hnm⟩) (own_w hw 115 rfl) (ty := (.array .float)) (by decide) rfl rfl (g := (mkF m 19 #[.val (.ref a1), .val (.ref a2)] [(.ref b17), (.ref a1)])) rfl rfl (hb hby d17_19)
  have Fw19 := (fc.ext E17).same W19
  have fc_4 := (((F_dim.other W2 (Or.inl (Ne.symm n_a1_a2))).ext E17).other W19 (Or.inl (Ne.symm n_a1_a2)))
  have fc_5 := (((F_sl.other W2 (Or.inl (Ne.symm n_a1_a2))).ext E17).other W19 (Or.inl (Ne.symm n_a1_a2)))
  have fc_6 := (((F_ss.other W2 (Or.inl (Ne.symm n_a1_a2))).ext E17).other W19 (Or.inl (Ne.symm n_a1_a2)))
  have fc_7 := (((A_sl.other W2 (Ne.symm n_a1_sl)).ext E17).other W19 (Ne.symm n_a1_sl))
  have fc_8 := (((A_ss.other W2 (Ne.symm n_a1_ss)).ext E17).other W19 (Ne.symm n_a1_ss))
  have fc_9 := ((Fw2.ext E17).other W19 (Or.inr (slot_ne (Or.inr (own_w hw 121 rfl)) (Or.inr (own_w hw 125 rfl)) (by decide) (t := (.object "com/example/reverie/reverie/ScalarQuantizer")) (t' := (.array .float)) (by decide) (by decide))))
  have fc_10 := ((fc_2.ext E17).other W19 (Or.inr (slot_ne (Or.inr (own_w hw 127 rfl)) (Or.inr (own_w hw 125 rfl)) (by decide) (t := (.array .float)) (t' := (.array .float)) (by decide) (by decide))))
  have fc_11 := ((fc_3.ext E17).other W19 (Or.inr (slot_ne (Or.inl (own_w hw 140 rfl)) (Or.inr (own_w hw 125 rfl)) (by decide) (t := .int) (t' := (.array .float)) (by decide) (by decide))))
  have K19 : Keep h0 h19 [a1] := K17.wr W19 (Or.inl (List.mem_of_getElem? (i := 0) rfl))
  have Z19 : n0 ≤ h19.size := Nat.le_trans Z17 (Keep.of_wr W19).1
  have N19 := Fr.snoc X19 N2 g_a1
  refine own_by st19 ?_
  have sg24 : ∀ t, own_S p e below T19 (mkF m 24 #[.val (.ref a1), .val (.ref a2)] [(.ref a1), (.ref a1)]) t → own_S p e below T19 (mkF m 22 #[.val (.ref a1), .val (.ref a2)] []) t := by
    intro t k
    refine XS.aloadN X19.here hx rfl (hb hby d17_22) rfl rfl ?_
    show own_S p e below T19 (mkF m 23 #[.val (.ref a1), .val (.ref a2)] [(.ref a1)]) _
    refine XS.aloadN X19.here hx rfl (hb hby d17_23) rfl rfl ?_
    exact k
  refine own_by sg24 ?_
  obtain ⟨T24, X24, e24, st24⟩ := getF X19 hx hZ hown (host := "") (Or.inl (own_w hw 120 rfl)) Via.refl e19 fc_9 (g := (mkF m 24 #[.val (.ref a1), .val (.ref a2)] [(.ref a1), (.ref a1)])) rfl rfl (hb hby d17_24)
  refine own_by st24 ?_
  obtain ⟨T27, X27, e27, st27⟩ := getF X24 hx hZ hown (Or.inr (own_w hw 123 rfl)) Via.refl e24 fc_4 (g := (mkF m 27 #[.val (.ref a1), .val (.ref a2)] [(.ref a2), (.ref a1)])) rfl rfl (hb hby d17_27)
  refine own_by st27 ?_
  obtain ⟨T30, h30, kc30, X30, e30, E30, A30, st30⟩ := newP X27 hx hZ (own_w hw 4 rfl) e27 (g := (mkF m 30 #[.val (.ref a1), .val (.ref a2)] [(.int (2 : Int32)), (.ref a1)])) rfl (hb hby d17_30) rfl (by decide) (cap := 2) (by decide) (by decide) (by decide) (by decide)
  obtain ⟨b30, g30⟩ : ∃ z, z = h19.size := ⟨_, rfl⟩
  rw [← g30] at A30 st30
  have ne_a2_b30 : a2 ≠ b30 := Nat.ne_of_lt (Nat.lt_of_lt_of_le (((E_q.wr W2).ext E17).wr W19).lt (Nat.le_of_eq g30.symm))
  have ne_sl_b30 : sl ≠ b30 := Nat.ne_of_lt (Nat.lt_of_lt_of_le fc_7.lt (Nat.le_of_eq g30.symm))
  have ne_ss_b30 : ss ≠ b30 := Nat.ne_of_lt (Nat.lt_of_lt_of_le fc_8.lt (Nat.le_of_eq g30.symm))
  have ne_a1_b30 : a1 ≠ b30 := Nat.ne_of_lt (Nat.lt_of_lt_of_le (((E_a1.wr W2).ext E17).wr W19).lt (Nat.le_of_eq g30.symm))
  have ne_b17_b30 : b17 ≠ b30 := Nat.ne_of_lt (Nat.lt_of_lt_of_le (V17.other W19 (Ne.symm ne_a1_b17)).lt (Nat.le_of_eq g30.symm))
  have g_b30 : n0 ≤ b30 := Nat.le_trans Z19 (Nat.le_of_eq g30.symm)
  have sz_b30 : h0.size ≤ b30 := Nat.le_trans K19.1 (Nat.le_of_eq g30.symm)
  have K30 := K19.ext E30
  have Z30 : n0 ≤ h30.size := Nat.le_trans Z19 E30.1
  have V30 : Arv Z h30 b30 kc30 .float (2 : Int32) [(.float (0 : UInt32)), (.float (0 : UInt32))] (.float (0 : UInt32)) := (Arv.new A30 (by decide)).pad (pad_rep [] (.float (0 : UInt32)) 2)
  refine own_by st30 ?_
  obtain ⟨T32, h32, X32, e32, W32, st32⟩ := putF X30 hx hZ hown (host := "") (Or.inl (own_w hw 126 rfl)) Via.refl e30 (fc_10.ext E30) ((((E_a1.wr W2).ext E17).wr W19).ext E30) (Or.inr ⟨(own_w hw 127 rfl), rfl, hnm⟩) (own_w hw 115 rfl) (ty := (.array .float)) (by decide) rfl rfl (g := (mkF m 32 #[.val (.ref a1), .val (.ref a2)] [(.ref b30), (.ref a1)])) rfl rfl (hb hby d17_32)
  have Fw32 := (fc_10.ext E30).same W32
  have fc_12 := ((fc_9.ext E30).other W32 (Or.inr (slot_ne (Or.inr (own_w hw 121 rfl)) (Or.inr (own_w hw 127 rfl)) (by decide) (t := (.object "com/example/reverie/reverie/ScalarQuantizer")) (t' := (.array .float)) (by decide) (by decide))))
  have fc_13 := ((Fw19.ext E30).other W32 (Or.inr (slot_ne (Or.inr (own_w hw 125 rfl)) (Or.inr (own_w hw 127 rfl)) (by decide) (t := (.array .float)) (t' := (.array .float)) (by decide) (by decide))))
  have fc_14 := ((fc_11.ext E30).other W32 (Or.inr (slot_ne (Or.inl (own_w hw 140 rfl)) (Or.inr (own_w hw 127 rfl)) (by decide) (t := .int) (t' := (.array .float)) (by decide) (by decide))))
  have fc_15 := (((V17.other W19 (Ne.symm ne_a1_b17)).ext E30).other W32 (Ne.symm ne_a1_b17))
  have K32 : Keep h0 h32 [a1] := K30.wr W32 (Or.inl (List.mem_of_getElem? (i := 0) rfl))
  have Z32 : n0 ≤ h32.size := Nat.le_trans Z30 (Keep.of_wr W32).1
  have N32 := Fr.snoc X32 N19 g_a1
  refine own_by st32 ?_
  have sg36 : ∀ t, own_S p e below T32 (mkF m 36 #[.val (.ref a1), .val (.ref a2)] [(.ref a2)]) t → own_S p e below T32 (mkF m 35 #[.val (.ref a1), .val (.ref a2)] []) t := by
    intro t k
    refine XS.aloadN X32.here hx rfl (hb hby d17_35) rfl rfl ?_
    exact k
  refine own_by sg36 ?_
  obtain ⟨T36, X36, e36, st36⟩ := getF X32 hx hZ hown (Or.inr (own_w hw 128 rfl)) Via.refl e32 ((fc_5.ext E30).other W32 (Or.inl (Ne.symm n_a1_a2))) (g := (mkF m 36 #[.val (.ref a1), .val (.ref a2)] [(.ref a2)])) rfl rfl (hb hby d17_36)
  refine own_by st36 ?_
  have sg41 : ∀ t, own_S p e below T36 (mkF m 41 #[.val (.ref a1), .val (.ref a2)] [(.ref a1), (.int (0 : Int32)), (.ref sl)]) t → own_S p e below T36 (mkF m 39 #[.val (.ref a1), .val (.ref a2)] [(.ref sl)]) t := by
    intro t k
    refine XS.iconst X36.here hx rfl (hb hby d17_39) ?_
    show own_S p e below T36 (mkF m 40 #[.val (.ref a1), .val (.ref a2)] [(.int (0 : Int32)), (.ref sl)]) _
    refine XS.aloadN X36.here hx rfl (hb hby d17_40) rfl rfl ?_
    exact k
  refine own_by sg41 ?_
  obtain ⟨T41, X41, e41, st41⟩ := getF X36 hx hZ hown (host := "") (Or.inl (own_w hw 124 rfl)) Via.refl e36 fc_13 (g := (mkF m 41 #[.val (.ref a1), .val (.ref a2)] [(.ref a1), (.int (0 : Int32)), (.ref sl)])) rfl rfl (hb hby d17_41)
  refine own_by st41 ?_
  have sg46 : ∀ t, own_S p e below T41 (mkF m 46 #[.val (.ref a1), .val (.ref a2)] [(.ref a2), (.int (0 : Int32)), (.ref b17), (.int (0 : Int32)), (.ref sl)]) t → own_S p e below T41 (mkF m 44 #[.val (.ref a1), .val (.ref a2)] [(.ref b17), (.int (0 : Int32)), (.ref sl)]) t := by
    intro t k
    refine XS.iconst X41.here hx rfl (hb hby d17_44) ?_
    show own_S p e below T41 (mkF m 45 #[.val (.ref a1), .val (.ref a2)] [(.int (0 : Int32)), (.ref b17), (.int (0 : Int32)), (.ref sl)]) _
    refine XS.aloadN X41.here hx rfl (hb hby d17_45) rfl rfl ?_
    exact k
  refine own_by sg46 ?_
  obtain ⟨T46, X46, e46, st46⟩ := getF X41 hx hZ hown (Or.inr (own_w hw 123 rfl)) Via.refl e41 ((fc_4.ext E30).other W32 (Or.inl (Ne.symm n_a1_a2))) (g := (mkF m 46 #[.val (.ref a1), .val (.ref a2)] [(.ref a2), (.int (0 : Int32)), (.ref b17), (.int (0 : Int32)), (.ref sl)])) rfl rfl (hb hby d17_46)
  refine own_by st46 ?_
  obtain ⟨T49, h49, Lq49, X49, e49, N49, Kq49, Aq49, st49⟩ := cpA X46 hx hZ hown (own_w hw 129 rfl) (own_w hw 132 rfl) (own_w hw 130 rfl) (own_w hw 131 rfl) e46 ((fc_7.ext E30).other W32 (Ne.symm n_a1_sl)) fc_15 (us := [(.float (2139095040 : UInt32)), (.float (2139095040 : UInt32))]) (Or.inl ⟨rfl, rfl⟩) (by decide) (by decide) (by decide) (by decide) (by decide) rfl (by decide) N32 g_b17 (g := (mkF m 49 #[.val (.ref a1), .val (.ref a2)] [(.int (2 : Int32)), (.int (0 : Int32)), (.ref b17), (.int (0 : Int32)), (.ref sl)])) rfl (by rw [hml]; rfl) (rest := []) rfl (hb hby d17_49) (by decide) (W := 0) (by show 2 * 0 + _ ≤ _; exact Nat.le_of_eq rfl) (by decide)
  have fc_16 := ((((((E_q.wr W2).ext E17).wr W19).ext E30).wr W32).keep Kq49)
  have fc_17 := (((fc_4.ext E30).other W32 (Or.inl (Ne.symm n_a1_a2))).keep Kq49 (fun h => ne_a2_b17 (List.mem_singleton.mp h)))
  have fc_18 := (((fc_5.ext E30).other W32 (Or.inl (Ne.symm n_a1_a2))).keep Kq49 (fun h => ne_a2_b17 (List.mem_singleton.mp h)))
  have fc_19 := (((fc_6.ext E30).other W32 (Or.inl (Ne.symm n_a1_a2))).keep Kq49 (fun h => ne_a2_b17 (List.mem_singleton.mp h)))
  have fc_20 := (((fc_7.ext E30).other W32 (Ne.symm n_a1_sl)).keep Kq49 (fun h => ne_sl_b17 (List.mem_singleton.mp h)))
  have fc_21 := (((fc_8.ext E30).other W32 (Ne.symm n_a1_ss)).keep Kq49 (fun h => ne_ss_b17 (List.mem_singleton.mp h)))
  have fc_22 := ((((((E_a1.wr W2).ext E17).wr W19).ext E30).wr W32).keep Kq49)
  have fc_23 := (fc_12.keep Kq49 (fun h => ne_a1_b17 (List.mem_singleton.mp h)))
  have fc_24 := (fc_13.keep Kq49 (fun h => ne_a1_b17 (List.mem_singleton.mp h)))
  have fc_25 := (Fw32.keep Kq49 (fun h => ne_a1_b17 (List.mem_singleton.mp h)))
  have fc_26 := (fc_14.keep Kq49 (fun h => ne_a1_b17 (List.mem_singleton.mp h)))
  have fc_27 := ((V30.other W32 (Ne.symm ne_a1_b30)).keep Kq49 (fun h => (Ne.symm ne_b17_b30) (List.mem_singleton.mp h)))
  have K49 : Keep h0 h49 [a1] := K32.trans Kq49 (fun x hx => by cases List.mem_singleton.mp hx; exact (Or.inr sz_b17))
  have Z49 : n0 ≤ h49.size := Nat.le_trans Z32 Kq49.1
  have V49 : Arv Z h49 b17 kc17 .float (2 : Int32) [(.float (2139095040 : UInt32)), (.float (2139095040 : UInt32))] (.float (0 : UInt32)) := Aq49
  refine own_by st49 ?_
  have sg53 : ∀ t, own_S p e below T49 (mkF m 53 #[.val (.ref a1), .val (.ref a2)] [(.ref a2)]) t → own_S p e below T49 (mkF m 52 #[.val (.ref a1), .val (.ref a2)] []) t := by
    intro t k
    refine XS.aloadN X49.here hx rfl (hb hby d17_52) rfl rfl ?_
    exact k
  refine own_by sg53 ?_
  obtain ⟨T53, X53, e53, st53⟩ := getF X49 hx hZ hown (Or.inr (own_w hw 133 rfl)) Via.refl e49 fc_19 (g := (mkF m 53 #[.val (.ref a1), .val (.ref a2)] [(.ref a2)])) rfl rfl (hb hby d17_53)
  refine own_by st53 ?_
  have sg58 : ∀ t, own_S p e below T53 (mkF m 58 #[.val (.ref a1), .val (.ref a2)] [(.ref a1), (.int (0 : Int32)), (.ref ss)]) t → own_S p e below T53 (mkF m 56 #[.val (.ref a1), .val (.ref a2)] [(.ref ss)]) t := by
    intro t k
    refine XS.iconst X53.here hx rfl (hb hby d17_56) ?_
    show own_S p e below T53 (mkF m 57 #[.val (.ref a1), .val (.ref a2)] [(.int (0 : Int32)), (.ref ss)]) _
    refine XS.aloadN X53.here hx rfl (hb hby d17_57) rfl rfl ?_
    exact k
  refine own_by sg58 ?_
  obtain ⟨T58, X58, e58, st58⟩ := getF X53 hx hZ hown (host := "") (Or.inl (own_w hw 126 rfl)) Via.refl e53 fc_25 (g := (mkF m 58 #[.val (.ref a1), .val (.ref a2)] [(.ref a1), (.int (0 : Int32)), (.ref ss)])) rfl rfl (hb hby d17_58)
  refine own_by st58 ?_
  have sg63 : ∀ t, own_S p e below T58 (mkF m 63 #[.val (.ref a1), .val (.ref a2)] [(.ref a2), (.int (0 : Int32)), (.ref b30), (.int (0 : Int32)), (.ref ss)]) t → own_S p e below T58 (mkF m 61 #[.val (.ref a1), .val (.ref a2)] [(.ref b30), (.int (0 : Int32)), (.ref ss)]) t := by
    intro t k
    refine XS.iconst X58.here hx rfl (hb hby d17_61) ?_
    show own_S p e below T58 (mkF m 62 #[.val (.ref a1), .val (.ref a2)] [(.int (0 : Int32)), (.ref b30), (.int (0 : Int32)), (.ref ss)]) _
    refine XS.aloadN X58.here hx rfl (hb hby d17_62) rfl rfl ?_
    exact k
  refine own_by sg63 ?_
  obtain ⟨T63, X63, e63, st63⟩ := getF X58 hx hZ hown (Or.inr (own_w hw 123 rfl)) Via.refl e58 fc_17 (g := (mkF m 63 #[.val (.ref a1), .val (.ref a2)] [(.ref a2), (.int (0 : Int32)), (.ref b30), (.int (0 : Int32)), (.ref ss)])) rfl rfl (hb hby d17_63)
  refine own_by st63 ?_
  obtain ⟨T66, h66, Lq66, X66, e66, N66, Kq66, Aq66, st66⟩ := cpA X63 hx hZ hown (own_w hw 129 rfl) (own_w hw 132 rfl) (own_w hw 130 rfl) (own_w hw 131 rfl) e63 fc_21 fc_27 (us := [(.float (0 : UInt32)), (.float (0 : UInt32))]) (Or.inl ⟨rfl, rfl⟩) (by decide) (by decide) (by decide) (by decide) (by decide) rfl (by decide) N49 g_b30 (g := (mkF m 66 #[.val (.ref a1), .val (.ref a2)] [(.int (2 : Int32)), (.int (0 : Int32)), (.ref b30), (.int (0 : Int32)), (.ref ss)])) rfl (by rw [hml]; rfl) (rest := []) rfl (hb hby d17_66) (by decide) (W := 0) (by show 2 * 0 + _ ≤ _; exact Nat.le_of_eq rfl) (by decide)
  have fc_28 := (fc_17.keep Kq66 (fun h => ne_a2_b30 (List.mem_singleton.mp h)))
  have fc_29 := (fc_18.keep Kq66 (fun h => ne_a2_b30 (List.mem_singleton.mp h)))
  have fc_30 := (fc_19.keep Kq66 (fun h => ne_a2_b30 (List.mem_singleton.mp h)))
  have fc_31 := (fc_20.keep Kq66 (fun h => ne_sl_b30 (List.mem_singleton.mp h)))
  have fc_32 := (fc_21.keep Kq66 (fun h => ne_ss_b30 (List.mem_singleton.mp h)))
  have fc_33 := (fc_23.keep Kq66 (fun h => ne_a1_b30 (List.mem_singleton.mp h)))
  have fc_34 := (fc_24.keep Kq66 (fun h => ne_a1_b30 (List.mem_singleton.mp h)))
  have fc_35 := (fc_25.keep Kq66 (fun h => ne_a1_b30 (List.mem_singleton.mp h)))
  have fc_36 := (fc_26.keep Kq66 (fun h => ne_a1_b30 (List.mem_singleton.mp h)))
  have fc_37 := (V49.keep Kq66 (fun h => ne_b17_b30 (List.mem_singleton.mp h)))
  have K66 : Keep h0 h66 [a1] := K49.trans Kq66 (fun x hx => by cases List.mem_singleton.mp hx; exact (Or.inr sz_b30))
  have Z66 : n0 ≤ h66.size := Nat.le_trans Z49 Kq66.1
  have V66 : Arv Z h66 b30 kc30 .float (2 : Int32) [(.float (0 : UInt32)), (.float (0 : UInt32))] (.float (0 : UInt32)) := Aq66
  refine own_by st66 ?_
  obtain ⟨fs, hr, hrun, hended, hW, hsame⟩ := X66.leave (v := none) (fun _ => rfl)
  refine ⟨_, _, ?_, hrun, hended, _, _, rfl, ?_, ⟨_, rfl⟩, hW, hsame.mono (by decide) (by decide)⟩
  · exact X66.returnOut hx Bd.returns (hb hby d17_69) hr
  · show Q17 Z a1 a2 tl th ts sl sh ss cS cD cL cH cC n l0 l1 u0 u1 s0 s1 hist h0 n0 _ T66.heap _
    rw [e66]
    exact ⟨rfl, N66, K66, b17, b30, _, _, sz_b17, sz_b30, ne_b17_b30, (fc_22.keep Kq66), fc_33, fc_34, fc_35, fc_36, fc_37, V66⟩
theorem d16_0 : decode prog_33_method_10_code 0 = .ok (.new 121, 3) := by decide +kernel
theorem d16_3 : decode prog_33_method_10_code 3 = .ok (.dup, 1) := by decide +kernel
theorem d16_4 : decode prog_33_method_10_code 4 = .ok (.aload_n 0, 1) := by decide +kernel
theorem d16_5 : decode prog_33_method_10_code 5 = .ok (.invokespecial 123, 3) := by decide +kernel
theorem d16_8 : decode prog_33_method_10_code 8 = .ok (.areturn, 1) := by decide +kernel
theorem pn_16 : plainFor (⟨"com/example/reverie/reverie/ScalarQuantizer", "cursor", "()Lcom/example/reverie/reverie/ScalarQuantizer$Cursor;"⟩ : MethodName) = true := by first | exact plainFor_of_name (by first | (simp [plainName, overriddenIn]; done) | decide +kernel) | decide +kernel | exact Jvm.Free.JP.mathPlain rfl (by decide +kernel)
theorem pd_16_0 : parseMethodDescriptor "(Lcom/example/reverie/reverie/ScalarQuantizer;)V" = some ⟨[(.object "com/example/reverie/reverie/ScalarQuantizer")], none⟩ := by decide +kernel
theorem ef_16 (m : MethodId) (a2 : Addr) : entryFrame m #[(.ref a2)] 1 = mkF m 0 #[.val (.ref a2)] [] := by first | (simp [entryFrame, mkF, argsToLocals, Value.category]; done) | rfl
def Q16 (Z : State) (a2 : Addr) (tl : Addr) (th : Addr) (ts : Addr) (sl : Addr) (sh : Addr) (ss : Addr) (cS : Addr) (cD : Addr) (cL : Addr) (cH : Addr) (cC : Addr) (n : Int32) (l0 : UInt32) (l1 : UInt32) (u0 : UInt32) (u1 : UInt32) (s0 : UInt32) (s1 : UInt32) (hist : List own_E) (h0 : Heap) (n0 : Nat) (v : Option Value) (h : Heap) (L : List Loc) : Prop := ∃ (r mi sc : Addr) (kmi ksc : ClassId), v = some (.ref r) ∧ h0.size ≤ r ∧ h0.size ≤ mi ∧ h0.size ≤ sc ∧ mi ≠ sc ∧ Fr n0 L ∧ Keep h0 h [] ∧ Exa Z h r "com/example/reverie/reverie/ScalarQuantizer$Cursor" ∧ Fld Z h r "com/example/reverie/reverie/ScalarQuantizer$Cursor" "this$0" "Lcom/example/reverie/reverie/ScalarQuantizer;" (.ref a2) ∧ Fld Z h r "com/example/reverie/reverie/ScalarQuantizer$Cursor" "mins" "[F" (.ref mi) ∧ Fld Z h r "com/example/reverie/reverie/ScalarQuantizer$Cursor" "cursorScales" "[F" (.ref sc) ∧ Fld Z h r "com/example/reverie/reverie/ScalarQuantizer$Cursor" "nextChange" "I" (.int (0 : Int32)) ∧ Arv Z h mi kmi .float (2 : Int32) [(.float (2139095040 : UInt32)), (.float (2139095040 : UInt32))] (.float (0 : UInt32)) ∧ Arv Z h sc ksc .float (2 : Int32) [(.float (0 : UInt32)), (.float (0 : UInt32))] (.float (0 : UInt32))
set_option maxRecDepth 65536 in
set_option maxHeartbeats 40000000 in
theorem rm16 (l : Launch) (Z : State) (a0 : Array Value) (hw : ∀ d ∈ tables_1, d.before a0 Z = true) (ws : List Jvm.Cond) (a2 : Addr) (tl : Addr) (th : Addr) (ts : Addr) (sl : Addr) (sh : Addr) (ss : Addr) (cS : Addr) (cD : Addr) (cL : Addr) (cH : Addr) (cC : Addr) (n : Int32) (l0 : UInt32) (l1 : UInt32) (u0 : UInt32) (u1 : UInt32) (s0 : UInt32) (s1 : UInt32) (hist : List own_E) (h0 : Heap) (n0 : Nat) (Z0 : n0 ≤ h0.size) (QQ : own_Q Z h0 a2 tl th ts sl sh ss cS cD cL cH cC n l0 l1 u0 u1 s0 s1 hist) :
    MetFree l (⟨"com/example/reverie/reverie/ScalarQuantizer", "cursor", "()Lcom/example/reverie/reverie/ScalarQuantizer$Cursor;"⟩ : MethodName) (head1 (Jvm.Cond.code (⟨"com/example/reverie/reverie/ScalarQuantizer", "cursor", "()Lcom/example/reverie/reverie/ScalarQuantizer$Cursor;"⟩ : MethodName) prog_33_method_10_code 1 (some (.object "com/example/reverie/reverie/ScalarQuantizer$Cursor")) :: ws) ({ frames := 2, cells := 3, slots := 8, locals := 54 } : Room)) (fun a U => a = #[(.ref a2)] ∧ Z.Warmed39 U.vm ∧ U.heap = h0) (fun _ _ _ _ _ => True) (fun _ U o U' => ∃ v L, o = .returned v ∧ Q16 Z a2 tl th ts sl sh ss cS cD cL cH cC n l0 l1 u0 u1 s0 s1 hist h0 n0 v U'.heap L ∧ FrameEnd U o U' L ({ frames := 2, cells := 3, slots := 8, locals := 54 } : Room).cells ({ frames := 2, cells := 3, slots := 8, locals := 54 } : Room).slots) := by
  refine MetFree.of_bodySF pn_16 hisR ?_
  intro p e s m args below meth c s₁ Bd hml0 hP hK
  obtain ⟨rfl, hZ, hh⟩ := hP
  have hx := Bd.exec
  have hby := Bd.bytes
  have hml : c.maxLocals = 1 := hml0
  have hown : s.vm.findClass "com/example/reverie/reverie/ScalarQuantizer" = some m.cls := findClass_of_methodNamed Bd.named
  have hnm := (name_of_methodNamed Bd.named Bd.method).1
  have X0 : Stand p l e ({ frames := 2, cells := 3, slots := 8, locals := 54 } : Room) s m #[(.ref a2)] below meth c s₁ [] 0 0 := Stand.of_body Bd
  have e0 : s₁.heap = h0 := by rw [← hh, Bd.state]; rfl
  have N0 := Fr.nil n0
  refine own_at (castTop (ef_16 m a2)) ?_
  have K0 := Keep.refl h0 []
  obtain ⟨T00, h00, X00, e00, E00, A00, D00, -, st00⟩ := newO X0 hx hZ hown (own_w hw 114 rfl) (own_w hw 115 rfl) (own_w hw 116 rfl) e0 (g := (mkF m 0 #[.val (.ref a2)] [])) rfl (hb hby d16_0) (by decide) (by decide)
  obtain ⟨b00, g00⟩ : ∃ z, z = h0.size := ⟨_, rfl⟩
  rw [← g00] at A00 D00 st00
  have g_b00 : n0 ≤ b00 := Nat.le_trans Z0 (Nat.le_of_eq g00.symm)
  have sz_b00 : h0.size ≤ b00 := Nat.le_trans K0.1 (Nat.le_of_eq g00.symm)
  have K00 := K0.ext E00
  have Z00 : n0 ≤ h00.size := Nat.le_trans Z0 E00.1
  have F_this_0_b00 : Fld Z h00 b00 "com/example/reverie/reverie/ScalarQuantizer$Cursor" "this$0" "Lcom/example/reverie/reverie/ScalarQuantizer;" .null := D00 (Or.inr (own_w hw 121 rfl)) (ty := (.object "com/example/reverie/reverie/ScalarQuantizer")) (by decide)
  have F_mins_b00 : Fld Z h00 b00 "com/example/reverie/reverie/ScalarQuantizer$Cursor" "mins" "[F" .null := D00 (Or.inr (own_w hw 125 rfl)) (ty := (.array .float)) (by decide)
  have F_cursorScales_b00 : Fld Z h00 b00 "com/example/reverie/reverie/ScalarQuantizer$Cursor" "cursorScales" "[F" .null := D00 (Or.inr (own_w hw 127 rfl)) (ty := (.array .float)) (by decide)
  have F_nextChange_b00 : Fld Z h00 b00 "com/example/reverie/reverie/ScalarQuantizer$Cursor" "nextChange" "I" (.int (0 : Int32)) := D00 (Or.inl (own_w hw 140 rfl)) (ty := .int) (by decide)
  refine own_by st00 ?_
  have sg5 : ∀ t, own_S p e below T00 (mkF m 5 #[.val (.ref a2)] [(.ref a2), (.ref b00), (.ref b00)]) t → own_S p e below T00 (mkF m 3 #[.val (.ref a2)] [(.ref b00)]) t := by
    intro t k
    refine XS.dup X00.here hx rfl (hb hby d16_3) rfl rfl ?_
    show own_S p e below T00 (mkF m 4 #[.val (.ref a2)] [(.ref b00), (.ref b00)]) _
    refine XS.aloadN X00.here hx rfl (hb hby d16_4) rfl rfl ?_
    exact k
  refine own_by sg5 ?_
  have QQe := QQ.keep K00 (fun _ _ => List.not_mem_nil)
  obtain ⟨_, _, ⟨T5, L5, k5, n5⟩, -, X5, ⟨Lc5, hQ5, l5, y5, z5⟩, st5⟩ := (Jvm.Free.SCall.of_ready hx (y := (⟨"com/example/reverie/reverie/ScalarQuantizer$Cursor", "<init>", "(Lcom/example/reverie/reverie/ScalarQuantizer;)V"⟩ : MethodName)) rfl (mvT hZ (own_w hw 118 rfl)) (mvT hZ (own_w hw 119 rfl)) (fun U r hW hn => own_ready e hown (own_mref hZ (own_w hw 118 rfl) (by decide) (own_w hw 117 rfl) (args := #[(.ref a2)])) (by decide) U r hW hn)) X00 (backOf (W := 1) (rm17 l Z a0 hw [] b00 a2 tl th ts sl sh ss cS cD cL cH cC n l0 l1 u0 u1 s0 s1 hist h00 n0 Z00 A00 F_this_0_b00 F_mins_b00 F_cursorScales_b00 F_nextChange_b00 QQe g_b00) hZ (own_w hw 119 rfl) (own_w hw 116 rfl) (by decide) (by decide)) (g := (mkF m 5 #[.val (.ref a2)] [(.ref a2), (.ref b00), (.ref b00)])) rfl (by rw [hml]; rfl) (Steps.refl _) (a := b00) (argsL := [(.ref a2)]) (rest := [(.ref b00)]) (lenOf pd_16_0 rfl) rfl (by show 2 * 0 + _ ≤ _; exact Nat.le_of_eq rfl) (hb hby d16_5) (fun _ _ => ⟨rfl, e00, (by decide : 1 + 2 ≤ _), (by decide : 4 + 4 ≤ _)⟩)
  dsimp only [Pt.U, Pt.locs, Pt.cells, Pt.slots] at X5 l5 y5 z5 st5 hQ5
  subst l5 y5 z5
  obtain ⟨rfl, N5q, Kq5, mi, sc, kmi, ksc, ge1, ge2, nms, hcur⟩ := hQ5
  have N5 := Fr.app N0 N5q
  have ge1' := Nat.le_trans K00.1 ge1
  have ge2' := Nat.le_trans K00.1 ge2
  have K5 : Keep h0 T5.heap [] := K00.trans Kq5 (fun x hx => by cases List.mem_singleton.mp hx; exact (Or.inr sz_b00))
  have Z5 : n0 ≤ T5.heap.size := Nat.le_trans Z00 Kq5.1
  refine own_by (fun t k => st5.trans k) ?_
  obtain ⟨fs, hr, hrun, hended, hW, hsame⟩ := X5.leave (v := some (.ref b00)) (fun h => by rw [Bd.returns] at h; cases h)
  refine ⟨_, _, ?_, hrun, hended, _, _, rfl, ?_, ⟨_, rfl⟩, hW, hsame.mono (by decide) (by decide)⟩
  · show Steps p.tables e below (T5.setTop (mkF m 8 #[.val (.ref a2)] [(.ref b00)])) _
    jvm_step X5.here [X5.here.top, hx, (hb hby d16_8), X5.method', Bd.returns, Value.isRef, FieldType.isReference]
    first | (intro acts; rw [hr _ acts rfl rfl rfl]) | rw [hr _ _ rfl rfl rfl]
    exact Steps.refl _
  · show Q16 Z a2 tl th ts sl sh ss cS cD cL cH cC n l0 l1 u0 u1 s0 s1 hist h0 n0 _ T5.heap _
    exact ⟨b00, mi, sc, kmi, ksc, rfl, sz_b00, ge1', ge2', nms, N5, K5, hcur⟩
theorem d18_0 : decode prog_34_method_4_code 0 = .ok (.aload_n 0, 1) := by decide +kernel
theorem d18_1 : decode prog_34_method_4_code 1 = .ok (.getfield 38, 3) := by decide +kernel
theorem d18_4 : decode prog_34_method_4_code 4 = .ok (.aload_n 0, 1) := by decide +kernel
theorem d18_5 : decode prog_34_method_4_code 5 = .ok (.getfield 1, 3) := by decide +kernel
theorem d18_8 : decode prog_34_method_4_code 8 = .ok (.getfield 44, 3) := by decide +kernel
theorem d18_11 : decode prog_34_method_4_code 11 = .ok (.if_icmp .ge 81, 3) := by decide +kernel
theorem d18_14 : decode prog_34_method_4_code 14 = .ok (.aload_n 0, 1) := by decide +kernel
theorem d18_15 : decode prog_34_method_4_code 15 = .ok (.getfield 1, 3) := by decide +kernel
theorem d18_18 : decode prog_34_method_4_code 18 = .ok (.getfield 47, 3) := by decide +kernel
theorem d18_21 : decode prog_34_method_4_code 21 = .ok (.aload_n 0, 1) := by decide +kernel
theorem d18_22 : decode prog_34_method_4_code 22 = .ok (.getfield 38, 3) := by decide +kernel
theorem d18_25 : decode prog_34_method_4_code 25 = .ok (.iaload, 1) := by decide +kernel
theorem d18_26 : decode prog_34_method_4_code 26 = .ok (.iload_n 1, 1) := by decide +kernel
theorem d18_27 : decode prog_34_method_4_code 27 = .ok (.if_icmp .gt 65, 3) := by decide +kernel
theorem d18_30 : decode prog_34_method_4_code 30 = .ok (.aload_n 0, 1) := by decide +kernel
theorem d18_31 : decode prog_34_method_4_code 31 = .ok (.getfield 1, 3) := by decide +kernel
theorem d18_34 : decode prog_34_method_4_code 34 = .ok (.getfield 51, 3) := by decide +kernel
theorem d18_37 : decode prog_34_method_4_code 37 = .ok (.aload_n 0, 1) := by decide +kernel
theorem d18_38 : decode prog_34_method_4_code 38 = .ok (.getfield 38, 3) := by decide +kernel
theorem d18_41 : decode prog_34_method_4_code 41 = .ok (.iaload, 1) := by decide +kernel
theorem d18_42 : decode prog_34_method_4_code 42 = .ok (.istore_n 2, 1) := by decide +kernel
theorem d18_43 : decode prog_34_method_4_code 43 = .ok (.aload_n 0, 1) := by decide +kernel
theorem d18_44 : decode prog_34_method_4_code 44 = .ok (.getfield 19, 3) := by decide +kernel
theorem d18_47 : decode prog_34_method_4_code 47 = .ok (.iload_n 2, 1) := by decide +kernel
theorem d18_48 : decode prog_34_method_4_code 48 = .ok (.aload_n 0, 1) := by decide +kernel
theorem d18_49 : decode prog_34_method_4_code 49 = .ok (.getfield 1, 3) := by decide +kernel
theorem d18_52 : decode prog_34_method_4_code 52 = .ok (.getfield 54, 3) := by decide +kernel
theorem d18_55 : decode prog_34_method_4_code 55 = .ok (.aload_n 0, 1) := by decide +kernel
theorem d18_56 : decode prog_34_method_4_code 56 = .ok (.getfield 38, 3) := by decide +kernel
theorem d18_59 : decode prog_34_method_4_code 59 = .ok (.faload, 1) := by decide +kernel
theorem d18_60 : decode prog_34_method_4_code 60 = .ok (.fastore, 1) := by decide +kernel
theorem d18_61 : decode prog_34_method_4_code 61 = .ok (.aload_n 0, 1) := by decide +kernel
theorem d18_62 : decode prog_34_method_4_code 62 = .ok (.getfield 23, 3) := by decide +kernel
theorem d18_65 : decode prog_34_method_4_code 65 = .ok (.iload_n 2, 1) := by decide +kernel
theorem d18_66 : decode prog_34_method_4_code 66 = .ok (.aload_n 0, 1) := by decide +kernel
theorem d18_67 : decode prog_34_method_4_code 67 = .ok (.getfield 1, 3) := by decide +kernel
theorem d18_70 : decode prog_34_method_4_code 70 = .ok (.getfield 57, 3) := by decide +kernel
theorem d18_73 : decode prog_34_method_4_code 73 = .ok (.aload_n 0, 1) := by decide +kernel
theorem d18_74 : decode prog_34_method_4_code 74 = .ok (.getfield 38, 3) := by decide +kernel
theorem d18_77 : decode prog_34_method_4_code 77 = .ok (.faload, 1) := by decide +kernel
theorem d18_78 : decode prog_34_method_4_code 78 = .ok (.fastore, 1) := by decide +kernel
theorem d18_79 : decode prog_34_method_4_code 79 = .ok (.aload_n 0, 1) := by decide +kernel
theorem d18_80 : decode prog_34_method_4_code 80 = .ok (.dup, 1) := by decide +kernel
theorem d18_81 : decode prog_34_method_4_code 81 = .ok (.getfield 38, 3) := by decide +kernel
theorem d18_84 : decode prog_34_method_4_code 84 = .ok (.iconst 1, 1) := by decide +kernel
theorem d18_85 : decode prog_34_method_4_code 85 = .ok (.iadd, 1) := by decide +kernel
theorem d18_86 : decode prog_34_method_4_code 86 = .ok (.putfield 38, 3) := by decide +kernel
theorem d18_89 : decode prog_34_method_4_code 89 = .ok (.goto (-89), 3) := by decide +kernel
theorem d18_92 : decode prog_34_method_4_code 92 = .ok (.return_, 1) := by decide +kernel
theorem pn_18 : plainFor (⟨"com/example/reverie/reverie/ScalarQuantizer$Cursor", "moveTo", "(I)V"⟩ : MethodName) = true := by first | exact plainFor_of_name (by first | (simp [plainName, overriddenIn]; done) | decide +kernel) | decide +kernel | exact Jvm.Free.JP.mathPlain rfl (by decide +kernel)
theorem ef_18 (m : MethodId) (a1 : Addr) : entryFrame m #[(.ref a1), (.int (2 : Int32))] 3 = mkF m 0 #[.val (.ref a1), .val (.int (2 : Int32)), .unset] [] := by first | (simp [entryFrame, mkF, argsToLocals, Value.category]; done) | rfl
def Q18 (Z : State) (a1 : Addr) (a2 : Addr) (tl : Addr) (th : Addr) (ts : Addr) (sl : Addr) (sh : Addr) (ss : Addr) (cS : Addr) (cD : Addr) (cL : Addr) (cH : Addr) (cC : Addr) (n : Int32) (l0 : UInt32) (l1 : UInt32) (u0 : UInt32) (u1 : UInt32) (s0 : UInt32) (s1 : UInt32) (hist : List own_E) (mi : Addr) (sc : Addr) (kmi : ClassId) (ksc : ClassId) (h0 : Heap) (n0 : Nat) (v : Option Value) (h : Heap) (L : List Loc) : Prop := v = none ∧ Fr n0 L ∧ Keep h0 h [a1, mi, sc] ∧ ∃ m0 m1 c0 c1 x0 x1 : UInt32, own_last (0 : Int32) hist = (m0, x0, c0) ∧ own_last (1 : Int32) hist = (m1, x1, c1) ∧ Exa Z h a1 "com/example/reverie/reverie/ScalarQuantizer$Cursor" ∧ Fld Z h a1 "com/example/reverie/reverie/ScalarQuantizer$Cursor" "this$0" "Lcom/example/reverie/reverie/ScalarQuantizer;" (.ref a2) ∧ Fld Z h a1 "com/example/reverie/reverie/ScalarQuantizer$Cursor" "mins" "[F" (.ref mi) ∧ Fld Z h a1 "com/example/reverie/reverie/ScalarQuantizer$Cursor" "cursorScales" "[F" (.ref sc) ∧ Fld Z h a1 "com/example/reverie/reverie/ScalarQuantizer$Cursor" "nextChange" "I" (.int (Int32.ofNat hist.length)) ∧ Arv Z h mi kmi .float (2 : Int32) [(.float m0), (.float m1)] (.float (0 : UInt32)) ∧ Arv Z h sc ksc .float (2 : Int32) [(.float c0), (.float c1)] (.float (0 : UInt32))
set_option maxRecDepth 65536 in
set_option maxHeartbeats 40000000 in
theorem rm18 (l : Launch) (Z : State) (a0 : Array Value) (hw : ∀ d ∈ tables_1, d.before a0 Z = true) (ws : List Jvm.Cond) (a1 : Addr) (a2 : Addr) (tl : Addr) (th : Addr) (ts : Addr) (sl : Addr) (sh : Addr) (ss : Addr) (cS : Addr) (cD : Addr) (cL : Addr) (cH : Addr) (cC : Addr) (n : Int32) (l0 : UInt32) (l1 : UInt32) (u0 : UInt32) (u1 : UInt32) (s0 : UInt32) (s1 : UInt32) (hist : List own_E) (mi : Addr) (sc : Addr) (kmi : ClassId) (ksc : ClassId) (h0 : Heap) (n0 : Nat) (Z0 : n0 ≤ h0.size) (QQ : own_Q Z h0 a2 tl th ts sl sh ss cS cD cL cH cC n l0 l1 u0 u1 s0 s1 hist) (hl : hist.length < 16) (hdm : own_dm hist) (hst : ∀ e ∈ hist, ¬ (2 : Int32) < e.1) (hcu : Exa Z h0 a1 "com/example/reverie/reverie/ScalarQuantizer$Cursor" ∧ Fld Z h0 a1 "com/example/reverie/reverie/ScalarQuantizer$Cursor" "this$0" "Lcom/example/reverie/reverie/ScalarQuantizer;" (.ref a2) ∧ Fld Z h0 a1 "com/example/reverie/reverie/ScalarQuantizer$Cursor" "mins" "[F" (.ref mi) ∧ Fld Z h0 a1 "com/example/reverie/reverie/ScalarQuantizer$Cursor" "cursorScales" "[F" (.ref sc) ∧ Fld Z h0 a1 "com/example/reverie/reverie/ScalarQuantizer$Cursor" "nextChange" "I" (.int (0 : Int32)) ∧ Arv Z h0 mi kmi .float (2 : Int32) [(.float (2139095040 : UInt32)), (.float (2139095040 : UInt32))] (.float (0 : UInt32)) ∧ Arv Z h0 sc ksc .float (2 : Int32) [(.float (0 : UInt32)), (.float (0 : UInt32))] (.float (0 : UInt32))) (nms : mi ≠ sc) (apq : ∀ x ∈ [a2, tl, th, ts, sl, sh, ss, cS, cD, cL, cH, cC], x ∉ [a1, mi, sc]) (g_a1 : n0 ≤ a1) (g_mi : n0 ≤ mi) (g_sc : n0 ≤ sc) :
    MetFree l (⟨"com/example/reverie/reverie/ScalarQuantizer$Cursor", "moveTo", "(I)V"⟩ : MethodName) (head1 (Jvm.Cond.code (⟨"com/example/reverie/reverie/ScalarQuantizer$Cursor", "moveTo", "(I)V"⟩ : MethodName) prog_34_method_4_code 3 none :: ws) ({ frames := 0, cells := 0, slots := 0, locals := 0 } : Room)) (fun a U => a = #[(.ref a1), (.int (2 : Int32))] ∧ Z.Warmed39 U.vm ∧ U.heap = h0) (fun _ _ _ _ _ => True) (fun _ U o U' => ∃ v L, o = .returned v ∧ Q18 Z a1 a2 tl th ts sl sh ss cS cD cL cH cC n l0 l1 u0 u1 s0 s1 hist mi sc kmi ksc h0 n0 v U'.heap L ∧ FrameEnd U o U' L ({ frames := 0, cells := 0, slots := 0, locals := 0 } : Room).cells ({ frames := 0, cells := 0, slots := 0, locals := 0 } : Room).slots) := by
  refine MetFree.of_bodySF pn_18 hisR ?_
  intro p e s m args below meth c s₁ Bd hml0 hP hK
  obtain ⟨rfl, hZ, hh⟩ := hP
  have hx := Bd.exec
  have hby := Bd.bytes
  have hml : c.maxLocals = 3 := hml0
  have hown : s.vm.findClass "com/example/reverie/reverie/ScalarQuantizer$Cursor" = some m.cls := findClass_of_methodNamed Bd.named
  have hnm := (name_of_methodNamed Bd.named Bd.method).1
  have X0 : Stand p l e ({ frames := 0, cells := 0, slots := 0, locals := 0 } : Room) s m #[(.ref a1), (.int (2 : Int32))] below meth c s₁ [] 0 0 := Stand.of_body Bd
  have e0 : s₁.heap = h0 := by rw [← hh, Bd.state]; rfl
  have N0 := Fr.nil n0
  refine own_at (castTop (ef_18 m a1)) ?_
  obtain ⟨E_c, F_this, F_mins, F_csc, F_nc, A_mi, A_sc⟩ := id hcu
  have n_a1_mi : a1 ≠ mi := E_c.neArv A_mi (own_w hw 115 rfl)
  have n_a1_sc : a1 ≠ sc := E_c.neArv A_sc (own_w hw 115 rfl)
  have n_a1_a2 : a1 ≠ a2 := fun q => own_nml apq (i := 0) rfl (q ▸ List.mem_of_getElem? (i := 0) rfl)
  have n_a1_tl : a1 ≠ tl := fun q => own_nml apq (i := 1) rfl (q ▸ List.mem_of_getElem? (i := 0) rfl)
  have n_a1_th : a1 ≠ th := fun q => own_nml apq (i := 2) rfl (q ▸ List.mem_of_getElem? (i := 0) rfl)
  have n_a1_ts : a1 ≠ ts := fun q => own_nml apq (i := 3) rfl (q ▸ List.mem_of_getElem? (i := 0) rfl)
  have n_a1_sl : a1 ≠ sl := fun q => own_nml apq (i := 4) rfl (q ▸ List.mem_of_getElem? (i := 0) rfl)
  have n_a1_sh : a1 ≠ sh := fun q => own_nml apq (i := 5) rfl (q ▸ List.mem_of_getElem? (i := 0) rfl)
  have n_a1_ss : a1 ≠ ss := fun q => own_nml apq (i := 6) rfl (q ▸ List.mem_of_getElem? (i := 0) rfl)
  have n_a1_cS : a1 ≠ cS := fun q => own_nml apq (i := 7) rfl (q ▸ List.mem_of_getElem? (i := 0) rfl)
  have n_a1_cD : a1 ≠ cD := fun q => own_nml apq (i := 8) rfl (q ▸ List.mem_of_getElem? (i := 0) rfl)
  have n_a1_cL : a1 ≠ cL := fun q => own_nml apq (i := 9) rfl (q ▸ List.mem_of_getElem? (i := 0) rfl)
  have n_a1_cH : a1 ≠ cH := fun q => own_nml apq (i := 10) rfl (q ▸ List.mem_of_getElem? (i := 0) rfl)
  have n_a1_cC : a1 ≠ cC := fun q => own_nml apq (i := 11) rfl (q ▸ List.mem_of_getElem? (i := 0) rfl)
  have n_mi_a2 : mi ≠ a2 := fun q => own_nml apq (i := 0) rfl (q ▸ List.mem_of_getElem? (i := 1) rfl)
  have n_mi_tl : mi ≠ tl := fun q => own_nml apq (i := 1) rfl (q ▸ List.mem_of_getElem? (i := 1) rfl)
  have n_mi_th : mi ≠ th := fun q => own_nml apq (i := 2) rfl (q ▸ List.mem_of_getElem? (i := 1) rfl)
  have n_mi_ts : mi ≠ ts := fun q => own_nml apq (i := 3) rfl (q ▸ List.mem_of_getElem? (i := 1) rfl)
  have n_mi_sl : mi ≠ sl := fun q => own_nml apq (i := 4) rfl (q ▸ List.mem_of_getElem? (i := 1) rfl)
  have n_mi_sh : mi ≠ sh := fun q => own_nml apq (i := 5) rfl (q ▸ List.mem_of_getElem? (i := 1) rfl)
  have n_mi_ss : mi ≠ ss := fun q => own_nml apq (i := 6) rfl (q ▸ List.mem_of_getElem? (i := 1) rfl)
  have n_mi_cS : mi ≠ cS := fun q => own_nml apq (i := 7) rfl (q ▸ List.mem_of_getElem? (i := 1) rfl)
  have n_mi_cD : mi ≠ cD := fun q => own_nml apq (i := 8) rfl (q ▸ List.mem_of_getElem? (i := 1) rfl)
  have n_mi_cL : mi ≠ cL := fun q => own_nml apq (i := 9) rfl (q ▸ List.mem_of_getElem? (i := 1) rfl)
  have n_mi_cH : mi ≠ cH := fun q => own_nml apq (i := 10) rfl (q ▸ List.mem_of_getElem? (i := 1) rfl)
  have n_mi_cC : mi ≠ cC := fun q => own_nml apq (i := 11) rfl (q ▸ List.mem_of_getElem? (i := 1) rfl)
  have n_sc_a2 : sc ≠ a2 := fun q => own_nml apq (i := 0) rfl (q ▸ List.mem_of_getElem? (i := 2) rfl)
  have n_sc_tl : sc ≠ tl := fun q => own_nml apq (i := 1) rfl (q ▸ List.mem_of_getElem? (i := 2) rfl)
  have n_sc_th : sc ≠ th := fun q => own_nml apq (i := 2) rfl (q ▸ List.mem_of_getElem? (i := 2) rfl)
  have n_sc_ts : sc ≠ ts := fun q => own_nml apq (i := 3) rfl (q ▸ List.mem_of_getElem? (i := 2) rfl)
  have n_sc_sl : sc ≠ sl := fun q => own_nml apq (i := 4) rfl (q ▸ List.mem_of_getElem? (i := 2) rfl)
  have n_sc_sh : sc ≠ sh := fun q => own_nml apq (i := 5) rfl (q ▸ List.mem_of_getElem? (i := 2) rfl)
  have n_sc_ss : sc ≠ ss := fun q => own_nml apq (i := 6) rfl (q ▸ List.mem_of_getElem? (i := 2) rfl)
  have n_sc_cS : sc ≠ cS := fun q => own_nml apq (i := 7) rfl (q ▸ List.mem_of_getElem? (i := 2) rfl)
  have n_sc_cD : sc ≠ cD := fun q => own_nml apq (i := 8) rfl (q ▸ List.mem_of_getElem? (i := 2) rfl)
  have n_sc_cL : sc ≠ cL := fun q => own_nml apq (i := 9) rfl (q ▸ List.mem_of_getElem? (i := 2) rfl)
  have n_sc_cH : sc ≠ cH := fun q => own_nml apq (i := 10) rfl (q ▸ List.mem_of_getElem? (i := 2) rfl)
  have n_sc_cC : sc ≠ cC := fun q => own_nml apq (i := 11) rfl (q ▸ List.mem_of_getElem? (i := 2) rfl)
  have K0 := Keep.refl h0 [a1, mi, sc]
  have outer : ∀ (rest : List own_E) (done : List own_E) (m0 m1 c0 c1 x0 x1 : UInt32) (nc : Int32) (T : State) (L : List Loc) (H : Heap) (x2 : Slot), hist = done ++ rest → nc = Int32.ofNat done.length → own_last (0 : Int32) done = (m0, x0, c0) → own_last (1 : Int32) done = (m1, x1, c1) → Stand p l e ({ frames := 0, cells := 0, slots := 0, locals := 0 } : Room) s m #[(.ref a1), (.int (2 : Int32))] below meth c T L 0 0 → Fr n0 L → T.heap = H → Keep h0 H [a1, mi, sc] → n0 ≤ H.size → (Exa Z H a1 "com/example/reverie/reverie/ScalarQuantizer$Cursor" ∧ Fld Z H a1 "com/example/reverie/reverie/ScalarQuantizer$Cursor" "this$0" "Lcom/example/reverie/reverie/ScalarQuantizer;" (.ref a2) ∧ Fld Z H a1 "com/example/reverie/reverie/ScalarQuantizer$Cursor" "mins" "[F" (.ref mi) ∧ Fld Z H a1 "com/example/reverie/reverie/ScalarQuantizer$Cursor" "cursorScales" "[F" (.ref sc) ∧ Fld Z H a1 "com/example/reverie/reverie/ScalarQuantizer$Cursor" "nextChange" "I" (.int nc) ∧ Arv Z H mi kmi .float (2 : Int32) [(.float m0), (.float m1)] (.float (0 : UInt32)) ∧ Arv Z H sc ksc .float (2 : Int32) [(.float c0), (.float c1)] (.float (0 : UInt32))) → own_one x2 → ∃ (T' : State) (L' : List Loc) (H' : Heap) (m0 m1 c0 c1 x0 x1 : UInt32) (y2 : Slot), own_last (0 : Int32) hist = (m0, x0, c0) ∧ own_last (1 : Int32) hist = (m1, x1, c1) ∧ Stand p l e ({ frames := 0, cells := 0, slots := 0, locals := 0 } : Room) s m #[(.ref a1), (.int (2 : Int32))] below meth c T' L' 0 0 ∧ Fr n0 L' ∧ T'.heap = H' ∧ Keep h0 H' [a1, mi, sc] ∧ (Exa Z H' a1 "com/example/reverie/reverie/ScalarQuantizer$Cursor" ∧ Fld Z H' a1 "com/example/reverie/reverie/ScalarQuantizer$Cursor" "this$0" "Lcom/example/reverie/reverie/ScalarQuantizer;" (.ref a2) ∧ Fld Z H' a1 "com/example/reverie/reverie/ScalarQuantizer$Cursor" "mins" "[F" (.ref mi) ∧ Fld Z H' a1 "com/example/reverie/reverie/ScalarQuantizer$Cursor" "cursorScales" "[F" (.ref sc) ∧ Fld Z H' a1 "com/example/reverie/reverie/ScalarQuantizer$Cursor" "nextChange" "I" (.int (Int32.ofNat hist.length)) ∧ Arv Z H' mi kmi .float (2 : Int32) [(.float m0), (.float m1)] (.float (0 : UInt32)) ∧ Arv Z H' sc ksc .float (2 : Int32) [(.float c0), (.float c1)] (.float (0 : UInt32))) ∧ ∀ t, own_S p e below T' (mkF m 92 #[.val (.ref a1), .val (.int (2 : Int32)), y2] []) t → own_S p e below T (mkF m 0 #[.val (.ref a1), .val (.int (2 : Int32)), x2] []) t := by
    intro rest
    induction rest with
    | nil =>
      intro done m0 m1 c0 c1 x0 x1 nc T L H x2 hd hnc hI0 hI1 X NL eT KH ZH hcu o2
      obtain ⟨E_c, F_this, F_mins, F_csc, F_nc, A_mi, A_sc⟩ := id hcu
      have QH := QQ.keep KH apq
      obtain ⟨ktl, kth, kts, ksl, ksh, kss, kcS, kcD, kcL, kcH, kcC, g1, g2, g3, g4, g5, ND, ⟨G1, G2, G3, G4, G5⟩, E_q, F_dim, F_tl, F_th, F_ts, F_sl, F_sh, F_ss, F_cS, F_cD, F_cL, F_cH, F_cC, F_ec, F_cc, A_tl, A_th, A_ts, A_sl, A_sh, A_ss, A_cS, A_cD, A_cL, A_cH, A_cC⟩ := id QH
      have n_a2_tl : a2 ≠ tl := E_q.neArv A_tl (own_w hw 7 rfl)
      have n_a2_th : a2 ≠ th := E_q.neArv A_th (own_w hw 7 rfl)
      have n_a2_ts : a2 ≠ ts := E_q.neArv A_ts (own_w hw 7 rfl)
      have n_a2_sl : a2 ≠ sl := E_q.neArv A_sl (own_w hw 7 rfl)
      have n_a2_sh : a2 ≠ sh := E_q.neArv A_sh (own_w hw 7 rfl)
      have n_a2_ss : a2 ≠ ss := E_q.neArv A_ss (own_w hw 7 rfl)
      have n_a2_cS : a2 ≠ cS := E_q.neArv A_cS (own_w hw 7 rfl)
      have n_a2_cD : a2 ≠ cD := E_q.neArv A_cD (own_w hw 7 rfl)
      have n_a2_cL : a2 ≠ cL := E_q.neArv A_cL (own_w hw 7 rfl)
      have n_a2_cH : a2 ≠ cH := E_q.neArv A_cH (own_w hw 7 rfl)
      have n_a2_cC : a2 ≠ cC := E_q.neArv A_cC (own_w hw 7 rfl)
      obtain ⟨kk, hkk⟩ : ∃ z : Int32, z = Int32.ofNat hist.length := ⟨_, rfl⟩
      rw [← hkk] at F_cc
      have sg1 : ∀ t, own_S p e below T (mkF m 1 #[.val (.ref a1), .val (.int (2 : Int32)), x2] [(.ref a1)]) t → own_S p e below T (mkF m 0 #[.val (.ref a1), .val (.int (2 : Int32)), x2] []) t := by
        intro t k
        refine XS.aloadN X.here hx rfl (hb hby d18_0) rfl rfl ?_
        exact k
      obtain ⟨T1, X1, e1, st1⟩ := getF X hx hZ hown (host := "") (Or.inl (own_w hw 139 rfl)) Via.refl eT F_nc (g := (mkF m 1 #[.val (.ref a1), .val (.int (2 : Int32)), x2] [(.ref a1)])) rfl rfl (hb hby d18_1)
      have sg5 : ∀ t, own_S p e below T1 (mkF m 5 #[.val (.ref a1), .val (.int (2 : Int32)), x2] [(.ref a1), (.int nc)]) t → own_S p e below T1 (mkF m 4 #[.val (.ref a1), .val (.int (2 : Int32)), x2] [(.int nc)]) t := by
        intro t k
        refine XS.aloadN X1.here hx rfl (hb hby d18_4) rfl rfl ?_
        exact k
      obtain ⟨T5, X5, e5, st5⟩ := getF X1 hx hZ hown (host := "") (Or.inl (own_w hw 120 rfl)) Via.refl e1 F_this (g := (mkF m 5 #[.val (.ref a1), .val (.int (2 : Int32)), x2] [(.ref a1), (.int nc)])) rfl rfl (hb hby d18_5)
      obtain ⟨T8, X8, e8, st8⟩ := getF X5 hx hZ hown (Or.inr (own_w hw 141 rfl)) Via.refl e5 F_cc (g := (mkF m 8 #[.val (.ref a1), .val (.int (2 : Int32)), x2] [(.ref a2), (.int nc)])) rfl rfl (hb hby d18_8)
      have sg92 : ∀ t, own_S p e below T8 (mkF m 92 #[.val (.ref a1), .val (.int (2 : Int32)), x2] []) t → own_S p e below T8 (mkF m 11 #[.val (.ref a1), .val (.int (2 : Int32)), x2] [(.int kk), (.int nc)]) t := by
        intro t k
        refine XS.icmpYes X8.here hx rfl (pc0 := 11) (pc' := 92) rfl (hb hby d18_11) rfl (flt (by rw [hkk, hnc]; exact own_ofnlt (by rw [hd]; simp) : ¬ (nc < kk))).2.1 (by decide) (by decide) ?_
        exact k
      have hdn : hist = done := by rw [hd]; simp
      exact ⟨T8, _, _, m0, m1, c0, c1, x0, x1, _, (by rw [hdn]; exact hI0), (by rw [hdn]; exact hI1), X8, NL, e8, KH, (by rw [hdn, ← hnc]; exact ⟨E_c, F_this, F_mins, F_csc, F_nc, A_mi, A_sc⟩), fun t k => (sg1 t (st1 t (sg5 t (st5 t (st8 t (sg92 t k))))))⟩
    | cons ee rest ih =>
      intro done m0 m1 c0 c1 x0 x1 nc T L H x2 hd hnc hI0 hI1 X NL eT KH ZH hcu o2
      obtain ⟨E_c, F_this, F_mins, F_csc, F_nc, A_mi, A_sc⟩ := id hcu
      have QH := QQ.keep KH apq
      obtain ⟨ktl, kth, kts, ksl, ksh, kss, kcS, kcD, kcL, kcH, kcC, g1, g2, g3, g4, g5, ND, ⟨G1, G2, G3, G4, G5⟩, E_q, F_dim, F_tl, F_th, F_ts, F_sl, F_sh, F_ss, F_cS, F_cD, F_cL, F_cH, F_cC, F_ec, F_cc, A_tl, A_th, A_ts, A_sl, A_sh, A_ss, A_cS, A_cD, A_cL, A_cH, A_cC⟩ := id QH
      have n_a2_tl : a2 ≠ tl := E_q.neArv A_tl (own_w hw 7 rfl)
      have n_a2_th : a2 ≠ th := E_q.neArv A_th (own_w hw 7 rfl)
      have n_a2_ts : a2 ≠ ts := E_q.neArv A_ts (own_w hw 7 rfl)
      have n_a2_sl : a2 ≠ sl := E_q.neArv A_sl (own_w hw 7 rfl)
      have n_a2_sh : a2 ≠ sh := E_q.neArv A_sh (own_w hw 7 rfl)
      have n_a2_ss : a2 ≠ ss := E_q.neArv A_ss (own_w hw 7 rfl)
      have n_a2_cS : a2 ≠ cS := E_q.neArv A_cS (own_w hw 7 rfl)
      have n_a2_cD : a2 ≠ cD := E_q.neArv A_cD (own_w hw 7 rfl)
      have n_a2_cL : a2 ≠ cL := E_q.neArv A_cL (own_w hw 7 rfl)
      have n_a2_cH : a2 ≠ cH := E_q.neArv A_cH (own_w hw 7 rfl)
      have n_a2_cC : a2 ≠ cC := E_q.neArv A_cC (own_w hw 7 rfl)
      obtain ⟨kk, hkk⟩ : ∃ z : Int32, z = Int32.ofNat hist.length := ⟨_, rfl⟩
      rw [← hkk] at F_cc
      obtain ⟨es, ed, el, eh, ec⟩ := ee
      have hq : hist[done.length]? = some (es, ed, el, eh, ec) := by rw [hd]; simp
      have hll : done.length < hist.length := (List.getElem?_eq_some_iff.mp hq).1
      have hmem : (es, ed, el, eh, ec) ∈ hist := List.mem_of_getElem? hq
      have sg1 : ∀ t, own_S p e below T (mkF m 1 #[.val (.ref a1), .val (.int (2 : Int32)), x2] [(.ref a1)]) t → own_S p e below T (mkF m 0 #[.val (.ref a1), .val (.int (2 : Int32)), x2] []) t := by
        intro t k
        refine XS.aloadN X.here hx rfl (hb hby d18_0) rfl rfl ?_
        exact k
      obtain ⟨T1, X1, e1, st1⟩ := getF X hx hZ hown (host := "") (Or.inl (own_w hw 139 rfl)) Via.refl eT F_nc (g := (mkF m 1 #[.val (.ref a1), .val (.int (2 : Int32)), x2] [(.ref a1)])) rfl rfl (hb hby d18_1)
      have sg5 : ∀ t, own_S p e below T1 (mkF m 5 #[.val (.ref a1), .val (.int (2 : Int32)), x2] [(.ref a1), (.int nc)]) t → own_S p e below T1 (mkF m 4 #[.val (.ref a1), .val (.int (2 : Int32)), x2] [(.int nc)]) t := by
        intro t k
        refine XS.aloadN X1.here hx rfl (hb hby d18_4) rfl rfl ?_
        exact k
      obtain ⟨T5, X5, e5, st5⟩ := getF X1 hx hZ hown (host := "") (Or.inl (own_w hw 120 rfl)) Via.refl e1 F_this (g := (mkF m 5 #[.val (.ref a1), .val (.int (2 : Int32)), x2] [(.ref a1), (.int nc)])) rfl rfl (hb hby d18_5)
      obtain ⟨T8, X8, e8, st8⟩ := getF X5 hx hZ hown (Or.inr (own_w hw 141 rfl)) Via.refl e5 F_cc (g := (mkF m 8 #[.val (.ref a1), .val (.int (2 : Int32)), x2] [(.ref a2), (.int nc)])) rfl rfl (hb hby d18_8)
      have sg15 : ∀ t, own_S p e below T8 (mkF m 15 #[.val (.ref a1), .val (.int (2 : Int32)), x2] [(.ref a1)]) t → own_S p e below T8 (mkF m 11 #[.val (.ref a1), .val (.int (2 : Int32)), x2] [(.int kk), (.int nc)]) t := by
        intro t k
        refine XS.icmpNo X8.here hx rfl (hb hby d18_11) rfl (tlt (by rw [hkk, hnc]; exact own_oflt hll hl : nc < kk)).2.1 ?_
        show own_S p e below T8 (mkF m 14 #[.val (.ref a1), .val (.int (2 : Int32)), x2] []) _
        refine XS.aloadN X8.here hx rfl (hb hby d18_14) rfl rfl ?_
        exact k
      obtain ⟨T15, X15, e15, st15⟩ := getF X8 hx hZ hown (host := "") (Or.inl (own_w hw 120 rfl)) Via.refl e8 F_this (g := (mkF m 15 #[.val (.ref a1), .val (.int (2 : Int32)), x2] [(.ref a1)])) rfl rfl (hb hby d18_15)
      obtain ⟨T18, X18, e18, st18⟩ := getF X15 hx hZ hown (Or.inr (own_w hw 142 rfl)) Via.refl e15 F_cS (g := (mkF m 18 #[.val (.ref a1), .val (.int (2 : Int32)), x2] [(.ref a2)])) rfl rfl (hb hby d18_18)
      have sg22 : ∀ t, own_S p e below T18 (mkF m 22 #[.val (.ref a1), .val (.int (2 : Int32)), x2] [(.ref a1), (.ref cS)]) t → own_S p e below T18 (mkF m 21 #[.val (.ref a1), .val (.int (2 : Int32)), x2] [(.ref cS)]) t := by
        intro t k
        refine XS.aloadN X18.here hx rfl (hb hby d18_21) rfl rfl ?_
        exact k
      obtain ⟨T22, X22, e22, st22⟩ := getF X18 hx hZ hown (host := "") (Or.inl (own_w hw 139 rfl)) Via.refl e18 F_nc (g := (mkF m 22 #[.val (.ref a1), .val (.int (2 : Int32)), x2] [(.ref a1), (.ref cS)])) rfl rfl (hb hby d18_22)
      obtain ⟨cl25, Ar25, qa25, Sa25, Na25, Ha25, Ga25⟩ := id A_cS
      have ib25 : ¬ (nc < 0 ∨ cl25.slots.size ≤ nc.toNatClampNeg) := inb_of Sa25 (by rw [hnc]; exact own_of16 (by omega))
      have sg31 : ∀ t, own_S p e below T22 (mkF m 31 #[.val (.ref a1), .val (.int (2 : Int32)), x2] [(.ref a1)]) t → own_S p e below T22 (mkF m 25 #[.val (.ref a1), .val (.int (2 : Int32)), x2] [(.int nc), (.ref cS)]) t := by
        intro t k
        refine X22.iaload hx (j := nc) (v := (.int es)) (by rw [e22]; exact Ar25.1) (State.isArrayOf_alike hZ.alike Ar25.2.1) Ar25.2.2 ib25 (Has.at Ha25 ib25 (own_get _ _ hist _ _ hnc hq (by omega))) (g := (mkF m 25 #[.val (.ref a1), .val (.int (2 : Int32)), x2] [(.int nc), (.ref cS)])) rfl rfl (hb hby d18_25) _ ?_
        show own_S p e below T22 (mkF m 26 #[.val (.ref a1), .val (.int (2 : Int32)), x2] [(.int es)]) _
        refine XS.iloadN X22.here hx rfl (hb hby d18_26) rfl ?_
        show own_S p e below T22 (mkF m 27 #[.val (.ref a1), .val (.int (2 : Int32)), x2] [(.int (2 : Int32)), (.int es)]) _
        refine XS.icmpNo X22.here hx rfl (hb hby d18_27) rfl (flt (hst _ hmem : ¬ ((2 : Int32) < es))).2.2.1 ?_
        show own_S p e below T22 (mkF m 30 #[.val (.ref a1), .val (.int (2 : Int32)), x2] []) _
        refine XS.aloadN X22.here hx rfl (hb hby d18_30) rfl rfl ?_
        exact k
      obtain ⟨T31, X31, e31, st31⟩ := getF X22 hx hZ hown (host := "") (Or.inl (own_w hw 120 rfl)) Via.refl e22 F_this (g := (mkF m 31 #[.val (.ref a1), .val (.int (2 : Int32)), x2] [(.ref a1)])) rfl rfl (hb hby d18_31)
      obtain ⟨T34, X34, e34, st34⟩ := getF X31 hx hZ hown (Or.inr (own_w hw 143 rfl)) Via.refl e31 F_cD (g := (mkF m 34 #[.val (.ref a1), .val (.int (2 : Int32)), x2] [(.ref a2)])) rfl rfl (hb hby d18_34)
      have sg38 : ∀ t, own_S p e below T34 (mkF m 38 #[.val (.ref a1), .val (.int (2 : Int32)), x2] [(.ref a1), (.ref cD)]) t → own_S p e below T34 (mkF m 37 #[.val (.ref a1), .val (.int (2 : Int32)), x2] [(.ref cD)]) t := by
        intro t k
        refine XS.aloadN X34.here hx rfl (hb hby d18_37) rfl rfl ?_
        exact k
      obtain ⟨T38, X38, e38, st38⟩ := getF X34 hx hZ hown (host := "") (Or.inl (own_w hw 139 rfl)) Via.refl e34 F_nc (g := (mkF m 38 #[.val (.ref a1), .val (.int (2 : Int32)), x2] [(.ref a1), (.ref cD)])) rfl rfl (hb hby d18_38)
      obtain ⟨cl41, Ar41, qa41, Sa41, Na41, Ha41, Ga41⟩ := id A_cD
      have ib41 : ¬ (nc < 0 ∨ cl41.slots.size ≤ nc.toNatClampNeg) := inb_of Sa41 (by rw [hnc]; exact own_of16 (by omega))
      have sg42 : ∀ t, own_S p e below T38 (mkF m 42 #[.val (.ref a1), .val (.int (2 : Int32)), x2] [(.int ed)]) t → own_S p e below T38 (mkF m 41 #[.val (.ref a1), .val (.int (2 : Int32)), x2] [(.int nc), (.ref cD)]) t := by
        intro t k
        refine X38.iaload hx (j := nc) (v := (.int ed)) (by rw [e38]; exact Ar41.1) (State.isArrayOf_alike hZ.alike Ar41.2.1) Ar41.2.2 ib41 (Has.at Ha41 ib41 (own_get _ _ hist _ _ hnc hq (by omega))) (g := (mkF m 41 #[.val (.ref a1), .val (.int (2 : Int32)), x2] [(.int nc), (.ref cD)])) rfl rfl (hb hby d18_41) _ ?_
        exact k
      obtain hdd | hdd : ed = (0 : Int32) ∨ ed = (1 : Int32) := hdm _ hmem
      · subst hdd
        have sg44 : ∀ t, own_S p e below T38 (mkF m 44 #[.val (.ref a1), .val (.int (2 : Int32)), .val (.int (0 : Int32))] [(.ref a1)]) t → own_S p e below T38 (mkF m 42 #[.val (.ref a1), .val (.int (2 : Int32)), x2] [(.int (0 : Int32))]) t := by
          intro t k
          refine XS.istoreN X38.here hx rfl (hb hby d18_42) rfl (l' := #[.val (.ref a1), .val (.int (2 : Int32)), .val (.int (0 : Int32))]) (own_sto rfl o2 rfl rfl) ?_
          show own_S p e below T38 (mkF m 43 #[.val (.ref a1), .val (.int (2 : Int32)), .val (.int (0 : Int32))] []) _
          refine XS.aloadN X38.here hx rfl (hb hby d18_43) rfl rfl ?_
          exact k
        obtain ⟨T44, X44, e44, st44⟩ := getF X38 hx hZ hown (host := "") (Or.inl (own_w hw 124 rfl)) Via.refl e38 F_mins (g := (mkF m 44 #[.val (.ref a1), .val (.int (2 : Int32)), .val (.int (0 : Int32))] [(.ref a1)])) rfl rfl (hb hby d18_44)
        have sg49 : ∀ t, own_S p e below T44 (mkF m 49 #[.val (.ref a1), .val (.int (2 : Int32)), .val (.int (0 : Int32))] [(.ref a1), (.int (0 : Int32)), (.ref mi)]) t → own_S p e below T44 (mkF m 47 #[.val (.ref a1), .val (.int (2 : Int32)), .val (.int (0 : Int32))] [(.ref mi)]) t := by
          intro t k
          refine XS.iloadN X44.here hx rfl (hb hby d18_47) rfl ?_
          show own_S p e below T44 (mkF m 48 #[.val (.ref a1), .val (.int (2 : Int32)), .val (.int (0 : Int32))] [(.int (0 : Int32)), (.ref mi)]) _
          refine XS.aloadN X44.here hx rfl (hb hby d18_48) rfl rfl ?_
          exact k
        obtain ⟨T49, X49, e49, st49⟩ := getF X44 hx hZ hown (host := "") (Or.inl (own_w hw 120 rfl)) Via.refl e44 F_this (g := (mkF m 49 #[.val (.ref a1), .val (.int (2 : Int32)), .val (.int (0 : Int32))] [(.ref a1), (.int (0 : Int32)), (.ref mi)])) rfl rfl (hb hby d18_49)
        obtain ⟨T52, X52, e52, st52⟩ := getF X49 hx hZ hown (Or.inr (own_w hw 144 rfl)) Via.refl e49 F_cL (g := (mkF m 52 #[.val (.ref a1), .val (.int (2 : Int32)), .val (.int (0 : Int32))] [(.ref a2), (.int (0 : Int32)), (.ref mi)])) rfl rfl (hb hby d18_52)
        have sg56 : ∀ t, own_S p e below T52 (mkF m 56 #[.val (.ref a1), .val (.int (2 : Int32)), .val (.int (0 : Int32))] [(.ref a1), (.ref cL), (.int (0 : Int32)), (.ref mi)]) t → own_S p e below T52 (mkF m 55 #[.val (.ref a1), .val (.int (2 : Int32)), .val (.int (0 : Int32))] [(.ref cL), (.int (0 : Int32)), (.ref mi)]) t := by
          intro t k
          refine XS.aloadN X52.here hx rfl (hb hby d18_55) rfl rfl ?_
          exact k
        obtain ⟨T56, X56, e56, st56⟩ := getF X52 hx hZ hown (host := "") (Or.inl (own_w hw 139 rfl)) Via.refl e52 F_nc (g := (mkF m 56 #[.val (.ref a1), .val (.int (2 : Int32)), .val (.int (0 : Int32))] [(.ref a1), (.ref cL), (.int (0 : Int32)), (.ref mi)])) rfl rfl (hb hby d18_56)
        obtain ⟨cl59, Ar59, qa59, Sa59, Na59, Ha59, Ga59⟩ := id A_cL
        have ib59 : ¬ (nc < 0 ∨ cl59.slots.size ≤ nc.toNatClampNeg) := inb_of Sa59 (by rw [hnc]; exact own_of16 (by omega))
        have sg60 : ∀ t, own_S p e below T56 (mkF m 60 #[.val (.ref a1), .val (.int (2 : Int32)), .val (.int (0 : Int32))] [(.float el), (.int (0 : Int32)), (.ref mi)]) t → own_S p e below T56 (mkF m 59 #[.val (.ref a1), .val (.int (2 : Int32)), .val (.int (0 : Int32))] [(.int nc), (.ref cL), (.int (0 : Int32)), (.ref mi)]) t := by
          intro t k
          refine X56.faload hx (j := nc) (v := (.float el)) (by rw [e56]; exact Ar59.1) (State.isArrayOf_alike hZ.alike Ar59.2.1) Ar59.2.2 ib59 (Has.at Ha59 ib59 (own_get _ _ hist _ _ hnc hq (by omega))) (g := (mkF m 59 #[.val (.ref a1), .val (.int (2 : Int32)), .val (.int (0 : Int32))] [(.int nc), (.ref cL), (.int (0 : Int32)), (.ref mi)])) rfl rfl (hb hby d18_59) _ ?_
          exact k
        obtain ⟨cl60, Ar60, qa60, Sa60, Na60, Ha60, Ga60⟩ := id A_mi
        obtain ⟨T60, h60, X60, e60, W60, st60⟩ := stF X56 hx hZ e56 Ar60 (j := (0 : Int32)) (inb_of Sa60 ⟨by decide, by decide⟩) (g := (mkF m 60 #[.val (.ref a1), .val (.int (2 : Int32)), .val (.int (0 : Int32))] [(.float el), (.int (0 : Int32)), (.ref mi)])) rfl rfl (hb hby d18_60)
        have V60 : Arv Z h60 mi kmi .float (2 : Int32) [(.float el), (.float m1)] (.float (0 : UInt32)) := by
          have q := Arv.set Ar60 qa60 Sa60 Na60 Ha60 Ga60 rfl W60 0 rfl (Nat.le_of_ble_eq_true rfl)
          exact q
        have K60 : Keep h0 h60 [a1, mi, sc] := KH.wr W60 (Or.inl (List.mem_of_getElem? (i := 1) rfl))
        have Z60 : n0 ≤ h60.size := Nat.le_trans ZH (Keep.of_wr W60).1
        have N60 := Fr.snoc X60 NL g_mi
        have sg62 : ∀ t, own_S p e below T60 (mkF m 62 #[.val (.ref a1), .val (.int (2 : Int32)), .val (.int (0 : Int32))] [(.ref a1)]) t → own_S p e below T60 (mkF m 61 #[.val (.ref a1), .val (.int (2 : Int32)), .val (.int (0 : Int32))] []) t := by
          intro t k
          refine XS.aloadN X60.here hx rfl (hb hby d18_61) rfl rfl ?_
          exact k
        obtain ⟨T62, X62, e62, st62⟩ := getF X60 hx hZ hown (host := "") (Or.inl (own_w hw 126 rfl)) Via.refl e60 (F_csc.other W60 (Or.inl n_a1_mi)) (g := (mkF m 62 #[.val (.ref a1), .val (.int (2 : Int32)), .val (.int (0 : Int32))] [(.ref a1)])) rfl rfl (hb hby d18_62)
        have sg67 : ∀ t, own_S p e below T62 (mkF m 67 #[.val (.ref a1), .val (.int (2 : Int32)), .val (.int (0 : Int32))] [(.ref a1), (.int (0 : Int32)), (.ref sc)]) t → own_S p e below T62 (mkF m 65 #[.val (.ref a1), .val (.int (2 : Int32)), .val (.int (0 : Int32))] [(.ref sc)]) t := by
          intro t k
          refine XS.iloadN X62.here hx rfl (hb hby d18_65) rfl ?_
          show own_S p e below T62 (mkF m 66 #[.val (.ref a1), .val (.int (2 : Int32)), .val (.int (0 : Int32))] [(.int (0 : Int32)), (.ref sc)]) _
          refine XS.aloadN X62.here hx rfl (hb hby d18_66) rfl rfl ?_
          exact k
        obtain ⟨T67, X67, e67, st67⟩ := getF X62 hx hZ hown (host := "") (Or.inl (own_w hw 120 rfl)) Via.refl e62 (F_this.other W60 (Or.inl n_a1_mi)) (g := (mkF m 67 #[.val (.ref a1), .val (.int (2 : Int32)), .val (.int (0 : Int32))] [(.ref a1), (.int (0 : Int32)), (.ref sc)])) rfl rfl (hb hby d18_67)
        obtain ⟨T70, X70, e70, st70⟩ := getF X67 hx hZ hown (Or.inr (own_w hw 145 rfl)) Via.refl e67 (F_cC.other W60 (Or.inl (Ne.symm n_mi_a2))) (g := (mkF m 70 #[.val (.ref a1), .val (.int (2 : Int32)), .val (.int (0 : Int32))] [(.ref a2), (.int (0 : Int32)), (.ref sc)])) rfl rfl (hb hby d18_70)
        have sg74 : ∀ t, own_S p e below T70 (mkF m 74 #[.val (.ref a1), .val (.int (2 : Int32)), .val (.int (0 : Int32))] [(.ref a1), (.ref cC), (.int (0 : Int32)), (.ref sc)]) t → own_S p e below T70 (mkF m 73 #[.val (.ref a1), .val (.int (2 : Int32)), .val (.int (0 : Int32))] [(.ref cC), (.int (0 : Int32)), (.ref sc)]) t := by
          intro t k
          refine XS.aloadN X70.here hx rfl (hb hby d18_73) rfl rfl ?_
          exact k
        obtain ⟨T74, X74, e74, st74⟩ := getF X70 hx hZ hown (host := "") (Or.inl (own_w hw 139 rfl)) Via.refl e70 (F_nc.other W60 (Or.inl n_a1_mi)) (g := (mkF m 74 #[.val (.ref a1), .val (.int (2 : Int32)), .val (.int (0 : Int32))] [(.ref a1), (.ref cC), (.int (0 : Int32)), (.ref sc)])) rfl rfl (hb hby d18_74)
        obtain ⟨cl77, Ar77, qa77, Sa77, Na77, Ha77, Ga77⟩ := id (A_cC.other W60 (Ne.symm n_mi_cC))
        have ib77 : ¬ (nc < 0 ∨ cl77.slots.size ≤ nc.toNatClampNeg) := inb_of Sa77 (by rw [hnc]; exact own_of16 (by omega))
        have sg78 : ∀ t, own_S p e below T74 (mkF m 78 #[.val (.ref a1), .val (.int (2 : Int32)), .val (.int (0 : Int32))] [(.float ec), (.int (0 : Int32)), (.ref sc)]) t → own_S p e below T74 (mkF m 77 #[.val (.ref a1), .val (.int (2 : Int32)), .val (.int (0 : Int32))] [(.int nc), (.ref cC), (.int (0 : Int32)), (.ref sc)]) t := by
          intro t k
          refine X74.faload hx (j := nc) (v := (.float ec)) (by rw [e74]; exact Ar77.1) (State.isArrayOf_alike hZ.alike Ar77.2.1) Ar77.2.2 ib77 (Has.at Ha77 ib77 (own_get _ _ hist _ _ hnc hq (by omega))) (g := (mkF m 77 #[.val (.ref a1), .val (.int (2 : Int32)), .val (.int (0 : Int32))] [(.int nc), (.ref cC), (.int (0 : Int32)), (.ref sc)])) rfl rfl (hb hby d18_77) _ ?_
          exact k
        obtain ⟨cl78, Ar78, qa78, Sa78, Na78, Ha78, Ga78⟩ := id (A_sc.other W60 (Ne.symm nms))
        obtain ⟨T78, h78, X78, e78, W78, st78⟩ := stF X74 hx hZ e74 Ar78 (j := (0 : Int32)) (inb_of Sa78 ⟨by decide, by decide⟩) (g := (mkF m 78 #[.val (.ref a1), .val (.int (2 : Int32)), .val (.int (0 : Int32))] [(.float ec), (.int (0 : Int32)), (.ref sc)])) rfl rfl (hb hby d18_78)
        have V78 : Arv Z h78 sc ksc .float (2 : Int32) [(.float ec), (.float c1)] (.float (0 : UInt32)) := by
          have q := Arv.set Ar78 qa78 Sa78 Na78 Ha78 Ga78 rfl W78 0 rfl (Nat.le_of_ble_eq_true rfl)
          exact q
        have fc := ((F_this.other W60 (Or.inl n_a1_mi)).other W78 (Or.inl n_a1_sc))
        have fc_2 := ((F_mins.other W60 (Or.inl n_a1_mi)).other W78 (Or.inl n_a1_sc))
        have fc_3 := ((F_csc.other W60 (Or.inl n_a1_mi)).other W78 (Or.inl n_a1_sc))
        have fc_4 := ((F_nc.other W60 (Or.inl n_a1_mi)).other W78 (Or.inl n_a1_sc))
        have fc_5 := ((F_tl.other W60 (Or.inl (Ne.symm n_mi_a2))).other W78 (Or.inl (Ne.symm n_sc_a2)))
        have fc_6 := ((F_th.other W60 (Or.inl (Ne.symm n_mi_a2))).other W78 (Or.inl (Ne.symm n_sc_a2)))
        have fc_7 := ((F_ts.other W60 (Or.inl (Ne.symm n_mi_a2))).other W78 (Or.inl (Ne.symm n_sc_a2)))
        have fc_8 := ((F_sl.other W60 (Or.inl (Ne.symm n_mi_a2))).other W78 (Or.inl (Ne.symm n_sc_a2)))
        have fc_9 := ((F_sh.other W60 (Or.inl (Ne.symm n_mi_a2))).other W78 (Or.inl (Ne.symm n_sc_a2)))
        have fc_10 := ((F_ss.other W60 (Or.inl (Ne.symm n_mi_a2))).other W78 (Or.inl (Ne.symm n_sc_a2)))
        have fc_11 := ((F_cS.other W60 (Or.inl (Ne.symm n_mi_a2))).other W78 (Or.inl (Ne.symm n_sc_a2)))
        have fc_12 := ((F_cD.other W60 (Or.inl (Ne.symm n_mi_a2))).other W78 (Or.inl (Ne.symm n_sc_a2)))
        have fc_13 := ((F_cL.other W60 (Or.inl (Ne.symm n_mi_a2))).other W78 (Or.inl (Ne.symm n_sc_a2)))
        have fc_14 := ((F_cH.other W60 (Or.inl (Ne.symm n_mi_a2))).other W78 (Or.inl (Ne.symm n_sc_a2)))
        have fc_15 := ((F_cC.other W60 (Or.inl (Ne.symm n_mi_a2))).other W78 (Or.inl (Ne.symm n_sc_a2)))
        have fc_16 := ((F_cc.other W60 (Or.inl (Ne.symm n_mi_a2))).other W78 (Or.inl (Ne.symm n_sc_a2)))
        have fc_17 := ((A_cS.other W60 (Ne.symm n_mi_cS)).other W78 (Ne.symm n_sc_cS))
        have fc_18 := ((A_cD.other W60 (Ne.symm n_mi_cD)).other W78 (Ne.symm n_sc_cD))
        have fc_19 := ((A_cL.other W60 (Ne.symm n_mi_cL)).other W78 (Ne.symm n_sc_cL))
        have fc_20 := ((A_cH.other W60 (Ne.symm n_mi_cH)).other W78 (Ne.symm n_sc_cH))
        have fc_21 := ((A_cC.other W60 (Ne.symm n_mi_cC)).other W78 (Ne.symm n_sc_cC))
        have K78 : Keep h0 h78 [a1, mi, sc] := K60.wr W78 (Or.inl (List.mem_of_getElem? (i := 2) rfl))
        have Z78 : n0 ≤ h78.size := Nat.le_trans Z60 (Keep.of_wr W78).1
        have N78 := Fr.snoc X78 N60 g_sc
        have sg81 : ∀ t, own_S p e below T78 (mkF m 81 #[.val (.ref a1), .val (.int (2 : Int32)), .val (.int (0 : Int32))] [(.ref a1), (.ref a1)]) t → own_S p e below T78 (mkF m 79 #[.val (.ref a1), .val (.int (2 : Int32)), .val (.int (0 : Int32))] []) t := by
          intro t k
          refine XS.aloadN X78.here hx rfl (hb hby d18_79) rfl rfl ?_
          show own_S p e below T78 (mkF m 80 #[.val (.ref a1), .val (.int (2 : Int32)), .val (.int (0 : Int32))] [(.ref a1)]) _
          refine XS.dup X78.here hx rfl (hb hby d18_80) rfl rfl ?_
          exact k
        obtain ⟨T81, X81, e81, st81⟩ := getF X78 hx hZ hown (host := "") (Or.inl (own_w hw 139 rfl)) Via.refl e78 fc_4 (g := (mkF m 81 #[.val (.ref a1), .val (.int (2 : Int32)), .val (.int (0 : Int32))] [(.ref a1), (.ref a1)])) rfl rfl (hb hby d18_81)
        obtain ⟨nd, hnd⟩ : ∃ z : Int32, z = (nc + (1 : Int32)) := ⟨_, rfl⟩
        have sg86 : ∀ t, own_S p e below T81 (mkF m 86 #[.val (.ref a1), .val (.int (2 : Int32)), .val (.int (0 : Int32))] [(.int nd), (.ref a1)]) t → own_S p e below T81 (mkF m 84 #[.val (.ref a1), .val (.int (2 : Int32)), .val (.int (0 : Int32))] [(.int nc), (.ref a1)]) t := by
          intro t k
          rw [hnd] at k
          refine XS.iconst X81.here hx rfl (hb hby d18_84) ?_
          show own_S p e below T81 (mkF m 85 #[.val (.ref a1), .val (.int (2 : Int32)), .val (.int (0 : Int32))] [(.int (1 : Int32)), (.int nc), (.ref a1)]) _
          refine XS.iadd X81.here hx rfl (hb hby d18_85) rfl ?_
          exact k
        obtain ⟨T86, h86, X86, e86, W86, st86⟩ := putF X81 hx hZ hown (host := "") (Or.inl (own_w hw 139 rfl)) Via.refl e81 fc_4 ((E_c.wr W60).wr W78) (Or.inl (own_w hw 140 rfl)) (own_w hw 115 rfl) (ty := .int) (by decide) rfl rfl (g := (mkF m 86 #[.val (.ref a1), .val (.int (2 : Int32)), .val (.int (0 : Int32))] [(.int nd), (.ref a1)])) rfl rfl (hb hby d18_86)
        have Fw86 := fc_4.same W86
        have fc_22 := (fc.other W86 (Or.inr (slot_ne (Or.inr (own_w hw 121 rfl)) (Or.inl (own_w hw 140 rfl)) (by decide) (t := (.object "com/example/reverie/reverie/ScalarQuantizer")) (t' := .int) (by decide) (by decide))))
        have fc_23 := (fc_2.other W86 (Or.inr (slot_ne (Or.inr (own_w hw 125 rfl)) (Or.inl (own_w hw 140 rfl)) (by decide) (t := (.array .float)) (t' := .int) (by decide) (by decide))))
        have fc_24 := (fc_3.other W86 (Or.inr (slot_ne (Or.inr (own_w hw 127 rfl)) (Or.inl (own_w hw 140 rfl)) (by decide) (t := (.array .float)) (t' := .int) (by decide) (by decide))))
        have K86 : Keep h0 h86 [a1, mi, sc] := K78.wr W86 (Or.inl (List.mem_of_getElem? (i := 0) rfl))
        have Z86 : n0 ≤ h86.size := Nat.le_trans Z78 (Keep.of_wr W86).1
        have N86 := Fr.snoc X86 N78 g_a1
        have sg0 : ∀ t, own_S p e below T86 (mkF m 0 #[.val (.ref a1), .val (.int (2 : Int32)), .val (.int (0 : Int32))] []) t → own_S p e below T86 (mkF m 89 #[.val (.ref a1), .val (.int (2 : Int32)), .val (.int (0 : Int32))] []) t := by
          intro t k
          refine XS.goto X86.here hx rfl (pc0 := 89) (pc' := 0) rfl (hb hby d18_89) (by decide) (by decide) ?_
          exact k
        obtain ⟨T', L', H', n0', n1', d0', d1', z0', z1', y2, r1, r2, r3, r4, r5, r6, r7, st'⟩ := ih (done ++ [(es, (0 : Int32), el, eh, ec)]) el m1 ec c1 eh x1 nd T86 _ h86 (.val (.int (0 : Int32))) (by rw [hd]; simp) (by rw [hnd, hnc]; exact own_ofsucc done _) (own_last_yes (e := (es, (0 : Int32), el, eh, ec)) rfl) ((own_last_no (e := (es, (0 : Int32), el, eh, ec)) (show ¬ (0 : Int32) = (1 : Int32) from by decide)).trans hI1) X86 N86 e86 K86 Z86 ⟨(((E_c.wr W60).wr W78).wr W86), fc_22, fc_23, fc_24, Fw86, ((V60.other W78 nms).other W86 (Ne.symm n_a1_mi)), (V78.other W86 (Ne.symm n_a1_sc))⟩ (own_one1 rfl)
        exact ⟨T', L', H', n0', n1', d0', d1', z0', z1', y2, r1, r2, r3, r4, r5, r6, r7, fun t k => (sg1 t (st1 t (sg5 t (st5 t (st8 t (sg15 t (st15 t (st18 t (sg22 t (st22 t (sg31 t (st31 t (st34 t (sg38 t (st38 t (sg42 t (sg44 t (st44 t (sg49 t (st49 t (st52 t (sg56 t (st56 t (sg60 t (st60 t (sg62 t (st62 t (sg67 t (st67 t (st70 t (sg74 t (st74 t (sg78 t (st78 t (sg81 t (st81 t (sg86 t (st86 t (sg0 t (st' t k))))))))))))))))))))))))))))))))))))))))⟩
      · subst hdd
        have sg44 : ∀ t, own_S p e below T38 (mkF m 44 #[.val (.ref a1), .val (.int (2 : Int32)), .val (.int (1 : Int32))] [(.ref a1)]) t → own_S p e below T38 (mkF m 42 #[.val (.ref a1), .val (.int (2 : Int32)), x2] [(.int (1 : Int32))]) t := by
          intro t k
          refine XS.istoreN X38.here hx rfl (hb hby d18_42) rfl (l' := #[.val (.ref a1), .val (.int (2 : Int32)), .val (.int (1 : Int32))]) (own_sto rfl o2 rfl rfl) ?_
          show own_S p e below T38 (mkF m 43 #[.val (.ref a1), .val (.int (2 : Int32)), .val (.int (1 : Int32))] []) _
          refine XS.aloadN X38.here hx rfl (hb hby d18_43) rfl rfl ?_
          exact k
        obtain ⟨T44, X44, e44, st44⟩ := getF X38 hx hZ hown (host := "") (Or.inl (own_w hw 124 rfl)) Via.refl e38 F_mins (g := (mkF m 44 #[.val (.ref a1), .val (.int (2 : Int32)), .val (.int (1 : Int32))] [(.ref a1)])) rfl rfl (hb hby d18_44)
        have sg49 : ∀ t, own_S p e below T44 (mkF m 49 #[.val (.ref a1), .val (.int (2 : Int32)), .val (.int (1 : Int32))] [(.ref a1), (.int (1 : Int32)), (.ref mi)]) t → own_S p e below T44 (mkF m 47 #[.val (.ref a1), .val (.int (2 : Int32)), .val (.int (1 : Int32))] [(.ref mi)]) t := by
          intro t k
          refine XS.iloadN X44.here hx rfl (hb hby d18_47) rfl ?_
          show own_S p e below T44 (mkF m 48 #[.val (.ref a1), .val (.int (2 : Int32)), .val (.int (1 : Int32))] [(.int (1 : Int32)), (.ref mi)]) _
          refine XS.aloadN X44.here hx rfl (hb hby d18_48) rfl rfl ?_
          exact k
        obtain ⟨T49, X49, e49, st49⟩ := getF X44 hx hZ hown (host := "") (Or.inl (own_w hw 120 rfl)) Via.refl e44 F_this (g := (mkF m 49 #[.val (.ref a1), .val (.int (2 : Int32)), .val (.int (1 : Int32))] [(.ref a1), (.int (1 : Int32)), (.ref mi)])) rfl rfl (hb hby d18_49)
        obtain ⟨T52, X52, e52, st52⟩ := getF X49 hx hZ hown (Or.inr (own_w hw 144 rfl)) Via.refl e49 F_cL (g := (mkF m 52 #[.val (.ref a1), .val (.int (2 : Int32)), .val (.int (1 : Int32))] [(.ref a2), (.int (1 : Int32)), (.ref mi)])) rfl rfl (hb hby d18_52)
        have sg56 : ∀ t, own_S p e below T52 (mkF m 56 #[.val (.ref a1), .val (.int (2 : Int32)), .val (.int (1 : Int32))] [(.ref a1), (.ref cL), (.int (1 : Int32)), (.ref mi)]) t → own_S p e below T52 (mkF m 55 #[.val (.ref a1), .val (.int (2 : Int32)), .val (.int (1 : Int32))] [(.ref cL), (.int (1 : Int32)), (.ref mi)]) t := by
          intro t k
          refine XS.aloadN X52.here hx rfl (hb hby d18_55) rfl rfl ?_
          exact k
        obtain ⟨T56, X56, e56, st56⟩ := getF X52 hx hZ hown (host := "") (Or.inl (own_w hw 139 rfl)) Via.refl e52 F_nc (g := (mkF m 56 #[.val (.ref a1), .val (.int (2 : Int32)), .val (.int (1 : Int32))] [(.ref a1), (.ref cL), (.int (1 : Int32)), (.ref mi)])) rfl rfl (hb hby d18_56)
        obtain ⟨cl59, Ar59, qa59, Sa59, Na59, Ha59, Ga59⟩ := id A_cL
        have ib59 : ¬ (nc < 0 ∨ cl59.slots.size ≤ nc.toNatClampNeg) := inb_of Sa59 (by rw [hnc]; exact own_of16 (by omega))
        have sg60 : ∀ t, own_S p e below T56 (mkF m 60 #[.val (.ref a1), .val (.int (2 : Int32)), .val (.int (1 : Int32))] [(.float el), (.int (1 : Int32)), (.ref mi)]) t → own_S p e below T56 (mkF m 59 #[.val (.ref a1), .val (.int (2 : Int32)), .val (.int (1 : Int32))] [(.int nc), (.ref cL), (.int (1 : Int32)), (.ref mi)]) t := by
          intro t k
          refine X56.faload hx (j := nc) (v := (.float el)) (by rw [e56]; exact Ar59.1) (State.isArrayOf_alike hZ.alike Ar59.2.1) Ar59.2.2 ib59 (Has.at Ha59 ib59 (own_get _ _ hist _ _ hnc hq (by omega))) (g := (mkF m 59 #[.val (.ref a1), .val (.int (2 : Int32)), .val (.int (1 : Int32))] [(.int nc), (.ref cL), (.int (1 : Int32)), (.ref mi)])) rfl rfl (hb hby d18_59) _ ?_
          exact k
        obtain ⟨cl60, Ar60, qa60, Sa60, Na60, Ha60, Ga60⟩ := id A_mi
        obtain ⟨T60, h60, X60, e60, W60, st60⟩ := stF X56 hx hZ e56 Ar60 (j := (1 : Int32)) (inb_of Sa60 ⟨by decide, by decide⟩) (g := (mkF m 60 #[.val (.ref a1), .val (.int (2 : Int32)), .val (.int (1 : Int32))] [(.float el), (.int (1 : Int32)), (.ref mi)])) rfl rfl (hb hby d18_60)
        have V60 : Arv Z h60 mi kmi .float (2 : Int32) [(.float m0), (.float el)] (.float (0 : UInt32)) := by
          have q := Arv.set Ar60 qa60 Sa60 Na60 Ha60 Ga60 rfl W60 1 rfl (Nat.le_of_ble_eq_true rfl)
          exact q
        have K60 : Keep h0 h60 [a1, mi, sc] := KH.wr W60 (Or.inl (List.mem_of_getElem? (i := 1) rfl))
        have Z60 : n0 ≤ h60.size := Nat.le_trans ZH (Keep.of_wr W60).1
        have N60 := Fr.snoc X60 NL g_mi
        have sg62 : ∀ t, own_S p e below T60 (mkF m 62 #[.val (.ref a1), .val (.int (2 : Int32)), .val (.int (1 : Int32))] [(.ref a1)]) t → own_S p e below T60 (mkF m 61 #[.val (.ref a1), .val (.int (2 : Int32)), .val (.int (1 : Int32))] []) t := by
          intro t k
          refine XS.aloadN X60.here hx rfl (hb hby d18_61) rfl rfl ?_
          exact k
        obtain ⟨T62, X62, e62, st62⟩ := getF X60 hx hZ hown (host := "") (Or.inl (own_w hw 126 rfl)) Via.refl e60 (F_csc.other W60 (Or.inl n_a1_mi)) (g := (mkF m 62 #[.val (.ref a1), .val (.int (2 : Int32)), .val (.int (1 : Int32))] [(.ref a1)])) rfl rfl (hb hby d18_62)
        have sg67 : ∀ t, own_S p e below T62 (mkF m 67 #[.val (.ref a1), .val (.int (2 : Int32)), .val (.int (1 : Int32))] [(.ref a1), (.int (1 : Int32)), (.ref sc)]) t → own_S p e below T62 (mkF m 65 #[.val (.ref a1), .val (.int (2 : Int32)), .val (.int (1 : Int32))] [(.ref sc)]) t := by
          intro t k
          refine XS.iloadN X62.here hx rfl (hb hby d18_65) rfl ?_
          show own_S p e below T62 (mkF m 66 #[.val (.ref a1), .val (.int (2 : Int32)), .val (.int (1 : Int32))] [(.int (1 : Int32)), (.ref sc)]) _
          refine XS.aloadN X62.here hx rfl (hb hby d18_66) rfl rfl ?_
          exact k
        obtain ⟨T67, X67, e67, st67⟩ := getF X62 hx hZ hown (host := "") (Or.inl (own_w hw 120 rfl)) Via.refl e62 (F_this.other W60 (Or.inl n_a1_mi)) (g := (mkF m 67 #[.val (.ref a1), .val (.int (2 : Int32)), .val (.int (1 : Int32))] [(.ref a1), (.int (1 : Int32)), (.ref sc)])) rfl rfl (hb hby d18_67)
        obtain ⟨T70, X70, e70, st70⟩ := getF X67 hx hZ hown (Or.inr (own_w hw 145 rfl)) Via.refl e67 (F_cC.other W60 (Or.inl (Ne.symm n_mi_a2))) (g := (mkF m 70 #[.val (.ref a1), .val (.int (2 : Int32)), .val (.int (1 : Int32))] [(.ref a2), (.int (1 : Int32)), (.ref sc)])) rfl rfl (hb hby d18_70)
        have sg74 : ∀ t, own_S p e below T70 (mkF m 74 #[.val (.ref a1), .val (.int (2 : Int32)), .val (.int (1 : Int32))] [(.ref a1), (.ref cC), (.int (1 : Int32)), (.ref sc)]) t → own_S p e below T70 (mkF m 73 #[.val (.ref a1), .val (.int (2 : Int32)), .val (.int (1 : Int32))] [(.ref cC), (.int (1 : Int32)), (.ref sc)]) t := by
          intro t k
          refine XS.aloadN X70.here hx rfl (hb hby d18_73) rfl rfl ?_
          exact k
        obtain ⟨T74, X74, e74, st74⟩ := getF X70 hx hZ hown (host := "") (Or.inl (own_w hw 139 rfl)) Via.refl e70 (F_nc.other W60 (Or.inl n_a1_mi)) (g := (mkF m 74 #[.val (.ref a1), .val (.int (2 : Int32)), .val (.int (1 : Int32))] [(.ref a1), (.ref cC), (.int (1 : Int32)), (.ref sc)])) rfl rfl (hb hby d18_74)
        obtain ⟨cl77, Ar77, qa77, Sa77, Na77, Ha77, Ga77⟩ := id (A_cC.other W60 (Ne.symm n_mi_cC))
        have ib77 : ¬ (nc < 0 ∨ cl77.slots.size ≤ nc.toNatClampNeg) := inb_of Sa77 (by rw [hnc]; exact own_of16 (by omega))
        have sg78 : ∀ t, own_S p e below T74 (mkF m 78 #[.val (.ref a1), .val (.int (2 : Int32)), .val (.int (1 : Int32))] [(.float ec), (.int (1 : Int32)), (.ref sc)]) t → own_S p e below T74 (mkF m 77 #[.val (.ref a1), .val (.int (2 : Int32)), .val (.int (1 : Int32))] [(.int nc), (.ref cC), (.int (1 : Int32)), (.ref sc)]) t := by
          intro t k
          refine X74.faload hx (j := nc) (v := (.float ec)) (by rw [e74]; exact Ar77.1) (State.isArrayOf_alike hZ.alike Ar77.2.1) Ar77.2.2 ib77 (Has.at Ha77 ib77 (own_get _ _ hist _ _ hnc hq (by omega))) (g := (mkF m 77 #[.val (.ref a1), .val (.int (2 : Int32)), .val (.int (1 : Int32))] [(.int nc), (.ref cC), (.int (1 : Int32)), (.ref sc)])) rfl rfl (hb hby d18_77) _ ?_
          exact k
        obtain ⟨cl78, Ar78, qa78, Sa78, Na78, Ha78, Ga78⟩ := id (A_sc.other W60 (Ne.symm nms))
        obtain ⟨T78, h78, X78, e78, W78, st78⟩ := stF X74 hx hZ e74 Ar78 (j := (1 : Int32)) (inb_of Sa78 ⟨by decide, by decide⟩) (g := (mkF m 78 #[.val (.ref a1), .val (.int (2 : Int32)), .val (.int (1 : Int32))] [(.float ec), (.int (1 : Int32)), (.ref sc)])) rfl rfl (hb hby d18_78)
        have V78 : Arv Z h78 sc ksc .float (2 : Int32) [(.float c0), (.float ec)] (.float (0 : UInt32)) := by
          have q := Arv.set Ar78 qa78 Sa78 Na78 Ha78 Ga78 rfl W78 1 rfl (Nat.le_of_ble_eq_true rfl)
          exact q
        have fc := ((F_this.other W60 (Or.inl n_a1_mi)).other W78 (Or.inl n_a1_sc))
        have fc_2 := ((F_mins.other W60 (Or.inl n_a1_mi)).other W78 (Or.inl n_a1_sc))
        have fc_3 := ((F_csc.other W60 (Or.inl n_a1_mi)).other W78 (Or.inl n_a1_sc))
        have fc_4 := ((F_nc.other W60 (Or.inl n_a1_mi)).other W78 (Or.inl n_a1_sc))
        have fc_5 := ((F_tl.other W60 (Or.inl (Ne.symm n_mi_a2))).other W78 (Or.inl (Ne.symm n_sc_a2)))
        have fc_6 := ((F_th.other W60 (Or.inl (Ne.symm n_mi_a2))).other W78 (Or.inl (Ne.symm n_sc_a2)))
        have fc_7 := ((F_ts.other W60 (Or.inl (Ne.symm n_mi_a2))).other W78 (Or.inl (Ne.symm n_sc_a2)))
        have fc_8 := ((F_sl.other W60 (Or.inl (Ne.symm n_mi_a2))).other W78 (Or.inl (Ne.symm n_sc_a2)))
        have fc_9 := ((F_sh.other W60 (Or.inl (Ne.symm n_mi_a2))).other W78 (Or.inl (Ne.symm n_sc_a2)))
        have fc_10 := ((F_ss.other W60 (Or.inl (Ne.symm n_mi_a2))).other W78 (Or.inl (Ne.symm n_sc_a2)))
        have fc_11 := ((F_cS.other W60 (Or.inl (Ne.symm n_mi_a2))).other W78 (Or.inl (Ne.symm n_sc_a2)))
        have fc_12 := ((F_cD.other W60 (Or.inl (Ne.symm n_mi_a2))).other W78 (Or.inl (Ne.symm n_sc_a2)))
        have fc_13 := ((F_cL.other W60 (Or.inl (Ne.symm n_mi_a2))).other W78 (Or.inl (Ne.symm n_sc_a2)))
        have fc_14 := ((F_cH.other W60 (Or.inl (Ne.symm n_mi_a2))).other W78 (Or.inl (Ne.symm n_sc_a2)))
        have fc_15 := ((F_cC.other W60 (Or.inl (Ne.symm n_mi_a2))).other W78 (Or.inl (Ne.symm n_sc_a2)))
        have fc_16 := ((F_cc.other W60 (Or.inl (Ne.symm n_mi_a2))).other W78 (Or.inl (Ne.symm n_sc_a2)))
        have fc_17 := ((A_cS.other W60 (Ne.symm n_mi_cS)).other W78 (Ne.symm n_sc_cS))
        have fc_18 := ((A_cD.other W60 (Ne.symm n_mi_cD)).other W78 (Ne.symm n_sc_cD))
        have fc_19 := ((A_cL.other W60 (Ne.symm n_mi_cL)).other W78 (Ne.symm n_sc_cL))
        have fc_20 := ((A_cH.other W60 (Ne.symm n_mi_cH)).other W78 (Ne.symm n_sc_cH))
        have fc_21 := ((A_cC.other W60 (Ne.symm n_mi_cC)).other W78 (Ne.symm n_sc_cC))
        have K78 : Keep h0 h78 [a1, mi, sc] := K60.wr W78 (Or.inl (List.mem_of_getElem? (i := 2) rfl))
        have Z78 : n0 ≤ h78.size := Nat.le_trans Z60 (Keep.of_wr W78).1
        have N78 := Fr.snoc X78 N60 g_sc
        have sg81 : ∀ t, own_S p e below T78 (mkF m 81 #[.val (.ref a1), .val (.int (2 : Int32)), .val (.int (1 : Int32))] [(.ref a1), (.ref a1)]) t → own_S p e below T78 (mkF m 79 #[.val (.ref a1), .val (.int (2 : Int32)), .val (.int (1 : Int32))] []) t := by
          intro t k
          refine XS.aloadN X78.here hx rfl (hb hby d18_79) rfl rfl ?_
          show own_S p e below T78 (mkF m 80 #[.val (.ref a1), .val (.int (2 : Int32)), .val (.int (1 : Int32))] [(.ref a1)]) _
          refine XS.dup X78.here hx rfl (hb hby d18_80) rfl rfl ?_
          exact k
        obtain ⟨T81, X81, e81, st81⟩ := getF X78 hx hZ hown (host := "") (Or.inl (own_w hw 139 rfl)) Via.refl e78 fc_4 (g := (mkF m 81 #[.val (.ref a1), .val (.int (2 : Int32)), .val (.int (1 : Int32))] [(.ref a1), (.ref a1)])) rfl rfl (hb hby d18_81)
        obtain ⟨nd, hnd⟩ : ∃ z : Int32, z = (nc + (1 : Int32)) := ⟨_, rfl⟩
        have sg86 : ∀ t, own_S p e below T81 (mkF m 86 #[.val (.ref a1), .val (.int (2 : Int32)), .val (.int (1 : Int32))] [(.int nd), (.ref a1)]) t → own_S p e below T81 (mkF m 84 #[.val (.ref a1), .val (.int (2 : Int32)), .val (.int (1 : Int32))] [(.int nc), (.ref a1)]) t := by
          intro t k
          rw [hnd] at k
          refine XS.iconst X81.here hx rfl (hb hby d18_84) ?_
          show own_S p e below T81 (mkF m 85 #[.val (.ref a1), .val (.int (2 : Int32)), .val (.int (1 : Int32))] [(.int (1 : Int32)), (.int nc), (.ref a1)]) _
          refine XS.iadd X81.here hx rfl (hb hby d18_85) rfl ?_
          exact k
        obtain ⟨T86, h86, X86, e86, W86, st86⟩ := putF X81 hx hZ hown (host := "") (Or.inl (own_w hw 139 rfl)) Via.refl e81 fc_4 ((E_c.wr W60).wr W78) (Or.inl (own_w hw 140 rfl)) (own_w hw 115 rfl) (ty := .int) (by decide) rfl rfl (g := (mkF m 86 #[.val (.ref a1), .val (.int (2 : Int32)), .val (.int (1 : Int32))] [(.int nd), (.ref a1)])) rfl rfl (hb hby d18_86)
        have Fw86 := fc_4.same W86
        have fc_22 := (fc.other W86 (Or.inr (slot_ne (Or.inr (own_w hw 121 rfl)) (Or.inl (own_w hw 140 rfl)) (by decide) (t := (.object "com/example/reverie/reverie/ScalarQuantizer")) (t' := .int) (by decide) (by decide))))
        have fc_23 := (fc_2.other W86 (Or.inr (slot_ne (Or.inr (own_w hw 125 rfl)) (Or.inl (own_w hw 140 rfl)) (by decide) (t := (.array .float)) (t' := .int) (by decide) (by decide))))
        have fc_24 := (fc_3.other W86 (Or.inr (slot_ne (Or.inr (own_w hw 127 rfl)) (Or.inl (own_w hw 140 rfl)) (by decide) (t := (.array .float)) (t' := .int) (by decide) (by decide))))
        have K86 : Keep h0 h86 [a1, mi, sc] := K78.wr W86 (Or.inl (List.mem_of_getElem? (i := 0) rfl))
        have Z86 : n0 ≤ h86.size := Nat.le_trans Z78 (Keep.of_wr W86).1
        have N86 := Fr.snoc X86 N78 g_a1
        have sg0 : ∀ t, own_S p e below T86 (mkF m 0 #[.val (.ref a1), .val (.int (2 : Int32)), .val (.int (1 : Int32))] []) t → own_S p e below T86 (mkF m 89 #[.val (.ref a1), .val (.int (2 : Int32)), .val (.int (1 : Int32))] []) t := by
          intro t k
          refine XS.goto X86.here hx rfl (pc0 := 89) (pc' := 0) rfl (hb hby d18_89) (by decide) (by decide) ?_
          exact k
        obtain ⟨T', L', H', n0', n1', d0', d1', z0', z1', y2, r1, r2, r3, r4, r5, r6, r7, st'⟩ := ih (done ++ [(es, (1 : Int32), el, eh, ec)]) m0 el c0 ec x0 eh nd T86 _ h86 (.val (.int (1 : Int32))) (by rw [hd]; simp) (by rw [hnd, hnc]; exact own_ofsucc done _) ((own_last_no (e := (es, (1 : Int32), el, eh, ec)) (show ¬ (1 : Int32) = (0 : Int32) from by decide)).trans hI0) (own_last_yes (e := (es, (1 : Int32), el, eh, ec)) rfl) X86 N86 e86 K86 Z86 ⟨(((E_c.wr W60).wr W78).wr W86), fc_22, fc_23, fc_24, Fw86, ((V60.other W78 nms).other W86 (Ne.symm n_a1_mi)), (V78.other W86 (Ne.symm n_a1_sc))⟩ (own_one1 rfl)
        exact ⟨T', L', H', n0', n1', d0', d1', z0', z1', y2, r1, r2, r3, r4, r5, r6, r7, fun t k => (sg1 t (st1 t (sg5 t (st5 t (st8 t (sg15 t (st15 t (st18 t (sg22 t (st22 t (sg31 t (st31 t (st34 t (sg38 t (st38 t (sg42 t (sg44 t (st44 t (sg49 t (st49 t (st52 t (sg56 t (st56 t (sg60 t (st60 t (sg62 t (st62 t (sg67 t (st67 t (st70 t (sg74 t (st74 t (sg78 t (st78 t (sg81 t (st81 t (sg86 t (st86 t (sg0 t (st' t k))))))))))))))))))))))))))))))))))))))))⟩
  obtain ⟨Tlo, Llo, Hlo, m0, m1, c0, c1, x0, x1, y2, hJ0, hJ1, Xlo, Nlo, elo, Klo, Clo, stlo⟩ := outer hist [] _ _ _ _ _ _ _ s₁ _ h0 .unset rfl rfl rfl rfl X0 N0 e0 K0 Z0 ⟨E_c, F_this, F_mins, F_csc, F_nc, A_mi, A_sc⟩ own_one0
  refine own_by stlo ?_
  obtain ⟨fs, hr, hrun, hended, hW, hsame⟩ := Xlo.leave (v := none) (fun _ => rfl)
  refine ⟨_, _, ?_, hrun, hended, _, _, rfl, ?_, ⟨_, rfl⟩, hW, hsame.mono (by decide) (by decide)⟩
  · exact Xlo.returnOut hx Bd.returns (hb hby d18_92) hr
  · show Q18 Z a1 a2 tl th ts sl sh ss cS cD cL cH cC n l0 l1 u0 u1 s0 s1 hist mi sc kmi ksc h0 n0 _ Tlo.heap _
    rw [elo]
    exact ⟨rfl, Nlo, Klo, m0, m1, c0, c1, x0, x1, hJ0, hJ1, Clo⟩
theorem d20_0 : decode prog_34_method_7_code 0 = .ok (.iload_n 2, 1) := by decide +kernel
theorem d20_1 : decode prog_34_method_7_code 1 = .ok (.invokestatic 64, 3) := by decide +kernel
theorem d20_4 : decode prog_34_method_7_code 4 = .ok (.i2d, 1) := by decide +kernel
theorem d20_5 : decode prog_34_method_7_code 5 = .ok (.aload_n 0, 1) := by decide +kernel
theorem d20_6 : decode prog_34_method_7_code 6 = .ok (.getfield 23, 3) := by decide +kernel
theorem d20_9 : decode prog_34_method_7_code 9 = .ok (.iload_n 1, 1) := by decide +kernel
theorem d20_10 : decode prog_34_method_7_code 10 = .ok (.faload, 1) := by decide +kernel
theorem d20_11 : decode prog_34_method_7_code 11 = .ok (.f2d, 1) := by decide +kernel
theorem d20_12 : decode prog_34_method_7_code 12 = .ok (.dmul, 1) := by decide +kernel
theorem d20_13 : decode prog_34_method_7_code 13 = .ok (.aload_n 0, 1) := by decide +kernel
theorem d20_14 : decode prog_34_method_7_code 14 = .ok (.getfield 19, 3) := by decide +kernel
theorem d20_17 : decode prog_34_method_7_code 17 = .ok (.iload_n 1, 1) := by decide +kernel
theorem d20_18 : decode prog_34_method_7_code 18 = .ok (.faload, 1) := by decide +kernel
theorem d20_19 : decode prog_34_method_7_code 19 = .ok (.f2d, 1) := by decide +kernel
theorem d20_20 : decode prog_34_method_7_code 20 = .ok (.dadd, 1) := by decide +kernel
theorem d20_21 : decode prog_34_method_7_code 21 = .ok (.dreturn, 1) := by decide +kernel
theorem pn_200 : plainFor (⟨"com/example/reverie/reverie/ScalarQuantizer$Cursor", "value", "(IB)D"⟩ : MethodName) = true := by first | exact plainFor_of_name (by first | (simp [plainName, overriddenIn]; done) | decide +kernel) | decide +kernel | exact Jvm.Free.JP.mathPlain rfl (by decide +kernel)
theorem pd_20_00 : parseMethodDescriptor "(B)I" = some ⟨[.byte], some .int⟩ := by decide +kernel
theorem ef_200 (m : MethodId) (a1 : Addr) (p0 : Int32) : entryFrame m #[(.ref a1), (.int (0 : Int32)), (.int p0)] 3 = mkF m 0 #[.val (.ref a1), .val (.int (0 : Int32)), .val (.int p0)] [] := by first | (simp [entryFrame, mkF, argsToLocals, Value.category]; done) | rfl
def Q200 (Z : State) (a1 : Addr) (p0 : Int32) (mi : Addr) (sc : Addr) (kmi : ClassId) (ksc : ClassId) (m0 : UInt32) (m1 : UInt32) (w0 : UInt32) (w1 : UInt32) (h0 : Heap) (n0 : Nat) (v : Option Value) (h : Heap) (L : List Loc) : Prop := v = some (.double (FP.dadd (FP.dmul (FP.i2d (p0 &&& (255 : Int32))) (FP.f2d w0)) (FP.f2d m0))) ∧ Fr n0 L ∧ h = h0
set_option maxRecDepth 65536 in
set_option maxHeartbeats 40000000 in
theorem rm200 (l : Launch) (Z : State) (a0 : Array Value) (hw : ∀ d ∈ tables_1, d.before a0 Z = true) (ws : List Jvm.Cond) (a1 : Addr) (p0 : Int32) (mi : Addr) (sc : Addr) (kmi : ClassId) (ksc : ClassId) (m0 : UInt32) (m1 : UInt32) (w0 : UInt32) (w1 : UInt32) (h0 : Heap) (n0 : Nat) (Z0 : n0 ≤ h0.size) (F_mins : Fld Z h0 a1 "com/example/reverie/reverie/ScalarQuantizer$Cursor" "mins" "[F" (.ref mi)) (F_csc : Fld Z h0 a1 "com/example/reverie/reverie/ScalarQuantizer$Cursor" "cursorScales" "[F" (.ref sc)) (A_mi : Arv Z h0 mi kmi .float (2 : Int32) [(.float m0), (.float m1)] (.float (0 : UInt32))) (A_sc : Arv Z h0 sc ksc .float (2 : Int32) [(.float w0), (.float w1)] (.float (0 : UInt32))) (hm : Fin32 m0) (hc : Fin32 w0) :
    MetFree l (⟨"com/example/reverie/reverie/ScalarQuantizer$Cursor", "value", "(IB)D"⟩ : MethodName) (head1 (Jvm.Cond.code (⟨"com/example/reverie/reverie/ScalarQuantizer$Cursor", "value", "(IB)D"⟩ : MethodName) prog_34_method_7_code 3 (some .double) :: ws) ({ frames := 1, cells := 0, slots := 0, locals := 12 } : Room)) (fun a U => a = #[(.ref a1), (.int (0 : Int32)), (.int p0)] ∧ Z.Warmed39 U.vm ∧ U.heap = h0) (fun _ _ _ _ _ => True) (fun _ U o U' => ∃ v L, o = .returned v ∧ Q200 Z a1 p0 mi sc kmi ksc m0 m1 w0 w1 h0 n0 v U'.heap L ∧ FrameEnd U o U' L ({ frames := 1, cells := 0, slots := 0, locals := 12 } : Room).cells ({ frames := 1, cells := 0, slots := 0, locals := 12 } : Room).slots) := by
  refine MetFree.of_bodySF pn_200 hisR ?_
  intro p e s m args below meth c s₁ Bd hml0 hP hK
  obtain ⟨rfl, hZ, hh⟩ := hP
  have hx := Bd.exec
  have hby := Bd.bytes
  have hml : c.maxLocals = 3 := hml0
  have hown : s.vm.findClass "com/example/reverie/reverie/ScalarQuantizer$Cursor" = some m.cls := findClass_of_methodNamed Bd.named
  have hnm := (name_of_methodNamed Bd.named Bd.method).1
  have X0 : Stand p l e ({ frames := 1, cells := 0, slots := 0, locals := 12 } : Room) s m #[(.ref a1), (.int (0 : Int32)), (.int p0)] below meth c s₁ [] 0 0 := Stand.of_body Bd
  have e0 : s₁.heap = h0 := by rw [← hh, Bd.state]; rfl
  have N0 := Fr.nil n0
  refine own_at (castTop (ef_200 m a1 p0)) ?_
  have sg1 : ∀ t, own_S p e below s₁ (mkF m 1 #[.val (.ref a1), .val (.int (0 : Int32)), .val (.int p0)] [(.int p0)]) t → own_S p e below s₁ (mkF m 0 #[.val (.ref a1), .val (.int (0 : Int32)), .val (.int p0)] []) t := by
    intro t k
    refine XS.iloadN X0.here hx rfl (hb hby d20_0) rfl ?_
    exact k
  refine own_by sg1 ?_
  obtain ⟨_, _, ⟨T1, L1, k1, n1⟩, -, X1, ⟨Lc1, hQ1, l1, y1, z1⟩, st1⟩ := Jvm.LawKit.callS X0 hx (y := (⟨"java/lang/Byte", "toUnsignedInt", "(B)I"⟩ : MethodName)) hown (mvT hZ (own_w hw 155 rfl)) (mvT hZ (own_w hw 156 rfl)) (mvT hZ (own_w hw 157 rfl)) (mvT hZ (own_w hw 158 rfl)) (by decide) (backOf (W := 0) (rm21 l Z a0 hw [] p0 h0 n0 Z0) hZ (own_w hw 158 rfl) (own_w hw 157 rfl) (by decide) (by decide)) (g := (mkF m 1 #[.val (.ref a1), .val (.int (0 : Int32)), .val (.int p0)] [(.int p0)])) rfl (by rw [hml]; rfl) (argsL := [(.int p0)]) (rest := []) (lenOf pd_20_00 rfl) rfl (by show 2 * 0 + _ ≤ _; exact Nat.le_of_eq rfl) (hb hby d20_1) (fun _ _ => ⟨rfl, e0, (by decide : 0 + 0 ≤ _), (by decide : 0 + 0 ≤ _)⟩)
  dsimp only [Pt.U, Pt.locs, Pt.cells, Pt.slots] at X1 l1 y1 z1 st1 hQ1
  subst l1 y1 z1
  obtain ⟨rfl, N1q, hq1⟩ := hQ1
  have N1 := Fr.app N0 N1q
  obtain ⟨c1, hc1⟩ : ∃ z : Int32, z = (p0 &&& (255 : Int32)) := ⟨_, rfl⟩
  rw [← hc1] at st1
  refine own_by st1 ?_
  have sg6 : ∀ t, own_S p e below T1 (mkF m 6 #[.val (.ref a1), .val (.int (0 : Int32)), .val (.int p0)] [(.ref a1), (.double (FP.i2d c1))]) t → own_S p e below T1 (mkF m 4 #[.val (.ref a1), .val (.int (0 : Int32)), .val (.int p0)] [(.int c1)]) t := by
    intro t k
    refine XS.i2dS X1.here hx rfl (hb hby d20_4) rfl rfl ?_
    show own_S p e below T1 (mkF m 5 #[.val (.ref a1), .val (.int (0 : Int32)), .val (.int p0)] [(.double (FP.i2d c1))]) _
    refine XS.aloadN X1.here hx rfl (hb hby d20_5) rfl rfl ?_
    exact k
  refine own_by sg6 ?_
  obtain ⟨T6, X6, e6, st6⟩ := getF X1 hx hZ hown (host := "") (Or.inl (own_w hw 126 rfl)) Via.refl hq1 F_csc (g := (mkF m 6 #[.val (.ref a1), .val (.int (0 : Int32)), .val (.int p0)] [(.ref a1), (.double (FP.i2d c1))])) rfl rfl (hb hby d20_6)
  refine own_by st6 ?_
  have sg10 : ∀ t, own_S p e below T6 (mkF m 10 #[.val (.ref a1), .val (.int (0 : Int32)), .val (.int p0)] [(.int (0 : Int32)), (.ref sc), (.double (FP.i2d c1))]) t → own_S p e below T6 (mkF m 9 #[.val (.ref a1), .val (.int (0 : Int32)), .val (.int p0)] [(.ref sc), (.double (FP.i2d c1))]) t := by
    intro t k
    refine XS.iloadN X6.here hx rfl (hb hby d20_9) rfl ?_
    exact k
  refine own_by sg10 ?_
  obtain ⟨cl10, Ar10, qa10, Sa10, Na10, Ha10, Ga10⟩ := id A_sc
  have sg14 : ∀ t, own_S p e below T6 (mkF m 14 #[.val (.ref a1), .val (.int (0 : Int32)), .val (.int p0)] [(.ref a1), (.double (FP.dmul (FP.i2d c1) (FP.f2d w0)))]) t → own_S p e below T6 (mkF m 10 #[.val (.ref a1), .val (.int (0 : Int32)), .val (.int p0)] [(.int (0 : Int32)), (.ref sc), (.double (FP.i2d c1))]) t := by
    intro t k
    refine X6.faload hx (j := (0 : Int32)) (v := (.float w0)) (by rw [e6]; exact Ar10.1) (State.isArrayOf_alike hZ.alike Ar10.2.1) Ar10.2.2 (inb_of Sa10 ⟨by decide, by decide⟩) (Ha10 0 (by rw [Sa10]; decide)) (g := (mkF m 10 #[.val (.ref a1), .val (.int (0 : Int32)), .val (.int p0)] [(.int (0 : Int32)), (.ref sc), (.double (FP.i2d c1))])) rfl rfl (hb hby d20_10) _ ?_
    show own_S p e below T6 (mkF m 11 #[.val (.ref a1), .val (.int (0 : Int32)), .val (.int p0)] [(.float w0), (.double (FP.i2d c1))]) _
    refine XS.f2dS X6.here hx rfl (hb hby d20_11) rfl (f2d_fin hc).noNaN rfl ?_
    show own_S p e below T6 (mkF m 12 #[.val (.ref a1), .val (.int (0 : Int32)), .val (.int p0)] [(.double (FP.f2d w0)), (.double (FP.i2d c1))]) _
    refine XS.dmulS X6.here hx rfl (hb hby d20_12) rfl (dmul_out (i2d_fin _) (f2d_fin hc)) rfl ?_
    show own_S p e below T6 (mkF m 13 #[.val (.ref a1), .val (.int (0 : Int32)), .val (.int p0)] [(.double (FP.dmul (FP.i2d c1) (FP.f2d w0)))]) _
    refine XS.aloadN X6.here hx rfl (hb hby d20_13) rfl rfl ?_
    exact k
  refine own_by sg14 ?_
  obtain ⟨T14, X14, e14, st14⟩ := getF X6 hx hZ hown (host := "") (Or.inl (own_w hw 124 rfl)) Via.refl e6 F_mins (g := (mkF m 14 #[.val (.ref a1), .val (.int (0 : Int32)), .val (.int p0)] [(.ref a1), (.double (FP.dmul (FP.i2d c1) (FP.f2d w0)))])) rfl rfl (hb hby d20_14)
  refine own_by st14 ?_
  have sg18 : ∀ t, own_S p e below T14 (mkF m 18 #[.val (.ref a1), .val (.int (0 : Int32)), .val (.int p0)] [(.int (0 : Int32)), (.ref mi), (.double (FP.dmul (FP.i2d c1) (FP.f2d w0)))]) t → own_S p e below T14 (mkF m 17 #[.val (.ref a1), .val (.int (0 : Int32)), .val (.int p0)] [(.ref mi), (.double (FP.dmul (FP.i2d c1) (FP.f2d w0)))]) t := by
    intro t k
    refine XS.iloadN X14.here hx rfl (hb hby d20_17) rfl ?_
    exact k
  refine own_by sg18 ?_
  obtain ⟨cl18, Ar18, qa18, Sa18, Na18, Ha18, Ga18⟩ := id A_mi
  have sg21 : ∀ t, own_S p e below T14 (mkF m 21 #[.val (.ref a1), .val (.int (0 : Int32)), .val (.int p0)] [(.double (FP.dadd (FP.dmul (FP.i2d c1) (FP.f2d w0)) (FP.f2d m0)))]) t → own_S p e below T14 (mkF m 18 #[.val (.ref a1), .val (.int (0 : Int32)), .val (.int p0)] [(.int (0 : Int32)), (.ref mi), (.double (FP.dmul (FP.i2d c1) (FP.f2d w0)))]) t := by
    intro t k
    refine X14.faload hx (j := (0 : Int32)) (v := (.float m0)) (by rw [e14]; exact Ar18.1) (State.isArrayOf_alike hZ.alike Ar18.2.1) Ar18.2.2 (inb_of Sa18 ⟨by decide, by decide⟩) (Ha18 0 (by rw [Sa18]; decide)) (g := (mkF m 18 #[.val (.ref a1), .val (.int (0 : Int32)), .val (.int p0)] [(.int (0 : Int32)), (.ref mi), (.double (FP.dmul (FP.i2d c1) (FP.f2d w0)))])) rfl rfl (hb hby d20_18) _ ?_
    show own_S p e below T14 (mkF m 19 #[.val (.ref a1), .val (.int (0 : Int32)), .val (.int p0)] [(.float m0), (.double (FP.dmul (FP.i2d c1) (FP.f2d w0)))]) _
    refine XS.f2dS X14.here hx rfl (hb hby d20_19) rfl (f2d_fin hm).noNaN rfl ?_
    show own_S p e below T14 (mkF m 20 #[.val (.ref a1), .val (.int (0 : Int32)), .val (.int p0)] [(.double (FP.f2d m0)), (.double (FP.dmul (FP.i2d c1) (FP.f2d w0)))]) _
    refine XS.daddS X14.here hx rfl (hb hby d20_20) rfl (dadd_out (dmul_out (i2d_fin _) (f2d_fin hc)) (f2d_fin hm)) rfl ?_
    exact k
  refine own_by sg21 ?_
  obtain ⟨fs, hr, hrun, hended, hW, hsame⟩ := X14.leave (v := some (.double (FP.dadd (FP.dmul (FP.i2d c1) (FP.f2d w0)) (FP.f2d m0)))) (fun h => by rw [Bd.returns] at h; cases h)
  refine ⟨_, _, ?_, hrun, hended, _, _, rfl, ?_, ⟨_, rfl⟩, hW, hsame.mono (by decide) (by decide)⟩
  · exact own_retD X14 hx Bd.returns (hb hby d20_21) hr
  · show Q200 Z a1 p0 mi sc kmi ksc m0 m1 w0 w1 h0 n0 _ T14.heap _
    rw [e14]
    exact ⟨by rw [← hc1], N1, rfl⟩
theorem pn_201 : plainFor (⟨"com/example/reverie/reverie/ScalarQuantizer$Cursor", "value", "(IB)D"⟩ : MethodName) = true := by first | exact plainFor_of_name (by first | (simp [plainName, overriddenIn]; done) | decide +kernel) | decide +kernel | exact Jvm.Free.JP.mathPlain rfl (by decide +kernel)
theorem pd_20_01 : parseMethodDescriptor "(B)I" = some ⟨[.byte], some .int⟩ := by decide +kernel
theorem ef_201 (m : MethodId) (a1 : Addr) (p0 : Int32) : entryFrame m #[(.ref a1), (.int (1 : Int32)), (.int p0)] 3 = mkF m 0 #[.val (.ref a1), .val (.int (1 : Int32)), .val (.int p0)] [] := by first | (simp [entryFrame, mkF, argsToLocals, Value.category]; done) | rfl
def Q201 (Z : State) (a1 : Addr) (p0 : Int32) (mi : Addr) (sc : Addr) (kmi : ClassId) (ksc : ClassId) (m0 : UInt32) (m1 : UInt32) (w0 : UInt32) (w1 : UInt32) (h0 : Heap) (n0 : Nat) (v : Option Value) (h : Heap) (L : List Loc) : Prop := v = some (.double (FP.dadd (FP.dmul (FP.i2d (p0 &&& (255 : Int32))) (FP.f2d w1)) (FP.f2d m1))) ∧ Fr n0 L ∧ h = h0
set_option maxRecDepth 65536 in
set_option maxHeartbeats 40000000 in
theorem rm201 (l : Launch) (Z : State) (a0 : Array Value) (hw : ∀ d ∈ tables_1, d.before a0 Z = true) (ws : List Jvm.Cond) (a1 : Addr) (p0 : Int32) (mi : Addr) (sc : Addr) (kmi : ClassId) (ksc : ClassId) (m0 : UInt32) (m1 : UInt32) (w0 : UInt32) (w1 : UInt32) (h0 : Heap) (n0 : Nat) (Z0 : n0 ≤ h0.size) (F_mins : Fld Z h0 a1 "com/example/reverie/reverie/ScalarQuantizer$Cursor" "mins" "[F" (.ref mi)) (F_csc : Fld Z h0 a1 "com/example/reverie/reverie/ScalarQuantizer$Cursor" "cursorScales" "[F" (.ref sc)) (A_mi : Arv Z h0 mi kmi .float (2 : Int32) [(.float m0), (.float m1)] (.float (0 : UInt32))) (A_sc : Arv Z h0 sc ksc .float (2 : Int32) [(.float w0), (.float w1)] (.float (0 : UInt32))) (hm : Fin32 m1) (hc : Fin32 w1) :
    MetFree l (⟨"com/example/reverie/reverie/ScalarQuantizer$Cursor", "value", "(IB)D"⟩ : MethodName) (head1 (Jvm.Cond.code (⟨"com/example/reverie/reverie/ScalarQuantizer$Cursor", "value", "(IB)D"⟩ : MethodName) prog_34_method_7_code 3 (some .double) :: ws) ({ frames := 1, cells := 0, slots := 0, locals := 12 } : Room)) (fun a U => a = #[(.ref a1), (.int (1 : Int32)), (.int p0)] ∧ Z.Warmed39 U.vm ∧ U.heap = h0) (fun _ _ _ _ _ => True) (fun _ U o U' => ∃ v L, o = .returned v ∧ Q201 Z a1 p0 mi sc kmi ksc m0 m1 w0 w1 h0 n0 v U'.heap L ∧ FrameEnd U o U' L ({ frames := 1, cells := 0, slots := 0, locals := 12 } : Room).cells ({ frames := 1, cells := 0, slots := 0, locals := 12 } : Room).slots) := by
  refine MetFree.of_bodySF pn_201 hisR ?_
  intro p e s m args below meth c s₁ Bd hml0 hP hK
  obtain ⟨rfl, hZ, hh⟩ := hP
  have hx := Bd.exec
  have hby := Bd.bytes
  have hml : c.maxLocals = 3 := hml0
  have hown : s.vm.findClass "com/example/reverie/reverie/ScalarQuantizer$Cursor" = some m.cls := findClass_of_methodNamed Bd.named
  have hnm := (name_of_methodNamed Bd.named Bd.method).1
  have X0 : Stand p l e ({ frames := 1, cells := 0, slots := 0, locals := 12 } : Room) s m #[(.ref a1), (.int (1 : Int32)), (.int p0)] below meth c s₁ [] 0 0 := Stand.of_body Bd
  have e0 : s₁.heap = h0 := by rw [← hh, Bd.state]; rfl
  have N0 := Fr.nil n0
  refine own_at (castTop (ef_201 m a1 p0)) ?_
  have sg1 : ∀ t, own_S p e below s₁ (mkF m 1 #[.val (.ref a1), .val (.int (1 : Int32)), .val (.int p0)] [(.int p0)]) t → own_S p e below s₁ (mkF m 0 #[.val (.ref a1), .val (.int (1 : Int32)), .val (.int p0)] []) t := by
    intro t k
    refine XS.iloadN X0.here hx rfl (hb hby d20_0) rfl ?_
    exact k
  refine own_by sg1 ?_
  obtain ⟨_, _, ⟨T1, L1, k1, n1⟩, -, X1, ⟨Lc1, hQ1, l1, y1, z1⟩, st1⟩ := Jvm.LawKit.callS X0 hx (y := (⟨"java/lang/Byte", "toUnsignedInt", "(B)I"⟩ : MethodName)) hown (mvT hZ (own_w hw 155 rfl)) (mvT hZ (own_w hw 156 rfl)) (mvT hZ (own_w hw 157 rfl)) (mvT hZ (own_w hw 158 rfl)) (by decide) (backOf (W := 0) (rm21 l Z a0 hw [] p0 h0 n0 Z0) hZ (own_w hw 158 rfl) (own_w hw 157 rfl) (by decide) (by decide)) (g := (mkF m 1 #[.val (.ref a1), .val (.int (1 : Int32)), .val (.int p0)] [(.int p0)])) rfl (by rw [hml]; rfl) (argsL := [(.int p0)]) (rest := []) (lenOf pd_20_01 rfl) rfl (by show 2 * 0 + _ ≤ _; exact Nat.le_of_eq rfl) (hb hby d20_1) (fun _ _ => ⟨rfl, e0, (by decide : 0 + 0 ≤ _), (by decide : 0 + 0 ≤ _)⟩)
  dsimp only [Pt.U, Pt.locs, Pt.cells, Pt.slots] at X1 l1 y1 z1 st1 hQ1
  subst l1 y1 z1
  obtain ⟨rfl, N1q, hq1⟩ := hQ1
  have N1 := Fr.app N0 N1q
  obtain ⟨c1, hc1⟩ : ∃ z : Int32, z = (p0 &&& (255 : Int32)) := ⟨_, rfl⟩
  rw [← hc1] at st1
  refine own_by st1 ?_
  have sg6 : ∀ t, own_S p e below T1 (mkF m 6 #[.val (.ref a1), .val (.int (1 : Int32)), .val (.int p0)] [(.ref a1), (.double (FP.i2d c1))]) t → own_S p e below T1 (mkF m 4 #[.val (.ref a1), .val (.int (1 : Int32)), .val (.int p0)] [(.int c1)]) t := by
    intro t k
    refine XS.i2dS X1.here hx rfl (hb hby d20_4) rfl rfl ?_
    show own_S p e below T1 (mkF m 5 #[.val (.ref a1), .val (.int (1 : Int32)), .val (.int p0)] [(.double (FP.i2d c1))]) _
    refine XS.aloadN X1.here hx rfl (hb hby d20_5) rfl rfl ?_
    exact k
  refine own_by sg6 ?_
  obtain ⟨T6, X6, e6, st6⟩ := getF X1 hx hZ hown (host := "") (Or.inl (own_w hw 126 rfl)) Via.refl hq1 F_csc (g := (mkF m 6 #[.val (.ref a1), .val (.int (1 : Int32)), .val (.int p0)] [(.ref a1), (.double (FP.i2d c1))])) rfl rfl (hb hby d20_6)
  refine own_by st6 ?_
  have sg10 : ∀ t, own_S p e below T6 (mkF m 10 #[.val (.ref a1), .val (.int (1 : Int32)), .val (.int p0)] [(.int (1 : Int32)), (.ref sc), (.double (FP.i2d c1))]) t → own_S p e below T6 (mkF m 9 #[.val (.ref a1), .val (.int (1 : Int32)), .val (.int p0)] [(.ref sc), (.double (FP.i2d c1))]) t := by
    intro t k
    refine XS.iloadN X6.here hx rfl (hb hby d20_9) rfl ?_
    exact k
  refine own_by sg10 ?_
  obtain ⟨cl10, Ar10, qa10, Sa10, Na10, Ha10, Ga10⟩ := id A_sc
  have sg14 : ∀ t, own_S p e below T6 (mkF m 14 #[.val (.ref a1), .val (.int (1 : Int32)), .val (.int p0)] [(.ref a1), (.double (FP.dmul (FP.i2d c1) (FP.f2d w1)))]) t → own_S p e below T6 (mkF m 10 #[.val (.ref a1), .val (.int (1 : Int32)), .val (.int p0)] [(.int (1 : Int32)), (.ref sc), (.double (FP.i2d c1))]) t := by
    intro t k
    refine X6.faload hx (j := (1 : Int32)) (v := (.float w1)) (by rw [e6]; exact Ar10.1) (State.isArrayOf_alike hZ.alike Ar10.2.1) Ar10.2.2 (inb_of Sa10 ⟨by decide, by decide⟩) (Ha10 1 (by rw [Sa10]; decide)) (g := (mkF m 10 #[.val (.ref a1), .val (.int (1 : Int32)), .val (.int p0)] [(.int (1 : Int32)), (.ref sc), (.double (FP.i2d c1))])) rfl rfl (hb hby d20_10) _ ?_
    show own_S p e below T6 (mkF m 11 #[.val (.ref a1), .val (.int (1 : Int32)), .val (.int p0)] [(.float w1), (.double (FP.i2d c1))]) _
    refine XS.f2dS X6.here hx rfl (hb hby d20_11) rfl (f2d_fin hc).noNaN rfl ?_
    show own_S p e below T6 (mkF m 12 #[.val (.ref a1), .val (.int (1 : Int32)), .val (.int p0)] [(.double (FP.f2d w1)), (.double (FP.i2d c1))]) _
    refine XS.dmulS X6.here hx rfl (hb hby d20_12) rfl (dmul_out (i2d_fin _) (f2d_fin hc)) rfl ?_
    show own_S p e below T6 (mkF m 13 #[.val (.ref a1), .val (.int (1 : Int32)), .val (.int p0)] [(.double (FP.dmul (FP.i2d c1) (FP.f2d w1)))]) _
    refine XS.aloadN X6.here hx rfl (hb hby d20_13) rfl rfl ?_
    exact k
  refine own_by sg14 ?_
  obtain ⟨T14, X14, e14, st14⟩ := getF X6 hx hZ hown (host := "") (Or.inl (own_w hw 124 rfl)) Via.refl e6 F_mins (g := (mkF m 14 #[.val (.ref a1), .val (.int (1 : Int32)), .val (.int p0)] [(.ref a1), (.double (FP.dmul (FP.i2d c1) (FP.f2d w1)))])) rfl rfl (hb hby d20_14)
  refine own_by st14 ?_
  have sg18 : ∀ t, own_S p e below T14 (mkF m 18 #[.val (.ref a1), .val (.int (1 : Int32)), .val (.int p0)] [(.int (1 : Int32)), (.ref mi), (.double (FP.dmul (FP.i2d c1) (FP.f2d w1)))]) t → own_S p e below T14 (mkF m 17 #[.val (.ref a1), .val (.int (1 : Int32)), .val (.int p0)] [(.ref mi), (.double (FP.dmul (FP.i2d c1) (FP.f2d w1)))]) t := by
    intro t k
    refine XS.iloadN X14.here hx rfl (hb hby d20_17) rfl ?_
    exact k
  refine own_by sg18 ?_
  obtain ⟨cl18, Ar18, qa18, Sa18, Na18, Ha18, Ga18⟩ := id A_mi
  have sg21 : ∀ t, own_S p e below T14 (mkF m 21 #[.val (.ref a1), .val (.int (1 : Int32)), .val (.int p0)] [(.double (FP.dadd (FP.dmul (FP.i2d c1) (FP.f2d w1)) (FP.f2d m1)))]) t → own_S p e below T14 (mkF m 18 #[.val (.ref a1), .val (.int (1 : Int32)), .val (.int p0)] [(.int (1 : Int32)), (.ref mi), (.double (FP.dmul (FP.i2d c1) (FP.f2d w1)))]) t := by
    intro t k
    refine X14.faload hx (j := (1 : Int32)) (v := (.float m1)) (by rw [e14]; exact Ar18.1) (State.isArrayOf_alike hZ.alike Ar18.2.1) Ar18.2.2 (inb_of Sa18 ⟨by decide, by decide⟩) (Ha18 1 (by rw [Sa18]; decide)) (g := (mkF m 18 #[.val (.ref a1), .val (.int (1 : Int32)), .val (.int p0)] [(.int (1 : Int32)), (.ref mi), (.double (FP.dmul (FP.i2d c1) (FP.f2d w1)))])) rfl rfl (hb hby d20_18) _ ?_
    show own_S p e below T14 (mkF m 19 #[.val (.ref a1), .val (.int (1 : Int32)), .val (.int p0)] [(.float m1), (.double (FP.dmul (FP.i2d c1) (FP.f2d w1)))]) _
    refine XS.f2dS X14.here hx rfl (hb hby d20_19) rfl (f2d_fin hm).noNaN rfl ?_
    show own_S p e below T14 (mkF m 20 #[.val (.ref a1), .val (.int (1 : Int32)), .val (.int p0)] [(.double (FP.f2d m1)), (.double (FP.dmul (FP.i2d c1) (FP.f2d w1)))]) _
    refine XS.daddS X14.here hx rfl (hb hby d20_20) rfl (dadd_out (dmul_out (i2d_fin _) (f2d_fin hc)) (f2d_fin hm)) rfl ?_
    exact k
  refine own_by sg21 ?_
  obtain ⟨fs, hr, hrun, hended, hW, hsame⟩ := X14.leave (v := some (.double (FP.dadd (FP.dmul (FP.i2d c1) (FP.f2d w1)) (FP.f2d m1)))) (fun h => by rw [Bd.returns] at h; cases h)
  refine ⟨_, _, ?_, hrun, hended, _, _, rfl, ?_, ⟨_, rfl⟩, hW, hsame.mono (by decide) (by decide)⟩
  · exact own_retD X14 hx Bd.returns (hb hby d20_21) hr
  · show Q201 Z a1 p0 mi sc kmi ksc m0 m1 w0 w1 h0 n0 _ T14.heap _
    rw [e14]
    exact ⟨by rw [← hc1], N1, rfl⟩
theorem d19_0 : decode prog_34_method_5_code 0 = .ok (.aload_n 0, 1) := by decide +kernel
theorem d19_1 : decode prog_34_method_5_code 1 = .ok (.getfield 1, 3) := by decide +kernel
theorem d19_4 : decode prog_34_method_5_code 4 = .ok (.getfield 13, 3) := by decide +kernel
theorem d19_7 : decode prog_34_method_5_code 7 = .ok (.newarray .float, 2) := by decide +kernel
theorem d19_9 : decode prog_34_method_5_code 9 = .ok (.astore_n 3, 1) := by decide +kernel
theorem d19_10 : decode prog_34_method_5_code 10 = .ok (.iconst 0, 1) := by decide +kernel
theorem d19_11 : decode prog_34_method_5_code 11 = .ok (.istore 4, 2) := by decide +kernel
theorem d19_13 : decode prog_34_method_5_code 13 = .ok (.iload 4, 2) := by decide +kernel
theorem d19_15 : decode prog_34_method_5_code 15 = .ok (.aload_n 0, 1) := by decide +kernel
theorem d19_16 : decode prog_34_method_5_code 16 = .ok (.getfield 1, 3) := by decide +kernel
theorem d19_19 : decode prog_34_method_5_code 19 = .ok (.getfield 13, 3) := by decide +kernel
theorem d19_22 : decode prog_34_method_5_code 22 = .ok (.if_icmp .ge 26, 3) := by decide +kernel
theorem d19_25 : decode prog_34_method_5_code 25 = .ok (.aload_n 3, 1) := by decide +kernel
theorem d19_26 : decode prog_34_method_5_code 26 = .ok (.iload 4, 2) := by decide +kernel
theorem d19_28 : decode prog_34_method_5_code 28 = .ok (.aload_n 0, 1) := by decide +kernel
theorem d19_29 : decode prog_34_method_5_code 29 = .ok (.iload 4, 2) := by decide +kernel
theorem d19_31 : decode prog_34_method_5_code 31 = .ok (.aload_n 1, 1) := by decide +kernel
theorem d19_32 : decode prog_34_method_5_code 32 = .ok (.iload_n 2, 1) := by decide +kernel
theorem d19_33 : decode prog_34_method_5_code 33 = .ok (.iload 4, 2) := by decide +kernel
theorem d19_35 : decode prog_34_method_5_code 35 = .ok (.iadd, 1) := by decide +kernel
theorem d19_36 : decode prog_34_method_5_code 36 = .ok (.baload, 1) := by decide +kernel
theorem d19_37 : decode prog_34_method_5_code 37 = .ok (.invokevirtual 60, 3) := by decide +kernel
theorem d19_40 : decode prog_34_method_5_code 40 = .ok (.d2f, 1) := by decide +kernel
theorem d19_41 : decode prog_34_method_5_code 41 = .ok (.fastore, 1) := by decide +kernel
theorem d19_42 : decode prog_34_method_5_code 42 = .ok (.iinc 4 1, 3) := by decide +kernel
theorem d19_45 : decode prog_34_method_5_code 45 = .ok (.goto (-32), 3) := by decide +kernel
theorem d19_48 : decode prog_34_method_5_code 48 = .ok (.aload_n 3, 1) := by decide +kernel
theorem d19_49 : decode prog_34_method_5_code 49 = .ok (.areturn, 1) := by decide +kernel
theorem pn_19 : plainFor (⟨"com/example/reverie/reverie/ScalarQuantizer$Cursor", "decode", "([BI)[F"⟩ : MethodName) = true := by first | exact plainFor_of_name (by first | (simp [plainName, overriddenIn]; done) | decide +kernel) | decide +kernel | exact Jvm.Free.JP.mathPlain rfl (by decide +kernel)
theorem pd_19_0 : parseMethodDescriptor "(IB)D" = some ⟨[.int, .byte], some .double⟩ := by decide +kernel
theorem ef_19 (m : MethodId) (a1 : Addr) (a3 : Addr) : entryFrame m #[(.ref a1), (.ref a3), (.int (0 : Int32))] 5 = mkF m 0 #[.val (.ref a1), .val (.ref a3), .val (.int (0 : Int32)), .unset, .unset] [] := by first | (simp [entryFrame, mkF, argsToLocals, Value.category]; done) | rfl
def Q19 (Z : State) (a1 : Addr) (a3 : Addr) (a2 : Addr) (mi : Addr) (sc : Addr) (kmi : ClassId) (ksc : ClassId) (kb : ClassId) (m0 : UInt32) (m1 : UInt32) (w0 : UInt32) (w1 : UInt32) (nc : Int32) (o0 : Int32) (o1 : Int32) (h0 : Heap) (n0 : Nat) (v : Option Value) (h : Heap) (L : List Loc) : Prop := ∃ r kr, v = some (.ref r) ∧ h0.size ≤ r ∧ Fr n0 L ∧ Keep h0 h [] ∧ Arv Z h r kr .float (2 : Int32) [(.float (own_dv m0 w0 o0)), (.float (own_dv m1 w1 o1))] (.float (0 : UInt32))
set_option maxRecDepth 65536 in
set_option maxHeartbeats 40000000 in
theorem rm19 (l : Launch) (Z : State) (a0 : Array Value) (hw : ∀ d ∈ tables_1, d.before a0 Z = true) (ws : List Jvm.Cond) (a1 : Addr) (a3 : Addr) (a2 : Addr) (mi : Addr) (sc : Addr) (kmi : ClassId) (ksc : ClassId) (kb : ClassId) (m0 : UInt32) (m1 : UInt32) (w0 : UInt32) (w1 : UInt32) (nc : Int32) (o0 : Int32) (o1 : Int32) (h0 : Heap) (n0 : Nat) (Z0 : n0 ≤ h0.size) (hcu : Exa Z h0 a1 "com/example/reverie/reverie/ScalarQuantizer$Cursor" ∧ Fld Z h0 a1 "com/example/reverie/reverie/ScalarQuantizer$Cursor" "this$0" "Lcom/example/reverie/reverie/ScalarQuantizer;" (.ref a2) ∧ Fld Z h0 a1 "com/example/reverie/reverie/ScalarQuantizer$Cursor" "mins" "[F" (.ref mi) ∧ Fld Z h0 a1 "com/example/reverie/reverie/ScalarQuantizer$Cursor" "cursorScales" "[F" (.ref sc) ∧ Fld Z h0 a1 "com/example/reverie/reverie/ScalarQuantizer$Cursor" "nextChange" "I" (.int nc) ∧ Arv Z h0 mi kmi .float (2 : Int32) [(.float m0), (.float m1)] (.float (0 : UInt32)) ∧ Arv Z h0 sc ksc .float (2 : Int32) [(.float w0), (.float w1)] (.float (0 : UInt32))) (F_dim : Fld Z h0 a2 "com/example/reverie/reverie/ScalarQuantizer" "dimension" "I" (.int (2 : Int32))) (A_b : Arv Z h0 a3 kb .byte (2 : Int32) [(.int o0), (.int o1)] (.int (0 : Int32))) (hm0 : Fin32 m0) (hm1 : Fin32 m1) (hw0 : Fin32 w0) (hw1 : Fin32 w1) :
    MetFree l (⟨"com/example/reverie/reverie/ScalarQuantizer$Cursor", "decode", "([BI)[F"⟩ : MethodName) (head1 (Jvm.Cond.code (⟨"com/example/reverie/reverie/ScalarQuantizer$Cursor", "decode", "([BI)[F"⟩ : MethodName) prog_34_method_5_code 5 (some (.array .float)) :: ws) ({ frames := 2, cells := 1, slots := 2, locals := 28 } : Room)) (fun a U => a = #[(.ref a1), (.ref a3), (.int (0 : Int32))] ∧ Z.Warmed39 U.vm ∧ U.heap = h0) (fun _ _ _ _ _ => True) (fun _ U o U' => ∃ v L, o = .returned v ∧ Q19 Z a1 a3 a2 mi sc kmi ksc kb m0 m1 w0 w1 nc o0 o1 h0 n0 v U'.heap L ∧ FrameEnd U o U' L ({ frames := 2, cells := 1, slots := 2, locals := 28 } : Room).cells ({ frames := 2, cells := 1, slots := 2, locals := 28 } : Room).slots) := by
  refine MetFree.of_bodySF pn_19 hisR ?_
  intro p e s m args below meth c s₁ Bd hml0 hP hK
  obtain ⟨rfl, hZ, hh⟩ := hP
  have hx := Bd.exec
  have hby := Bd.bytes
  have hml : c.maxLocals = 5 := hml0
  have hown : s.vm.findClass "com/example/reverie/reverie/ScalarQuantizer$Cursor" = some m.cls := findClass_of_methodNamed Bd.named
  have hnm := (name_of_methodNamed Bd.named Bd.method).1
  have X0 : Stand p l e ({ frames := 2, cells := 1, slots := 2, locals := 28 } : Room) s m #[(.ref a1), (.ref a3), (.int (0 : Int32))] below meth c s₁ [] 0 0 := Stand.of_body Bd
  have e0 : s₁.heap = h0 := by rw [← hh, Bd.state]; rfl
  have N0 := Fr.nil n0
  refine own_at (castTop (ef_19 m a1 a3)) ?_
  obtain ⟨E_c, F_this, F_mins, F_csc, F_nc, A_mi, A_sc⟩ := id hcu
  have K0 := Keep.refl h0 []
  have sg1 : ∀ t, own_S p e below s₁ (mkF m 1 (own_ARRIUU a1 a3 (0 : Int32)) [(.ref a1)]) t → own_S p e below s₁ (mkF m 0 (own_ARRIUU a1 a3 (0 : Int32)) []) t := by
    intro t k
    refine XS.aloadN X0.here hx rfl (hb hby d19_0) rfl rfl ?_
    exact k
  refine own_by sg1 ?_
  obtain ⟨T1, X1, e1, st1⟩ := getF X0 hx hZ hown (host := "") (Or.inl (own_w hw 120 rfl)) Via.refl e0 F_this (g := (mkF m 1 (own_ARRIUU a1 a3 (0 : Int32)) [(.ref a1)])) rfl rfl (hb hby d19_1)
  refine own_by st1 ?_
  obtain ⟨T4, X4, e4, st4⟩ := getF X1 hx hZ hown (Or.inr (own_w hw 123 rfl)) Via.refl e1 F_dim (g := (mkF m 4 (own_ARRIUU a1 a3 (0 : Int32)) [(.ref a2)])) rfl rfl (hb hby d19_4)
  refine own_by st4 ?_
  obtain ⟨T7, h7, kc7, X7, e7, E7, A7, st7⟩ := newP X4 hx hZ (own_w hw 4 rfl) e4 (g := (mkF m 7 (own_ARRIUU a1 a3 (0 : Int32)) [(.int (2 : Int32))])) rfl (hb hby d19_7) rfl (by decide) (cap := 2) (by decide) (by decide) (by decide) (by decide)
  obtain ⟨b7, g7⟩ : ∃ z, z = h0.size := ⟨_, rfl⟩
  rw [← g7] at A7 st7
  have ne_a1_b7 : a1 ≠ b7 := Nat.ne_of_lt (Nat.lt_of_lt_of_le E_c.lt (Nat.le_of_eq g7.symm))
  have ne_mi_b7 : mi ≠ b7 := Nat.ne_of_lt (Nat.lt_of_lt_of_le A_mi.lt (Nat.le_of_eq g7.symm))
  have ne_sc_b7 : sc ≠ b7 := Nat.ne_of_lt (Nat.lt_of_lt_of_le A_sc.lt (Nat.le_of_eq g7.symm))
  have ne_a2_b7 : a2 ≠ b7 := Nat.ne_of_lt (Nat.lt_of_lt_of_le F_dim.lt (Nat.le_of_eq g7.symm))
  have ne_a3_b7 : a3 ≠ b7 := Nat.ne_of_lt (Nat.lt_of_lt_of_le A_b.lt (Nat.le_of_eq g7.symm))
  have g_b7 : n0 ≤ b7 := Nat.le_trans Z0 (Nat.le_of_eq g7.symm)
  have sz_b7 : h0.size ≤ b7 := Nat.le_trans K0.1 (Nat.le_of_eq g7.symm)
  have K7 := K0.ext E7
  have Z7 : n0 ≤ h7.size := Nat.le_trans Z0 E7.1
  have V7 : Arv Z h7 b7 kc7 .float (2 : Int32) [(.float (0 : UInt32)), (.float (0 : UInt32))] (.float (0 : UInt32)) := (Arv.new A7 (by decide)).pad (pad_rep [] (.float (0 : UInt32)) 2)
  refine own_by st7 ?_
  have sg16 : ∀ t, own_S p e below T7 (mkF m 16 (own_ARRIRI a1 a3 (0 : Int32) b7 (0 : Int32)) [(.ref a1), (.int (0 : Int32))]) t → own_S p e below T7 (mkF m 9 (own_ARRIUU a1 a3 (0 : Int32)) [(.ref b7)]) t := by
    intro t k
    refine XS.astoreN X7.here hx rfl (hb hby d19_9) rfl rfl (l' := (own_ARRIRU a1 a3 (0 : Int32) b7)) rfl ?_
    show own_S p e below T7 (mkF m 10 (own_ARRIRU a1 a3 (0 : Int32) b7) []) _
    refine XS.iconst X7.here hx rfl (hb hby d19_10) ?_
    show own_S p e below T7 (mkF m 11 (own_ARRIRU a1 a3 (0 : Int32) b7) [(.int (0 : Int32))]) _
    refine XS.istore X7.here hx rfl (hb hby d19_11) rfl (l' := (own_ARRIRI a1 a3 (0 : Int32) b7 (0 : Int32))) rfl ?_
    show own_S p e below T7 (mkF m 13 (own_ARRIRI a1 a3 (0 : Int32) b7 (0 : Int32)) []) _
    refine XS.iload X7.here hx rfl (hb hby d19_13) rfl ?_
    show own_S p e below T7 (mkF m 15 (own_ARRIRI a1 a3 (0 : Int32) b7 (0 : Int32)) [(.int (0 : Int32))]) _
    refine XS.aloadN X7.here hx rfl (hb hby d19_15) rfl rfl ?_
    exact k
  refine own_by sg16 ?_
  obtain ⟨T16, X16, e16, st16⟩ := getF X7 hx hZ hown (host := "") (Or.inl (own_w hw 120 rfl)) Via.refl e7 (F_this.ext E7) (g := (mkF m 16 (own_ARRIRI a1 a3 (0 : Int32) b7 (0 : Int32)) [(.ref a1), (.int (0 : Int32))])) rfl rfl (hb hby d19_16)
  refine own_by st16 ?_
  obtain ⟨T19, X19, e19, st19⟩ := getF X16 hx hZ hown (Or.inr (own_w hw 123 rfl)) Via.refl e16 (F_dim.ext E7) (g := (mkF m 19 (own_ARRIRI a1 a3 (0 : Int32) b7 (0 : Int32)) [(.ref a2), (.int (0 : Int32))])) rfl rfl (hb hby d19_19)
  refine own_by st19 ?_
  have sg36 : ∀ t, own_S p e below T19 (mkF m 36 (own_ARRIRI a1 a3 (0 : Int32) b7 (0 : Int32)) [(.int (0 : Int32)), (.ref a3), (.int (0 : Int32)), (.ref a1), (.int (0 : Int32)), (.ref b7)]) t → own_S p e below T19 (mkF m 22 (own_ARRIRI a1 a3 (0 : Int32) b7 (0 : Int32)) [(.int (2 : Int32)), (.int (0 : Int32))]) t := by
    intro t k
    refine XS.icmpNo X19.here hx rfl (hb hby d19_22) rfl (tlt (by decide : (0 : Int32) < (2 : Int32))).2.1 ?_
    show own_S p e below T19 (mkF m 25 (own_ARRIRI a1 a3 (0 : Int32) b7 (0 : Int32)) []) _
    refine XS.aloadN X19.here hx rfl (hb hby d19_25) rfl rfl ?_
    show own_S p e below T19 (mkF m 26 (own_ARRIRI a1 a3 (0 : Int32) b7 (0 : Int32)) [(.ref b7)]) _
    refine XS.iload X19.here hx rfl (hb hby d19_26) rfl ?_
    show own_S p e below T19 (mkF m 28 (own_ARRIRI a1 a3 (0 : Int32) b7 (0 : Int32)) [(.int (0 : Int32)), (.ref b7)]) _
    refine XS.aloadN X19.here hx rfl (hb hby d19_28) rfl rfl ?_
    show own_S p e below T19 (mkF m 29 (own_ARRIRI a1 a3 (0 : Int32) b7 (0 : Int32)) [(.ref a1), (.int (0 : Int32)), (.ref b7)]) _
    refine XS.iload X19.here hx rfl (hb hby d19_29) rfl ?_
    show own_S p e below T19 (mkF m 31 (own_ARRIRI a1 a3 (0 : Int32) b7 (0 : Int32)) [(.int (0 : Int32)), (.ref a1), (.int (0 : Int32)), (.ref b7)]) _
    refine XS.aloadN X19.here hx rfl (hb hby d19_31) rfl rfl ?_
    show own_S p e below T19 (mkF m 32 (own_ARRIRI a1 a3 (0 : Int32) b7 (0 : Int32)) [(.ref a3), (.int (0 : Int32)), (.ref a1), (.int (0 : Int32)), (.ref b7)]) _
    refine XS.iloadN X19.here hx rfl (hb hby d19_32) rfl ?_
    show own_S p e below T19 (mkF m 33 (own_ARRIRI a1 a3 (0 : Int32) b7 (0 : Int32)) [(.int (0 : Int32)), (.ref a3), (.int (0 : Int32)), (.ref a1), (.int (0 : Int32)), (.ref b7)]) _
    refine XS.iload X19.here hx rfl (hb hby d19_33) rfl ?_
    show own_S p e below T19 (mkF m 35 (own_ARRIRI a1 a3 (0 : Int32) b7 (0 : Int32)) [(.int (0 : Int32)), (.int (0 : Int32)), (.ref a3), (.int (0 : Int32)), (.ref a1), (.int (0 : Int32)), (.ref b7)]) _
    refine XS.iadd X19.here hx rfl (hb hby d19_35) rfl ?_
    exact k
  refine own_by sg36 ?_
  obtain ⟨cl36, Ar36, qa36, Sa36, Na36, Ha36, Ga36⟩ := id (A_b.ext E7)
  have sg37 : ∀ t, own_S p e below T19 (mkF m 37 (own_ARRIRI a1 a3 (0 : Int32) b7 (0 : Int32)) [(.int o0), (.int (0 : Int32)), (.ref a1), (.int (0 : Int32)), (.ref b7)]) t → own_S p e below T19 (mkF m 36 (own_ARRIRI a1 a3 (0 : Int32) b7 (0 : Int32)) [(.int (0 : Int32)), (.ref a3), (.int (0 : Int32)), (.ref a1), (.int (0 : Int32)), (.ref b7)]) t := by
    intro t k
    refine X19.baloadBytes hx (j := (0 : Int32)) (v := (.int o0)) (by rw [e19]; exact Ar36.1) (State.isArrayOf_alike hZ.alike Ar36.2.1) Ar36.2.2 (inb_of Sa36 ⟨by decide, by decide⟩) (Ha36 0 (by rw [Sa36]; decide)) (g := (mkF m 36 (own_ARRIRI a1 a3 (0 : Int32) b7 (0 : Int32)) [(.int (0 : Int32)), (.ref a3), (.int (0 : Int32)), (.ref a1), (.int (0 : Int32)), (.ref b7)])) rfl rfl (hb hby d19_36) _ ?_
    exact k
  refine own_by sg37 ?_
  obtain ⟨cq37, q37, q37'⟩ := (E_c.ext E7).cell
  obtain ⟨_, _, ⟨T37, L37, k37, n37⟩, -, X37, ⟨Lc37, hQ37, l37, y37, z37⟩, st37⟩ := X19.privateBack hx (y := (⟨"com/example/reverie/reverie/ScalarQuantizer$Cursor", "value", "(IB)D"⟩ : MethodName)) hown (mvT hZ (own_w hw 151 rfl)) (mvT hZ (own_w hw 152 rfl)) (own_selp (z := (⟨"com/example/reverie/reverie/ScalarQuantizer$Cursor", "moveTo", "(I)V"⟩ : MethodName)) (Cond.privateMethod_at (mvP hZ (own_w hw 153 rfl) (args := #[]))) (mvT hZ (own_w hw 152 rfl)) (mvT hZ (own_w hw 137 rfl)) rfl (by decide)) (Cond.privateMethod_at (mvP hZ (own_w hw 153 rfl) (args := #[]))) (mvT hZ (own_w hw 154 rfl)) (by decide) (backOf (W := 2) (rm200 l Z a0 hw [] a1 o0 mi sc kmi ksc m0 m1 w0 w1 h7 n0 Z7 (F_mins.ext E7) (F_csc.ext E7) (A_mi.ext E7) (A_sc.ext E7) hm0 hw0) hZ (own_w hw 154 rfl) (own_w hw 116 rfl) (by decide) (by decide)) (g := (mkF m 37 (own_ARRIRI a1 a3 (0 : Int32) b7 (0 : Int32)) [(.int o0), (.int (0 : Int32)), (.ref a1), (.int (0 : Int32)), (.ref b7)])) rfl (by rw [hml]; rfl) (Steps.refl _) (a := a1) (by rw [e19]; exact q37) q37' (argsL := [(.int (0 : Int32)), (.int o0)]) (rest := [(.int (0 : Int32)), (.ref b7)]) (lenOf pd_19_0 rfl) rfl (by show 2 * 0 + _ ≤ _; exact Nat.le_of_eq rfl) (hb hby d19_37) (fun _ _ => ⟨rfl, e19, (by decide : 1 + 0 ≤ _), (by decide : 2 + 0 ≤ _)⟩)
  dsimp only [Pt.U, Pt.locs, Pt.cells, Pt.slots] at X37 l37 y37 z37 st37 hQ37
  subst l37 y37 z37
  obtain ⟨rfl, N37q, hq37⟩ := hQ37
  have N37 := Fr.app N0 N37q
  obtain ⟨c37, hc37⟩ : ∃ z : UInt64, z = (FP.dadd (FP.dmul (FP.i2d (o0 &&& (255 : Int32))) (FP.f2d w0)) (FP.f2d m0)) := ⟨_, rfl⟩
  rw [← hc37] at st37
  refine own_by (fun t k => st37.trans k) ?_
  obtain ⟨k41, hk41⟩ : ∃ z : UInt32, z = (FP.d2f c37) := ⟨_, rfl⟩
  have sg41 : ∀ t, own_S p e below T37 (mkF m 41 (own_ARRIRI a1 a3 (0 : Int32) b7 (0 : Int32)) [(.float k41), (.int (0 : Int32)), (.ref b7)]) t → own_S p e below T37 (mkF m 40 (own_ARRIRI a1 a3 (0 : Int32) b7 (0 : Int32)) [(.double c37), (.int (0 : Int32)), (.ref b7)]) t := by
    intro t k
    rw [hk41] at k
    refine XS.d2fS X37.here hx rfl (hb hby d19_40) rfl (by rw [hc37]; exact own_dvn hm0 hw0) rfl ?_
    exact k
  refine own_by sg41 ?_
  obtain ⟨cl41, Ar41, qa41, Sa41, Na41, Ha41, Ga41⟩ := id V7
  obtain ⟨T41, h41, X41, e41, W41, st41⟩ := stF X37 hx hZ hq37 Ar41 (j := (0 : Int32)) (inb_of Sa41 ⟨by decide, by decide⟩) (g := (mkF m 41 (own_ARRIRI a1 a3 (0 : Int32) b7 (0 : Int32)) [(.float k41), (.int (0 : Int32)), (.ref b7)])) rfl rfl (hb hby d19_41)
  have V41 : Arv Z h41 b7 kc7 .float (2 : Int32) [(.float k41), (.float (0 : UInt32))] (.float (0 : UInt32)) := by
    have q := Arv.set Ar41 qa41 Sa41 Na41 Ha41 Ga41 rfl W41 0 rfl (Nat.le_of_ble_eq_true rfl)
    exact q
  have K41 : Keep h0 h41 [] := K7.wr W41 (Or.inr sz_b7)
  have Z41 : n0 ≤ h41.size := Nat.le_trans Z7 (Keep.of_wr W41).1
  have N41 := Fr.snoc X41 N37 g_b7
  refine own_by st41 ?_
  have sg16_2 : ∀ t, own_S p e below T41 (mkF m 16 (own_ARRIRI a1 a3 (0 : Int32) b7 (1 : Int32)) [(.ref a1), (.int (1 : Int32))]) t → own_S p e below T41 (mkF m 42 (own_ARRIRI a1 a3 (0 : Int32) b7 (0 : Int32)) []) t := by
    intro t k
    refine XS.iinc X41.here hx rfl (hb hby d19_42) rfl (l' := (own_ARRIRI a1 a3 (0 : Int32) b7 (1 : Int32))) rfl ?_
    show own_S p e below T41 (mkF m 45 (own_ARRIRI a1 a3 (0 : Int32) b7 (1 : Int32)) []) _
    refine XS.goto X41.here hx rfl (pc0 := 45) (pc' := 13) rfl (hb hby d19_45) (by decide) (by decide) ?_
    show own_S p e below T41 (mkF m 13 (own_ARRIRI a1 a3 (0 : Int32) b7 (1 : Int32)) []) _
    refine XS.iload X41.here hx rfl (hb hby d19_13) rfl ?_
    show own_S p e below T41 (mkF m 15 (own_ARRIRI a1 a3 (0 : Int32) b7 (1 : Int32)) [(.int (1 : Int32))]) _
    refine XS.aloadN X41.here hx rfl (hb hby d19_15) rfl rfl ?_
    exact k
  refine own_by sg16_2 ?_
  obtain ⟨T16_2, X16_2, e16_2, st16_2⟩ := getF X41 hx hZ hown (host := "") (Or.inl (own_w hw 120 rfl)) Via.refl e41 ((F_this.ext E7).other W41 (Or.inl ne_a1_b7)) (g := (mkF m 16 (own_ARRIRI a1 a3 (0 : Int32) b7 (1 : Int32)) [(.ref a1), (.int (1 : Int32))])) rfl rfl (hb hby d19_16)
  refine own_by st16_2 ?_
  obtain ⟨T19_2, X19_2, e19_2, st19_2⟩ := getF X16_2 hx hZ hown (Or.inr (own_w hw 123 rfl)) Via.refl e16_2 ((F_dim.ext E7).other W41 (Or.inl ne_a2_b7)) (g := (mkF m 19 (own_ARRIRI a1 a3 (0 : Int32) b7 (1 : Int32)) [(.ref a2), (.int (1 : Int32))])) rfl rfl (hb hby d19_19)
  refine own_by st19_2 ?_
  have sg36_2 : ∀ t, own_S p e below T19_2 (mkF m 36 (own_ARRIRI a1 a3 (0 : Int32) b7 (1 : Int32)) [(.int (1 : Int32)), (.ref a3), (.int (1 : Int32)), (.ref a1), (.int (1 : Int32)), (.ref b7)]) t → own_S p e below T19_2 (mkF m 22 (own_ARRIRI a1 a3 (0 : Int32) b7 (1 : Int32)) [(.int (2 : Int32)), (.int (1 : Int32))]) t := by
    intro t k
    refine XS.icmpNo X19_2.here hx rfl (hb hby d19_22) rfl (tlt (by decide : (1 : Int32) < (2 : Int32))).2.1 ?_
    show own_S p e below T19_2 (mkF m 25 (own_ARRIRI a1 a3 (0 : Int32) b7 (1 : Int32)) []) _
    refine XS.aloadN X19_2.here hx rfl (hb hby d19_25) rfl rfl ?_
    show own_S p e below T19_2 (mkF m 26 (own_ARRIRI a1 a3 (0 : Int32) b7 (1 : Int32)) [(.ref b7)]) _
    refine XS.iload X19_2.here hx rfl (hb hby d19_26) rfl ?_
    show own_S p e below T19_2 (mkF m 28 (own_ARRIRI a1 a3 (0 : Int32) b7 (1 : Int32)) [(.int (1 : Int32)), (.ref b7)]) _
    refine XS.aloadN X19_2.here hx rfl (hb hby d19_28) rfl rfl ?_
    show own_S p e below T19_2 (mkF m 29 (own_ARRIRI a1 a3 (0 : Int32) b7 (1 : Int32)) [(.ref a1), (.int (1 : Int32)), (.ref b7)]) _
    refine XS.iload X19_2.here hx rfl (hb hby d19_29) rfl ?_
    show own_S p e below T19_2 (mkF m 31 (own_ARRIRI a1 a3 (0 : Int32) b7 (1 : Int32)) [(.int (1 : Int32)), (.ref a1), (.int (1 : Int32)), (.ref b7)]) _
    refine XS.aloadN X19_2.here hx rfl (hb hby d19_31) rfl rfl ?_
    show own_S p e below T19_2 (mkF m 32 (own_ARRIRI a1 a3 (0 : Int32) b7 (1 : Int32)) [(.ref a3), (.int (1 : Int32)), (.ref a1), (.int (1 : Int32)), (.ref b7)]) _
    refine XS.iloadN X19_2.here hx rfl (hb hby d19_32) rfl ?_
    show own_S p e below T19_2 (mkF m 33 (own_ARRIRI a1 a3 (0 : Int32) b7 (1 : Int32)) [(.int (0 : Int32)), (.ref a3), (.int (1 : Int32)), (.ref a1), (.int (1 : Int32)), (.ref b7)]) _
    refine XS.iload X19_2.here hx rfl (hb hby d19_33) rfl ?_
    show own_S p e below T19_2 (mkF m 35 (own_ARRIRI a1 a3 (0 : Int32) b7 (1 : Int32)) [(.int (1 : Int32)), (.int (0 : Int32)), (.ref a3), (.int (1 : Int32)), (.ref a1), (.int (1 : Int32)), (.ref b7)]) _
    refine XS.iadd X19_2.here hx rfl (hb hby d19_35) rfl ?_
    exact k
  refine own_by sg36_2 ?_
  obtain ⟨cl36_2, Ar36_2, qa36_2, Sa36_2, Na36_2, Ha36_2, Ga36_2⟩ := id ((A_b.ext E7).other W41 ne_a3_b7)
  have sg37_2 : ∀ t, own_S p e below T19_2 (mkF m 37 (own_ARRIRI a1 a3 (0 : Int32) b7 (1 : Int32)) [(.int o1), (.int (1 : Int32)), (.ref a1), (.int (1 : Int32)), (.ref b7)]) t → own_S p e below T19_2 (mkF m 36 (own_ARRIRI a1 a3 (0 : Int32) b7 (1 : Int32)) [(.int (1 : Int32)), (.ref a3), (.int (1 : Int32)), (.ref a1), (.int (1 : Int32)), (.ref b7)]) t := by
    intro t k
    refine X19_2.baloadBytes hx (j := (1 : Int32)) (v := (.int o1)) (by rw [e19_2]; exact Ar36_2.1) (State.isArrayOf_alike hZ.alike Ar36_2.2.1) Ar36_2.2.2 (inb_of Sa36_2 ⟨by decide, by decide⟩) (Ha36_2 1 (by rw [Sa36_2]; decide)) (g := (mkF m 36 (own_ARRIRI a1 a3 (0 : Int32) b7 (1 : Int32)) [(.int (1 : Int32)), (.ref a3), (.int (1 : Int32)), (.ref a1), (.int (1 : Int32)), (.ref b7)])) rfl rfl (hb hby d19_36) _ ?_
    exact k
  refine own_by sg37_2 ?_
  obtain ⟨cq37_2, q37_2, q37_2'⟩ := ((E_c.ext E7).wr W41).cell
  obtain ⟨_, _, ⟨T37_2, L37_2, k37_2, n37_2⟩, -, X37_2, ⟨Lc37_2, hQ37_2, l37_2, y37_2, z37_2⟩, st37_2⟩ := X19_2.privateBack hx (y := (⟨"com/example/reverie/reverie/ScalarQuantizer$Cursor", "value", "(IB)D"⟩ : MethodName)) hown (mvT hZ (own_w hw 151 rfl)) (mvT hZ (own_w hw 152 rfl)) (own_selp (z := (⟨"com/example/reverie/reverie/ScalarQuantizer$Cursor", "moveTo", "(I)V"⟩ : MethodName)) (Cond.privateMethod_at (mvP hZ (own_w hw 153 rfl) (args := #[]))) (mvT hZ (own_w hw 152 rfl)) (mvT hZ (own_w hw 137 rfl)) rfl (by decide)) (Cond.privateMethod_at (mvP hZ (own_w hw 153 rfl) (args := #[]))) (mvT hZ (own_w hw 154 rfl)) (by decide) (backOf (W := 2) (rm201 l Z a0 hw [] a1 o1 mi sc kmi ksc m0 m1 w0 w1 h41 n0 Z41 ((F_mins.ext E7).other W41 (Or.inl ne_a1_b7)) ((F_csc.ext E7).other W41 (Or.inl ne_a1_b7)) ((A_mi.ext E7).other W41 ne_mi_b7) ((A_sc.ext E7).other W41 ne_sc_b7) hm1 hw1) hZ (own_w hw 154 rfl) (own_w hw 116 rfl) (by decide) (by decide)) (g := (mkF m 37 (own_ARRIRI a1 a3 (0 : Int32) b7 (1 : Int32)) [(.int o1), (.int (1 : Int32)), (.ref a1), (.int (1 : Int32)), (.ref b7)])) rfl (by rw [hml]; rfl) (Steps.refl _) (a := a1) (by rw [e19_2]; exact q37_2) q37_2' (argsL := [(.int (1 : Int32)), (.int o1)]) (rest := [(.int (1 : Int32)), (.ref b7)]) (lenOf pd_19_0 rfl) rfl (by show 2 * 0 + _ ≤ _; exact Nat.le_of_eq rfl) (hb hby d19_37) (fun _ _ => ⟨rfl, e19_2, (by decide : 1 + 0 ≤ _), (by decide : 2 + 0 ≤ _)⟩)
  dsimp only [Pt.U, Pt.locs, Pt.cells, Pt.slots] at X37_2 l37_2 y37_2 z37_2 st37_2 hQ37_2
  subst l37_2 y37_2 z37_2
  obtain ⟨rfl, N37_2q, hq37_2⟩ := hQ37_2
  have N37_2 := Fr.app N41 N37_2q
  obtain ⟨c37_2, hc37_2⟩ : ∃ z : UInt64, z = (FP.dadd (FP.dmul (FP.i2d (o1 &&& (255 : Int32))) (FP.f2d w1)) (FP.f2d m1)) := ⟨_, rfl⟩
  rw [← hc37_2] at st37_2
  refine own_by (fun t k => st37_2.trans k) ?_
  obtain ⟨k41_2, hk41_2⟩ : ∃ z : UInt32, z = (FP.d2f c37_2) := ⟨_, rfl⟩
  have sg41_2 : ∀ t, own_S p e below T37_2 (mkF m 41 (own_ARRIRI a1 a3 (0 : Int32) b7 (1 : Int32)) [(.float k41_2), (.int (1 : Int32)), (.ref b7)]) t → own_S p e below T37_2 (mkF m 40 (own_ARRIRI a1 a3 (0 : Int32) b7 (1 : Int32)) [(.double c37_2), (.int (1 : Int32)), (.ref b7)]) t := by
    intro t k
    rw [hk41_2] at k
    refine XS.d2fS X37_2.here hx rfl (hb hby d19_40) rfl (by rw [hc37_2]; exact own_dvn hm1 hw1) rfl ?_
    exact k
  refine own_by sg41_2 ?_
  obtain ⟨cl41_2, Ar41_2, qa41_2, Sa41_2, Na41_2, Ha41_2, Ga41_2⟩ := id V41
  obtain ⟨T41_2, h41_2, X41_2, e41_2, W41_2, st41_2⟩ := stF X37_2 hx hZ hq37_2 Ar41_2 (j := (1 : Int32)) (inb_of Sa41_2 ⟨by decide, by decide⟩) (g := (mkF m 41 (own_ARRIRI a1 a3 (0 : Int32) b7 (1 : Int32)) [(.float k41_2), (.int (1 : Int32)), (.ref b7)])) rfl rfl (hb hby d19_41)
  have V41_2 : Arv Z h41_2 b7 kc7 .float (2 : Int32) [(.float k41), (.float k41_2)] (.float (0 : UInt32)) := by
    have q := Arv.set Ar41_2 qa41_2 Sa41_2 Na41_2 Ha41_2 Ga41_2 rfl W41_2 1 rfl (Nat.le_of_ble_eq_true rfl)
    exact q
  have fc := (((F_this.ext E7).other W41 (Or.inl ne_a1_b7)).other W41_2 (Or.inl ne_a1_b7))
  have fc_2 := (((F_mins.ext E7).other W41 (Or.inl ne_a1_b7)).other W41_2 (Or.inl ne_a1_b7))
  have fc_3 := (((F_csc.ext E7).other W41 (Or.inl ne_a1_b7)).other W41_2 (Or.inl ne_a1_b7))
  have fc_4 := (((F_nc.ext E7).other W41 (Or.inl ne_a1_b7)).other W41_2 (Or.inl ne_a1_b7))
  have fc_5 := (((F_dim.ext E7).other W41 (Or.inl ne_a2_b7)).other W41_2 (Or.inl ne_a2_b7))
  have K41_2 : Keep h0 h41_2 [] := K41.wr W41_2 (Or.inr sz_b7)
  have Z41_2 : n0 ≤ h41_2.size := Nat.le_trans Z41 (Keep.of_wr W41_2).1
  have N41_2 := Fr.snoc X41_2 N37_2 g_b7
  refine own_by st41_2 ?_
  have sg16_3 : ∀ t, own_S p e below T41_2 (mkF m 16 (own_ARRIRI a1 a3 (0 : Int32) b7 (2 : Int32)) [(.ref a1), (.int (2 : Int32))]) t → own_S p e below T41_2 (mkF m 42 (own_ARRIRI a1 a3 (0 : Int32) b7 (1 : Int32)) []) t := by
    intro t k
    refine XS.iinc X41_2.here hx rfl (hb hby d19_42) rfl (l' := (own_ARRIRI a1 a3 (0 : Int32) b7 (2 : Int32))) rfl ?_
    show own_S p e below T41_2 (mkF m 45 (own_ARRIRI a1 a3 (0 : Int32) b7 (2 : Int32)) []) _
    refine XS.goto X41_2.here hx rfl (pc0 := 45) (pc' := 13) rfl (hb hby d19_45) (by decide) (by decide) ?_
    show own_S p e below T41_2 (mkF m 13 (own_ARRIRI a1 a3 (0 : Int32) b7 (2 : Int32)) []) _
    refine XS.iload X41_2.here hx rfl (hb hby d19_13) rfl ?_
    show own_S p e below T41_2 (mkF m 15 (own_ARRIRI a1 a3 (0 : Int32) b7 (2 : Int32)) [(.int (2 : Int32))]) _
    refine XS.aloadN X41_2.here hx rfl (hb hby d19_15) rfl rfl ?_
    exact k
  refine own_by sg16_3 ?_
  obtain ⟨T16_3, X16_3, e16_3, st16_3⟩ := getF X41_2 hx hZ hown (host := "") (Or.inl (own_w hw 120 rfl)) Via.refl e41_2 fc (g := (mkF m 16 (own_ARRIRI a1 a3 (0 : Int32) b7 (2 : Int32)) [(.ref a1), (.int (2 : Int32))])) rfl rfl (hb hby d19_16)
  refine own_by st16_3 ?_
  obtain ⟨T19_3, X19_3, e19_3, st19_3⟩ := getF X16_3 hx hZ hown (Or.inr (own_w hw 123 rfl)) Via.refl e16_3 fc_5 (g := (mkF m 19 (own_ARRIRI a1 a3 (0 : Int32) b7 (2 : Int32)) [(.ref a2), (.int (2 : Int32))])) rfl rfl (hb hby d19_19)
  refine own_by st19_3 ?_
  have sg49 : ∀ t, own_S p e below T19_3 (mkF m 49 (own_ARRIRI a1 a3 (0 : Int32) b7 (2 : Int32)) [(.ref b7)]) t → own_S p e below T19_3 (mkF m 22 (own_ARRIRI a1 a3 (0 : Int32) b7 (2 : Int32)) [(.int (2 : Int32)), (.int (2 : Int32))]) t := by
    intro t k
    refine XS.icmpYes X19_3.here hx rfl (pc0 := 22) (pc' := 48) rfl (hb hby d19_22) rfl (flt (by decide : ¬ ((2 : Int32) < (2 : Int32)))).2.1 (by decide) (by decide) ?_
    show own_S p e below T19_3 (mkF m 48 (own_ARRIRI a1 a3 (0 : Int32) b7 (2 : Int32)) []) _
    refine XS.aloadN X19_3.here hx rfl (hb hby d19_48) rfl rfl ?_
    exact k
  refine own_by sg49 ?_
  obtain ⟨fs, hr, hrun, hended, hW, hsame⟩ := X19_3.leave (v := some (.ref b7)) (fun h => by rw [Bd.returns] at h; cases h)
  refine ⟨_, _, ?_, hrun, hended, _, _, rfl, ?_, ⟨_, rfl⟩, hW, hsame.mono (by decide) (by decide)⟩
  · show Steps p.tables e below (T19_3.setTop (mkF m 49 (own_ARRIRI a1 a3 (0 : Int32) b7 (2 : Int32)) [(.ref b7)])) _
    jvm_step X19_3.here [X19_3.here.top, hx, (hb hby d19_49), X19_3.method', Bd.returns, Value.isRef, FieldType.isReference]
    first | (intro acts; rw [hr _ acts rfl rfl rfl]) | rw [hr _ _ rfl rfl rfl]
    exact Steps.refl _
  · show Q19 Z a1 a3 a2 mi sc kmi ksc kb m0 m1 w0 w1 nc o0 o1 h0 n0 _ T19_3.heap _
    rw [e19_3]
    exact ⟨_, _, rfl, sz_b7, N41_2, K41_2, (by unfold own_dv; rw [← hc37, ← hc37_2, ← hk41, ← hk41_2]; exact V41_2)⟩
theorem own_last_hs {n d : Int32} {v l u s : UInt32} {hist : List own_E} (h : own_last d hist = (l, u, s)) : own_last d (own_h n d v l u hist) = (own_l v l u, own_u v l u, own_s v l u s) := by
  unfold own_h own_l own_u own_s
  by_cases q : own_out v l u
  · rw [if_pos q, if_pos q, if_pos q, if_pos q]; exact own_last_yes rfl
  · rw [if_neg q, if_neg q, if_neg q, if_neg q]; exact h
theorem own_last_ho {n d d' : Int32} {v l u : UInt32} {hist : List own_E} (h : ¬ d = d') : own_last d' (own_h n d v l u hist) = own_last d' hist := by
  unfold own_h
  by_cases q : own_out v l u
  · rw [if_pos q]; exact own_last_no h
  · rw [if_neg q]
def own_enc (n : Int32) (v0 v1 : UInt32) (hist : List own_E) : List own_E := own_h n (1 : Int32) v1 (own_last (1 : Int32) hist).1 (own_last (1 : Int32) hist).2.1 (own_h n (0 : Int32) v0 (own_last (0 : Int32) hist).1 (own_last (0 : Int32) hist).2.1 hist)
theorem own_enc_eq {n : Int32} {v0 v1 l0 u0 s0 l1 u1 s1 : UInt32} {hist : List own_E} (I0 : own_last (0 : Int32) hist = (l0, u0, s0)) (I1 : own_last (1 : Int32) hist = (l1, u1, s1)) : own_enc n v0 v1 hist = own_h n (1 : Int32) v1 l1 u1 (own_h n (0 : Int32) v0 l0 u0 hist) := by
  unfold own_enc; rw [I0, I1]
theorem own_enc_l0 {n : Int32} {v0 v1 l0 u0 s0 l1 u1 s1 : UInt32} {hist : List own_E} (I0 : own_last (0 : Int32) hist = (l0, u0, s0)) (I1 : own_last (1 : Int32) hist = (l1, u1, s1)) : own_last (0 : Int32) (own_enc n v0 v1 hist) = (own_l v0 l0 u0, own_u v0 l0 u0, own_s v0 l0 u0 s0) := by
  rw [own_enc_eq I0 I1]; exact (own_last_ho (by decide)).trans (own_last_hs I0)
theorem own_enc_l1 {n : Int32} {v0 v1 l0 u0 s0 l1 u1 s1 : UInt32} {hist : List own_E} (I0 : own_last (0 : Int32) hist = (l0, u0, s0)) (I1 : own_last (1 : Int32) hist = (l1, u1, s1)) : own_last (1 : Int32) (own_enc n v0 v1 hist) = (own_l v1 l1 u1, own_u v1 l1 u1, own_s v1 l1 u1 s1) := by
  rw [own_enc_eq I0 I1]; exact own_last_hs ((own_last_ho (by decide)).trans I1)
theorem own_encR {Z : State} {h : Heap} {a tl th ts sl sh ss cS cD cL cH cC : Addr} {n n' : Int32} {v0 v1 l0 u0 s0 l1 u1 s1 : UInt32} {hist : List own_E} (I0 : own_last (0 : Int32) hist = (l0, u0, s0)) (I1 : own_last (1 : Int32) hist = (l1, u1, s1)) (Q : own_Q Z h a tl th ts sl sh ss cS cD cL cH cC n' (own_l v0 l0 u0) (own_l v1 l1 u1) (own_u v0 l0 u0) (own_u v1 l1 u1) (own_s v0 l0 u0 s0) (own_s v1 l1 u1 s1) (own_h n (1 : Int32) v1 l1 u1 (own_h n (0 : Int32) v0 l0 u0 hist))) : own_R Z h a tl th ts sl sh ss cS cD cL cH cC n' (own_enc n v0 v1 hist) :=
  ⟨_, _, _, _, _, _, own_enc_l0 I0 I1, own_enc_l1 I0 I1, by rw [own_enc_eq I0 I1]; exact Q⟩
def own_bt (d : Int32) (v : UInt32) (hist : List own_E) : Int32 := (own_code v (own_last d hist).1 (own_last d hist).2.2).toInt8.toInt32
theorem own_encB0 {n : Int32} {v0 v1 l0 u0 s0 l1 u1 s1 : UInt32} {hist : List own_E} (I0 : own_last (0 : Int32) hist = (l0, u0, s0)) (I1 : own_last (1 : Int32) hist = (l1, u1, s1)) : own_bt (0 : Int32) v0 (own_enc n v0 v1 hist) = (own_code v0 (own_l v0 l0 u0) (own_s v0 l0 u0 s0)).toInt8.toInt32 := by
  unfold own_bt; rw [own_enc_l0 I0 I1]
theorem own_encB1 {n : Int32} {v0 v1 l0 u0 s0 l1 u1 s1 : UInt32} {hist : List own_E} (I0 : own_last (0 : Int32) hist = (l0, u0, s0)) (I1 : own_last (1 : Int32) hist = (l1, u1, s1)) : own_bt (1 : Int32) v1 (own_enc n v0 v1 hist) = (own_code v1 (own_l v1 l1 u1) (own_s v1 l1 u1 s1)).toInt8.toInt32 := by
  unfold own_bt; rw [own_enc_l1 I0 I1]
def own_okd (t : UInt32 × UInt32 × UInt32) : Prop := own_ok t.1 t.2.1 t.2.2
def own_good (n : Int32) (k : Nat) (hist : List own_E) : Prop := own_okd (own_last (0 : Int32) hist) ∧ own_okd (own_last (1 : Int32) hist) ∧ own_dm hist ∧ (∀ e ∈ hist, e.1 < n) ∧ hist.length ≤ k
theorem own_good0 : own_good (0 : Int32) 0 [] := ⟨Or.inr ⟨rfl, rfl⟩, Or.inr ⟨rfl, rfl⟩, (fun _ q => nomatch q), (fun _ q => nomatch q), Nat.le_refl _⟩
def own_fin (t : UInt32 × UInt32 × UInt32) : Prop := own_sh t.1 ∧ own_sh t.2.1 ∧ Fin32 t.2.2
theorem own_fin1 {v l u s : UInt32} (h : own_ok l u s) (hv : own_sh v) : own_fin (own_l v l u, own_u v l u, own_s v l u s) := by
  unfold own_fin own_l own_u own_s
  by_cases q : own_out v l u
  · simp only [if_pos q]; exact ⟨(h.pk hv).1, (h.pk hv).2, own_scale_fin (h.pk hv).1 (h.pk hv).2⟩
  · simp only [if_neg q]; exact h.in hv q
theorem own_enc_fin {n m : Int32} {k : Nat} {v0 v1 : UInt32} {hist : List own_E} (G : own_good n k hist) (h0 : own_sh v0) (h1 : own_sh v1) : own_fin (own_last (0 : Int32) (own_enc m v0 v1 hist)) ∧ own_fin (own_last (1 : Int32) (own_enc m v0 v1 hist)) := by
  rw [own_enc_l0 (rfl : own_last (0 : Int32) hist = (_, _, _)) (rfl : own_last (1 : Int32) hist = (_, _, _)), own_enc_l1 (rfl : own_last (0 : Int32) hist = (_, _, _)) (rfl : own_last (1 : Int32) hist = (_, _, _))]
  exact ⟨own_fin1 G.1 h0, own_fin1 G.2.1 h1⟩
theorem own_h_mem {n d : Int32} {v l u : UInt32} {hist : List own_E} {e : own_E} (h : e ∈ own_h n d v l u hist) : e ∈ hist ∨ (e.1 = n ∧ e.2.1 = d) := by
  unfold own_h at h
  by_cases q : own_out v l u
  · rw [if_pos q] at h
    rcases List.mem_append.mp h with h | h
    · exact Or.inl h
    · rw [List.mem_singleton.mp h]; exact Or.inr ⟨rfl, rfl⟩
  · rw [if_neg q] at h; exact Or.inl h
theorem own_h_pop {n d : Int32} {v l u : UInt32} {hist : List own_E} : own_pop n (own_h n d v l u hist) = own_pop n hist := by
  unfold own_h
  by_cases q : own_out v l u
  · rw [if_pos q]; exact own_pop_yes rfl
  · rw [if_neg q]
theorem own_pop_id {n : Int32} {hist : List own_E} (h : ∀ e ∈ hist, e.1 < n) : own_pop n hist = hist := by
  rcases List.eq_nil_or_concat hist with rfl | ⟨a, b, q⟩
  · rfl
  · rw [List.concat_eq_append] at q; subst q
    refine own_pop_no fun e => ?_
    have := h b (List.mem_append_right _ (List.mem_singleton.mpr rfl))
    rw [e] at this; exact Int32.lt_irrefl this
theorem own_pop_enc {n : Int32} {k : Nat} {v0 v1 : UInt32} {hist : List own_E} (G : own_good n k hist) : own_pop n (own_enc n v0 v1 hist) = hist := by
  unfold own_enc; rw [own_h_pop, own_h_pop]; exact own_pop_id G.2.2.2.1
theorem own_enc_good {n n' : Int32} {k : Nat} {v0 v1 : UInt32} {hist : List own_E} (G : own_good n k hist) (h0 : own_sh v0) (h1 : own_sh v1) (hn : n < n') : own_good n' (k + 2) (own_enc n v0 v1 hist) := by
  have F := own_enc_fin (m := n) G h0 h1
  have M : ∀ e ∈ own_enc n v0 v1 hist, e ∈ hist ∨ (e.1 = n ∧ (e.2.1 = (0 : Int32) ∨ e.2.1 = (1 : Int32))) := fun e he => by
    rcases own_h_mem he with he | ⟨q, r⟩
    · rcases own_h_mem he with he | ⟨q, r⟩
      · exact Or.inl he
      · exact Or.inr ⟨q, Or.inl r⟩
    · exact Or.inr ⟨q, Or.inr r⟩
  refine ⟨Or.inl F.1, Or.inl F.2, fun e he => ?_, fun e he => ?_, ?_⟩
  · rcases M e he with h | h
    · exact G.2.2.1 e h
    · exact h.2
  · rcases M e he with h | h
    · have q := G.2.2.2.1 e h; rw [Int32.lt_iff_toInt_lt] at q hn ⊢; omega
    · rw [h.1]; exact hn
  · have q := G.2.2.2.2
    have a := own_h_len (n := n) (d := 1) (v := v1) (l := (own_last (1 : Int32) hist).1) (u := (own_last (1 : Int32) hist).2.1) (hist := own_h n (0 : Int32) v0 (own_last (0 : Int32) hist).1 (own_last (0 : Int32) hist).2.1 hist)
    have b := own_h_len (n := n) (d := 0) (v := v0) (l := (own_last (0 : Int32) hist).1) (u := (own_last (0 : Int32) hist).2.1) (hist := hist)
    unfold own_enc; omega
theorem own_R.keep {Z : State} {h h' : Heap} {a tl th ts sl sh ss cS cD cL cH cC : Addr} {n : Int32} {hist : List own_E} {ws : List Addr} (Q : own_R Z h a tl th ts sl sh ss cS cD cL cH cC n hist) (K : Keep h h' ws) (na : ∀ x ∈ [a, tl, th, ts, sl, sh, ss, cS, cD, cL, cH, cC], x ∉ ws) : own_R Z h' a tl th ts sl sh ss cS cD cL cH cC n hist := by
  obtain ⟨l0, l1, u0, u1, s0, s1, I0, I1, q⟩ := Q
  exact ⟨l0, l1, u0, u1, s0, s1, I0, I1, q.keep K na⟩
theorem own_R.ext {Z : State} {h h' : Heap} {a tl th ts sl sh ss cS cD cL cH cC : Addr} {n : Int32} {hist : List own_E} (Q : own_R Z h a tl th ts sl sh ss cS cD cL cH cC n hist) (E : Ext h h') : own_R Z h' a tl th ts sl sh ss cS cD cL cH cC n hist := Q.keep ((Keep.refl h []).ext E) (fun _ _ => List.not_mem_nil)
theorem own_R.lt {Z : State} {h : Heap} {a tl th ts sl sh ss cS cD cL cH cC : Addr} {n : Int32} {hist : List own_E} (Q : own_R Z h a tl th ts sl sh ss cS cD cL cH cC n hist) : ∀ x ∈ [a, tl, th, ts, sl, sh, ss, cS, cD, cL, cH, cC], x < h.size := by
  obtain ⟨l0, l1, u0, u1, s0, s1, I0, I1, q⟩ := Q
  exact q.lt
theorem own_Q.dim {Z : State} {h : Heap} {a tl th ts sl sh ss cS cD cL cH cC : Addr} {n : Int32} {l0 l1 u0 u1 s0 s1 : UInt32} {hist : List own_E} (Q : own_Q Z h a tl th ts sl sh ss cS cD cL cH cC n l0 l1 u0 u1 s0 s1 hist) : Fld Z h a "com/example/reverie/reverie/ScalarQuantizer" "dimension" "I" (.int (2 : Int32)) := by
  obtain ⟨ktl, kth, kts, ksl, ksh, kss, kcS, kcD, kcL, kcH, kcC, g1, g2, g3, g4, g5, ND, G, E_q, F_dim, r⟩ := Q
  exact F_dim
theorem own_nap {L : List Addr} {B x : Addr} (ge : ∀ y ∈ L, B ≤ y) (hx : x < B) : x ∉ L := fun h => absurd (ge x h) (Nat.not_le.mpr hx)
theorem own_sub9 {a tl th ts sl sh ss cS cD cL cH cC : Addr} : ∀ y ∈ [a, tl, th, ts, cS, cD, cL, cH, cC], y ∈ [a, tl, th, ts, sl, sh, ss, cS, cD, cL, cH, cC] := (allS (List.mem_of_getElem? (i := 0) rfl) (allS (List.mem_of_getElem? (i := 1) rfl) (allS (List.mem_of_getElem? (i := 2) rfl) (allS (List.mem_of_getElem? (i := 3) rfl) (allS (List.mem_of_getElem? (i := 7) rfl) (allS (List.mem_of_getElem? (i := 8) rfl) (allS (List.mem_of_getElem? (i := 9) rfl) (allS (List.mem_of_getElem? (i := 10) rfl) (allS (List.mem_of_getElem? (i := 11) rfl) all0)))))))))
theorem own_nmq {a tl th ts sl sh ss cS cD cL cH cC a3 B x : Addr} (ge : ∀ y ∈ [a, tl, th, ts, sl, sh, ss, cS, cD, cL, cH, cC], B ≤ y) (hx : x < B) (h3 : x ≠ a3) : x ∉ [a, tl, th, ts, cS, cD, cL, cH, cC, a3] := fun h => by
  rcases List.mem_append.mp (show x ∈ [a, tl, th, ts, cS, cD, cL, cH, cC] ++ [a3] from h) with h | h
  · exact own_nap ge hx (own_sub9 x h)
  · exact h3 (List.mem_singleton.mp h)
theorem own_nmr {a tl th ts sl sh ss cS cD cL cH cC B x : Addr} (ge : ∀ y ∈ [a, tl, th, ts, sl, sh, ss, cS, cD, cL, cH, cC], B ≤ y) (hx : x < B) : x ∉ [a, tl, th, ts, cS, cD, cL, cH, cC] := fun h => own_nap ge hx (own_sub9 x h)
theorem own_wge {a tl th ts sl sh ss cS cD cL cH cC a3 : Addr} {M : Nat} (ge : ∀ y ∈ [a, tl, th, ts, sl, sh, ss, cS, cD, cL, cH, cC], M ≤ y) (h3 : M ≤ a3) : ∀ y ∈ [a, tl, th, ts, cS, cD, cL, cH, cC, a3], M ≤ y := fun y h => by
  rcases List.mem_append.mp (show y ∈ [a, tl, th, ts, cS, cD, cL, cH, cC] ++ [a3] from h) with h | h
  · exact ge y (own_sub9 y h)
  · rw [List.mem_singleton.mp h]; exact h3
theorem own_ap3 {L : List Addr} {B a b c : Addr} (lt : ∀ x ∈ L, x < B) (h1 : B ≤ a) (h2 : B ≤ b) (h3 : B ≤ c) : ∀ x ∈ L, x ∉ [a, b, c] := fun x hx h => by
  have q := lt x hx
  simp only [List.mem_cons, List.not_mem_nil, or_false] at h
  rcases h with rfl | rfl | rfl
  · exact absurd h1 (Nat.not_le.mpr q)
  · exact absurd h2 (Nat.not_le.mpr q)
  · exact absurd h3 (Nat.not_le.mpr q)
theorem own_ap1 {L : List Addr} {B : Addr} (lt : ∀ x ∈ L, x < B) : ∀ x ∈ L, x ∉ [B] := fun x hx h => by
  have q := lt x hx; rw [List.mem_singleton.mp h] at q; exact Nat.lt_irrefl _ q
theorem own_nlt2 {x : Int32} (h : x < (3 : Int32)) : ¬ (2 : Int32) < x := fun q => by
  rw [Int32.lt_iff_toInt_lt] at h q; simp only [Int32.reduceToInt] at h q; omega
theorem own_same {hist : List own_E} {d : Int32} {m x c m' x' c' g g' : UInt32} {b b' : Int32} (J : own_last d hist = (m, x, c)) (J' : own_last d hist = (m', x', c')) (hg : g = own_dv m c b) (hg' : g' = own_dv m' c' b') (hb : b = b') (hm : Fin32 m) (hc : Fin32 c) : cmpValue (FP.fcmp g g') .l = (0 : Int32) := by
  have e := J.symm.trans J'
  simp only [Prod.mk.injEq] at e
  obtain ⟨rfl, rfl, rfl⟩ := e
  subst hb; rw [hg, hg']
  exact fcmpV_self (own_dvn hm hc) _
theorem pn_0 : plainFor x = true := by first | exact plainFor_of_name (by first | (simp [plainName, overriddenIn]; done) | decide +kernel) | decide +kernel | exact Jvm.Free.JP.mathPlain rfl (by decide +kernel)
theorem pd_0_0 : parseMethodDescriptor "(I)[F" = some ⟨[.int], some (.array .float)⟩ := by decide +kernel
theorem pd_0_1 : parseMethodDescriptor "(I)V" = some ⟨[.int], none⟩ := by decide +kernel
theorem pd_0_2 : parseMethodDescriptor "([F[BI)V" = some ⟨[(.array .float), (.array .byte), .int], none⟩ := by decide +kernel
theorem pd_0_3 : parseMethodDescriptor "()V" = some ⟨[], none⟩ := by decide +kernel
theorem pd_0_4 : parseMethodDescriptor "()Lcom/example/reverie/reverie/ScalarQuantizer$Cursor;" = some ⟨[], some (.object "com/example/reverie/reverie/ScalarQuantizer$Cursor")⟩ := by decide +kernel
theorem pd_0_5 : parseMethodDescriptor "([BI)[F" = some ⟨[(.array .byte), .int], some (.array .float)⟩ := by decide +kernel
theorem ef_0 (m : MethodId) (i0 : Int32) (i1 : Int32) (i2 : Int32) (i3 : Int32) (i4 : Int32) : entryFrame m #[(.int i0), (.int i1), (.int i2), (.int i3), (.int i4)] maxLocals = mkF m 0 #[.val (.int i0), .val (.int i1), .val (.int i2), .val (.int i3), .val (.int i4), .unset, .unset, .unset, .unset, .unset, .unset, .unset, .unset, .unset, .unset, .unset, .unset, .unset, .unset] [] := by first | (simp [entryFrame, mkF, argsToLocals, Value.category, maxLocals]; done) | rfl
def Q0 (Z : State) (i0 : Int32) (i1 : Int32) (i2 : Int32) (i3 : Int32) (i4 : Int32) (h0 : Heap) (n0 : Nat) (v : Option Value) (h : Heap) (L : List Loc) : Prop := v = some (.int (1 : Int32)) ∧ Fr n0 L
set_option maxRecDepth 65536 in
set_option maxHeartbeats 40000000 in
theorem rm0 (l : Launch) (Z : State) (a0 : Array Value) (hw : ∀ d ∈ tables_1, d.before a0 Z = true) (ws : List Jvm.Cond) (i0 : Int32) (i1 : Int32) (i2 : Int32) (i3 : Int32) (i4 : Int32) (h0 : Heap) (n0 : Nat) (Z0 : n0 ≤ h0.size) :
    MetFree l x (head1 (Jvm.Cond.code x code maxLocals ret :: ws) room_1) (fun a U => a = #[(.int i0), (.int i1), (.int i2), (.int i3), (.int i4)] ∧ Z.Warmed39 U.vm ∧ U.heap = h0) (fun _ _ _ _ _ => True) (fun _ U o U' => ∃ v L, o = .returned v ∧ Q0 Z i0 i1 i2 i3 i4 h0 n0 v U'.heap L ∧ FrameEnd U o U' L room_1.cells room_1.slots) := by
  refine MetFree.of_bodySF pn_0 hisR ?_
  intro p e s m args below meth c s₁ Bd hml0 hP hK
  obtain ⟨rfl, hZ, hh⟩ := hP
  have hx := Bd.exec
  have hby := Bd.bytes
  have hml : c.maxLocals = 19 := hml0
  have hown : s.vm.findClass "com/example/reverie/reverie/ScalarQuantizerRemoveLastPinLaw" = some m.cls := findClass_of_methodNamed Bd.named
  have hnm := (name_of_methodNamed Bd.named Bd.method).1
  have X0 : Stand p l e room_1 s m #[(.int i0), (.int i1), (.int i2), (.int i3), (.int i4)] below meth c s₁ [] 0 0 := Stand.of_body Bd
  have e0 : s₁.heap = h0 := by rw [← hh, Bd.state]; rfl
  have N0 := Fr.nil n0
  refine own_at (castTop (ef_0 m i0 i1 i2 i3 i4)) ?_
  have K0 := Keep.refl h0 []
  have sg1 : ∀ t, own_S p e below s₁ (mkF m 1 (own_AIIIIIUUUUUUUUUUUUUU i0 i1 i2 i3 i4) [(.int i0)]) t → own_S p e below s₁ (mkF m 0 (own_AIIIIIUUUUUUUUUUUUUU i0 i1 i2 i3 i4) []) t := by
    intro t k
    refine XS.iloadN X0.here hx rfl (hb hby at_0) rfl ?_
    exact k
  refine own_by sg1 ?_
  obtain ⟨_, _, ⟨T1, L1, k1, n1⟩, -, X1, ⟨Lc1, hQ1, l1, y1, z1⟩, st1⟩ := Jvm.LawKit.callS X0 hx (y := (⟨"com/example/reverie/reverie/ScalarQuantizerRemoveLastPinLaw", "vec", "(I)[F"⟩ : MethodName)) hown (mvT hZ (own_w hw 0 rfl)) (mvT hZ (own_w hw 1 rfl)) (mvT hZ (own_w hw 2 rfl)) (mvT hZ (own_w hw 3 rfl)) (by decide) (backOf (W := 0) (rm1 l Z a0 hw [] i0 h0 n0 Z0) hZ (own_w hw 3 rfl) (own_w hw 2 rfl) (by decide) (by decide)) (g := (mkF m 1 (own_AIIIIIUUUUUUUUUUUUUU i0 i1 i2 i3 i4) [(.int i0)])) rfl (by rw [hml]; rfl) (argsL := [(.int i0)]) (rest := []) (lenOf pd_0_0 rfl) rfl (by show 2 * 0 + _ ≤ _; exact Nat.le_of_eq rfl) (hb hby at_1) (fun _ _ => ⟨rfl, e0, (by decide : 0 + 1 ≤ _), (by decide : 0 + 2 ≤ _)⟩)
  dsimp only [Pt.U, Pt.locs, Pt.cells, Pt.slots] at X1 l1 y1 z1 st1 hQ1
  subst l1 y1 z1
  obtain ⟨va, kr1, rfl, ge1, N1q, Kq1, Aq1⟩ := hQ1
  have N1 := Fr.app N0 N1q
  obtain ⟨va0, hva0⟩ : ∃ z : UInt32, z = (FP.i2f ((i0 >>> ((16 : Int32) &&& 31)).toInt16.toInt32)) := ⟨_, rfl⟩
  have sva0 : own_sh va0 := by rw [hva0]; exact own_sh_i2f _
  obtain ⟨va1, hva1⟩ : ∃ z : UInt32, z = (FP.i2f (i0.toInt16.toInt32)) := ⟨_, rfl⟩
  have sva1 : own_sh va1 := by rw [hva1]; exact own_sh_i2f _
  rw [← hva0, ← hva1] at Aq1
  have g_va : n0 ≤ va := Nat.le_trans Z0 ge1
  have sz_va : h0.size ≤ va := Nat.le_trans K0.1 ge1
  have K1 : Keep h0 T1.heap [] := K0.trans Kq1 (fun x hx => nomatch hx)
  have Z1 : n0 ≤ T1.heap.size := Nat.le_trans Z0 Kq1.1
  refine own_by st1 ?_
  have sg7 : ∀ t, own_S p e below T1 (mkF m 7 (own_AIIIIIRUUUUUUUUUUUUU i0 i1 i2 i3 i4 va) [(.int i1)]) t → own_S p e below T1 (mkF m 4 (own_AIIIIIUUUUUUUUUUUUUU i0 i1 i2 i3 i4) [(.ref va)]) t := by
    intro t k
    refine XS.astore X1.here hx rfl (hb hby at_4) rfl rfl (l' := (own_AIIIIIRUUUUUUUUUUUUU i0 i1 i2 i3 i4 va)) rfl ?_
    show own_S p e below T1 (mkF m 6 (own_AIIIIIRUUUUUUUUUUUUU i0 i1 i2 i3 i4 va) []) _
    refine XS.iloadN X1.here hx rfl (hb hby at_6) rfl ?_
    exact k
  refine own_by sg7 ?_
  obtain ⟨_, _, ⟨T7, L7, k7, n7⟩, -, X7, ⟨Lc7, hQ7, l7, y7, z7⟩, st7⟩ := Jvm.LawKit.callS X1 hx (y := (⟨"com/example/reverie/reverie/ScalarQuantizerRemoveLastPinLaw", "vec", "(I)[F"⟩ : MethodName)) hown (mvT hZ (own_w hw 0 rfl)) (mvT hZ (own_w hw 1 rfl)) (mvT hZ (own_w hw 2 rfl)) (mvT hZ (own_w hw 3 rfl)) (by decide) (backOf (W := 0) (rm1 l Z a0 hw [] i1 T1.heap n0 Z1) hZ (own_w hw 3 rfl) (own_w hw 2 rfl) (by decide) (by decide)) (g := (mkF m 7 (own_AIIIIIRUUUUUUUUUUUUU i0 i1 i2 i3 i4 va) [(.int i1)])) rfl (by rw [hml]; rfl) (argsL := [(.int i1)]) (rest := []) (lenOf pd_0_0 rfl) rfl (by show 2 * 0 + _ ≤ _; exact Nat.le_of_eq rfl) (hb hby at_7) (fun _ _ => ⟨rfl, rfl, (by decide : 1 + 1 ≤ _), (by decide : 2 + 2 ≤ _)⟩)
  dsimp only [Pt.U, Pt.locs, Pt.cells, Pt.slots] at X7 l7 y7 z7 st7 hQ7
  subst l7 y7 z7
  obtain ⟨vb, kr7, rfl, ge7, N7q, Kq7, Aq7⟩ := hQ7
  have N7 := Fr.app N1 N7q
  obtain ⟨vb0, hvb0⟩ : ∃ z : UInt32, z = (FP.i2f ((i1 >>> ((16 : Int32) &&& 31)).toInt16.toInt32)) := ⟨_, rfl⟩
  have svb0 : own_sh vb0 := by rw [hvb0]; exact own_sh_i2f _
  obtain ⟨vb1, hvb1⟩ : ∃ z : UInt32, z = (FP.i2f (i1.toInt16.toInt32)) := ⟨_, rfl⟩
  have svb1 : own_sh vb1 := by rw [hvb1]; exact own_sh_i2f _
  rw [← hvb0, ← hvb1] at Aq7
  have ne_va_vb : va ≠ vb := Nat.ne_of_lt (Nat.lt_of_lt_of_le Aq1.lt ge7)
  have g_vb : n0 ≤ vb := Nat.le_trans Z1 ge7
  have sz_vb : h0.size ≤ vb := Nat.le_trans K1.1 ge7
  have K7 : Keep h0 T7.heap [] := K1.trans Kq7 (fun x hx => nomatch hx)
  have Z7 : n0 ≤ T7.heap.size := Nat.le_trans Z1 Kq7.1
  refine own_by st7 ?_
  have sg13 : ∀ t, own_S p e below T7 (mkF m 13 (own_AIIIIIRRUUUUUUUUUUUU i0 i1 i2 i3 i4 va vb) [(.int i2)]) t → own_S p e below T7 (mkF m 10 (own_AIIIIIRUUUUUUUUUUUUU i0 i1 i2 i3 i4 va) [(.ref vb)]) t := by
    intro t k
    refine XS.astore X7.here hx rfl (hb hby at_10) rfl rfl (l' := (own_AIIIIIRRUUUUUUUUUUUU i0 i1 i2 i3 i4 va vb)) rfl ?_
    show own_S p e below T7 (mkF m 12 (own_AIIIIIRRUUUUUUUUUUUU i0 i1 i2 i3 i4 va vb) []) _
    refine XS.iloadN X7.here hx rfl (hb hby at_12) rfl ?_
    exact k
  refine own_by sg13 ?_
  obtain ⟨_, _, ⟨T13, L13, k13, n13⟩, -, X13, ⟨Lc13, hQ13, l13, y13, z13⟩, st13⟩ := Jvm.LawKit.callS X7 hx (y := (⟨"com/example/reverie/reverie/ScalarQuantizerRemoveLastPinLaw", "vec", "(I)[F"⟩ : MethodName)) hown (mvT hZ (own_w hw 0 rfl)) (mvT hZ (own_w hw 1 rfl)) (mvT hZ (own_w hw 2 rfl)) (mvT hZ (own_w hw 3 rfl)) (by decide) (backOf (W := 0) (rm1 l Z a0 hw [] i2 T7.heap n0 Z7) hZ (own_w hw 3 rfl) (own_w hw 2 rfl) (by decide) (by decide)) (g := (mkF m 13 (own_AIIIIIRRUUUUUUUUUUUU i0 i1 i2 i3 i4 va vb) [(.int i2)])) rfl (by rw [hml]; rfl) (argsL := [(.int i2)]) (rest := []) (lenOf pd_0_0 rfl) rfl (by show 2 * 0 + _ ≤ _; exact Nat.le_of_eq rfl) (hb hby at_13) (fun _ _ => ⟨rfl, rfl, (by decide : 2 + 1 ≤ _), (by decide : 4 + 2 ≤ _)⟩)
  dsimp only [Pt.U, Pt.locs, Pt.cells, Pt.slots] at X13 l13 y13 z13 st13 hQ13
  subst l13 y13 z13
  obtain ⟨vc, kr13, rfl, ge13, N13q, Kq13, Aq13⟩ := hQ13
  have N13 := Fr.app N7 N13q
  obtain ⟨vc0, hvc0⟩ : ∃ z : UInt32, z = (FP.i2f ((i2 >>> ((16 : Int32) &&& 31)).toInt16.toInt32)) := ⟨_, rfl⟩
  have svc0 : own_sh vc0 := by rw [hvc0]; exact own_sh_i2f _
  obtain ⟨vc1, hvc1⟩ : ∃ z : UInt32, z = (FP.i2f (i2.toInt16.toInt32)) := ⟨_, rfl⟩
  have svc1 : own_sh vc1 := by rw [hvc1]; exact own_sh_i2f _
  rw [← hvc0, ← hvc1] at Aq13
  have ne_va_vc : va ≠ vc := Nat.ne_of_lt (Nat.lt_of_lt_of_le (Aq1.keep Kq7 List.not_mem_nil).lt ge13)
  have ne_vb_vc : vb ≠ vc := Nat.ne_of_lt (Nat.lt_of_lt_of_le Aq7.lt ge13)
  have g_vc : n0 ≤ vc := Nat.le_trans Z7 ge13
  have sz_vc : h0.size ≤ vc := Nat.le_trans K7.1 ge13
  have K13 : Keep h0 T13.heap [] := K7.trans Kq13 (fun x hx => nomatch hx)
  have Z13 : n0 ≤ T13.heap.size := Nat.le_trans Z7 Kq13.1
  refine own_by st13 ?_
  have sg19 : ∀ t, own_S p e below T13 (mkF m 19 (own_AIIIIIRRRUUUUUUUUUUU i0 i1 i2 i3 i4 va vb vc) [(.int i3)]) t → own_S p e below T13 (mkF m 16 (own_AIIIIIRRUUUUUUUUUUUU i0 i1 i2 i3 i4 va vb) [(.ref vc)]) t := by
    intro t k
    refine XS.astore X13.here hx rfl (hb hby at_16) rfl rfl (l' := (own_AIIIIIRRRUUUUUUUUUUU i0 i1 i2 i3 i4 va vb vc)) rfl ?_
    show own_S p e below T13 (mkF m 18 (own_AIIIIIRRRUUUUUUUUUUU i0 i1 i2 i3 i4 va vb vc) []) _
    refine XS.iloadN X13.here hx rfl (hb hby at_18) rfl ?_
    exact k
  refine own_by sg19 ?_
  obtain ⟨_, _, ⟨T19, L19, k19, n19⟩, -, X19, ⟨Lc19, hQ19, l19, y19, z19⟩, st19⟩ := Jvm.LawKit.callS X13 hx (y := (⟨"com/example/reverie/reverie/ScalarQuantizerRemoveLastPinLaw", "vec", "(I)[F"⟩ : MethodName)) hown (mvT hZ (own_w hw 0 rfl)) (mvT hZ (own_w hw 1 rfl)) (mvT hZ (own_w hw 2 rfl)) (mvT hZ (own_w hw 3 rfl)) (by decide) (backOf (W := 0) (rm1 l Z a0 hw [] i3 T13.heap n0 Z13) hZ (own_w hw 3 rfl) (own_w hw 2 rfl) (by decide) (by decide)) (g := (mkF m 19 (own_AIIIIIRRRUUUUUUUUUUU i0 i1 i2 i3 i4 va vb vc) [(.int i3)])) rfl (by rw [hml]; rfl) (argsL := [(.int i3)]) (rest := []) (lenOf pd_0_0 rfl) rfl (by show 2 * 0 + _ ≤ _; exact Nat.le_of_eq rfl) (hb hby at_19) (fun _ _ => ⟨rfl, rfl, (by decide : 3 + 1 ≤ _), (by decide : 6 + 2 ≤ _)⟩)
  dsimp only [Pt.U, Pt.locs, Pt.cells, Pt.slots] at X19 l19 y19 z19 st19 hQ19
  subst l19 y19 z19
  obtain ⟨vd, kr19, rfl, ge19, N19q, Kq19, Aq19⟩ := hQ19
  have N19 := Fr.app N13 N19q
  obtain ⟨vd0, hvd0⟩ : ∃ z : UInt32, z = (FP.i2f ((i3 >>> ((16 : Int32) &&& 31)).toInt16.toInt32)) := ⟨_, rfl⟩
  have svd0 : own_sh vd0 := by rw [hvd0]; exact own_sh_i2f _
  obtain ⟨vd1, hvd1⟩ : ∃ z : UInt32, z = (FP.i2f (i3.toInt16.toInt32)) := ⟨_, rfl⟩
  have svd1 : own_sh vd1 := by rw [hvd1]; exact own_sh_i2f _
  rw [← hvd0, ← hvd1] at Aq19
  have ne_va_vd : va ≠ vd := Nat.ne_of_lt (Nat.lt_of_lt_of_le ((Aq1.keep Kq7 List.not_mem_nil).keep Kq13 List.not_mem_nil).lt ge19)
  have ne_vb_vd : vb ≠ vd := Nat.ne_of_lt (Nat.lt_of_lt_of_le (Aq7.keep Kq13 List.not_mem_nil).lt ge19)
  have ne_vc_vd : vc ≠ vd := Nat.ne_of_lt (Nat.lt_of_lt_of_le Aq13.lt ge19)
  have g_vd : n0 ≤ vd := Nat.le_trans Z13 ge19
  have sz_vd : h0.size ≤ vd := Nat.le_trans K13.1 ge19
  have fc := (((Aq1.keep Kq7 List.not_mem_nil).keep Kq13 List.not_mem_nil).keep Kq19 List.not_mem_nil)
  have fc_2 := ((Aq7.keep Kq13 List.not_mem_nil).keep Kq19 List.not_mem_nil)
  have K19 : Keep h0 T19.heap [] := K13.trans Kq19 (fun x hx => nomatch hx)
  have Z19 : n0 ≤ T19.heap.size := Nat.le_trans Z13 Kq19.1
  refine own_by st19 ?_
  have sg28 : ∀ t, own_S p e below T19 (mkF m 28 (own_AIIIIIRRRRUUUUUUUUUU i0 i1 i2 i3 i4 va vb vc vd) [(.int (i4 &&& (1 : Int32)))]) t → own_S p e below T19 (mkF m 22 (own_AIIIIIRRRUUUUUUUUUUU i0 i1 i2 i3 i4 va vb vc) [(.ref vd)]) t := by
    intro t k
    refine XS.astore X19.here hx rfl (hb hby at_22) rfl rfl (l' := (own_AIIIIIRRRRUUUUUUUUUU i0 i1 i2 i3 i4 va vb vc vd)) rfl ?_
    show own_S p e below T19 (mkF m 24 (own_AIIIIIRRRRUUUUUUUUUU i0 i1 i2 i3 i4 va vb vc vd) []) _
    refine XS.iload X19.here hx rfl (hb hby at_24) rfl ?_
    show own_S p e below T19 (mkF m 26 (own_AIIIIIRRRRUUUUUUUUUU i0 i1 i2 i3 i4 va vb vc vd) [(.int i4)]) _
    refine XS.iconst X19.here hx rfl (hb hby at_26) ?_
    show own_S p e below T19 (mkF m 27 (own_AIIIIIRRRRUUUUUUUUUU i0 i1 i2 i3 i4 va vb vc vd) [(.int (1 : Int32)), (.int i4)]) _
    refine XS.iand X19.here hx rfl (hb hby at_27) rfl ?_
    exact k
  refine own_by sg28 ?_
  obtain ⟨r28_s0, hr28_s0⟩ : ∃ z : Int32, z = (if (i4 &&& (1 : Int32)) = (0 : Int32) then (0 : Int32) else (1 : Int32)) := ⟨_, rfl⟩
  have str28 : ∀ t, own_S p e below T19 (mkF m 36 (own_AIIIIIRRRRUUUUUUUUUU i0 i1 i2 i3 i4 va vb vc vd) [(.int r28_s0)]) t → own_S p e below T19 (mkF m 28 (own_AIIIIIRRRRUUUUUUUUUU i0 i1 i2 i3 i4 va vb vc vd) [(.int (i4 &&& (1 : Int32)))]) t := by
    by_cases hc28 : (i4 &&& (1 : Int32)) = (0 : Int32)
    · rw [if_pos hc28] at hr28_s0
      have sg36 : ∀ t, own_S p e below T19 (mkF m 36 (own_AIIIIIRRRRUUUUUUUUUU i0 i1 i2 i3 i4 va vb vc vd) [(.int (0 : Int32))]) t → own_S p e below T19 (mkF m 28 (own_AIIIIIRRRRUUUUUUUUUU i0 i1 i2 i3 i4 va vb vc vd) [(.int (i4 &&& (1 : Int32)))]) t := by
        intro t k
        refine XS.ifYes X19.here hx rfl (pc0 := 28) (pc' := 35) rfl (hb hby at_28) rfl ((if0 _ _).trans (teq hc28).1) (by decide) (by decide) ?_
        show own_S p e below T19 (mkF m 35 (own_AIIIIIRRRRUUUUUUUUUU i0 i1 i2 i3 i4 va vb vc vd) []) _
        refine XS.iconst X19.here hx rfl (hb hby at_35) ?_
        exact k
      rw [hr28_s0]
      exact fun t k => (sg36 t k)
    · rw [if_neg hc28] at hr28_s0
      have sg36 : ∀ t, own_S p e below T19 (mkF m 36 (own_AIIIIIRRRRUUUUUUUUUU i0 i1 i2 i3 i4 va vb vc vd) [(.int (1 : Int32))]) t → own_S p e below T19 (mkF m 28 (own_AIIIIIRRRRUUUUUUUUUU i0 i1 i2 i3 i4 va vb vc vd) [(.int (i4 &&& (1 : Int32)))]) t := by
        intro t k
        refine XS.ifNo X19.here hx rfl (hb hby at_28) rfl ((if0 _ _).trans (feq hc28).1) ?_
        show own_S p e below T19 (mkF m 31 (own_AIIIIIRRRRUUUUUUUUUU i0 i1 i2 i3 i4 va vb vc vd) []) _
        refine XS.iconst X19.here hx rfl (hb hby at_31) ?_
        show own_S p e below T19 (mkF m 32 (own_AIIIIIRRRRUUUUUUUUUU i0 i1 i2 i3 i4 va vb vc vd) [(.int (1 : Int32))]) _
        refine XS.goto X19.here hx rfl (pc0 := 32) (pc' := 36) rfl (hb hby at_32) (by decide) (by decide) ?_
        exact k
      rw [hr28_s0]
      exact fun t k => (sg36 t k)
  refine own_by str28 ?_
  have sg39 : ∀ t, own_S p e below T19 (mkF m 39 (own_AIIIIIRRRRIUUUUUUUUU i0 i1 i2 i3 i4 va vb vc vd r28_s0) [(.int (2 : Int32))]) t → own_S p e below T19 (mkF m 36 (own_AIIIIIRRRRUUUUUUUUUU i0 i1 i2 i3 i4 va vb vc vd) [(.int r28_s0)]) t := by
    intro t k
    refine XS.istore X19.here hx rfl (hb hby at_36) rfl (l' := (own_AIIIIIRRRRIUUUUUUUUU i0 i1 i2 i3 i4 va vb vc vd r28_s0)) rfl ?_
    show own_S p e below T19 (mkF m 38 (own_AIIIIIRRRRIUUUUUUUUU i0 i1 i2 i3 i4 va vb vc vd r28_s0) []) _
    refine XS.iconst X19.here hx rfl (hb hby at_38) ?_
    exact k
  refine own_by sg39 ?_
  obtain ⟨T39, h39, kc39, X39, e39, E39, A39, st39⟩ := newP X19 hx hZ (own_w hw 5 rfl) rfl (g := (mkF m 39 (own_AIIIIIRRRRIUUUUUUUUU i0 i1 i2 i3 i4 va vb vc vd r28_s0) [(.int (2 : Int32))])) rfl (hb hby at_39) rfl (by decide) (cap := 2) (by decide) (by decide) (by decide) (by decide)
  obtain ⟨b39, g39⟩ : ∃ z, z = T19.heap.size := ⟨_, rfl⟩
  rw [← g39] at A39 st39
  have ne_va_b39 : va ≠ b39 := Nat.ne_of_lt (Nat.lt_of_lt_of_le fc.lt (Nat.le_of_eq g39.symm))
  have ne_vb_b39 : vb ≠ b39 := Nat.ne_of_lt (Nat.lt_of_lt_of_le fc_2.lt (Nat.le_of_eq g39.symm))
  have ne_vc_b39 : vc ≠ b39 := Nat.ne_of_lt (Nat.lt_of_lt_of_le (Aq13.keep Kq19 List.not_mem_nil).lt (Nat.le_of_eq g39.symm))
  have ne_vd_b39 : vd ≠ b39 := Nat.ne_of_lt (Nat.lt_of_lt_of_le Aq19.lt (Nat.le_of_eq g39.symm))
  have g_b39 : n0 ≤ b39 := Nat.le_trans Z19 (Nat.le_of_eq g39.symm)
  have sz_b39 : h0.size ≤ b39 := Nat.le_trans K19.1 (Nat.le_of_eq g39.symm)
  have K39 := K19.ext E39
  have Z39 : n0 ≤ h39.size := Nat.le_trans Z19 E39.1
  have V39 : Arv Z h39 b39 kc39 .byte (2 : Int32) [(.int (0 : Int32)), (.int (0 : Int32))] (.int (0 : Int32)) := (Arv.new A39 (by decide)).pad (pad_rep [] (.int (0 : Int32)) 2)
  refine own_by st39 ?_
  have sg44 : ∀ t, own_S p e below T39 (mkF m 44 (own_AIIIIIRRRRIRUUUUUUUU i0 i1 i2 i3 i4 va vb vc vd r28_s0 b39) [(.int (2 : Int32))]) t → own_S p e below T39 (mkF m 41 (own_AIIIIIRRRRIUUUUUUUUU i0 i1 i2 i3 i4 va vb vc vd r28_s0) [(.ref b39)]) t := by
    intro t k
    refine XS.astore X39.here hx rfl (hb hby at_41) rfl rfl (l' := (own_AIIIIIRRRRIRUUUUUUUU i0 i1 i2 i3 i4 va vb vc vd r28_s0 b39)) rfl ?_
    show own_S p e below T39 (mkF m 43 (own_AIIIIIRRRRIRUUUUUUUU i0 i1 i2 i3 i4 va vb vc vd r28_s0 b39) []) _
    refine XS.iconst X39.here hx rfl (hb hby at_43) ?_
    exact k
  refine own_by sg44 ?_
  obtain ⟨T44, h44, kc44, X44, e44, E44, A44, st44⟩ := newP X39 hx hZ (own_w hw 5 rfl) e39 (g := (mkF m 44 (own_AIIIIIRRRRIRUUUUUUUU i0 i1 i2 i3 i4 va vb vc vd r28_s0 b39) [(.int (2 : Int32))])) rfl (hb hby at_44) rfl (by decide) (cap := 2) (by decide) (by decide) (by decide) (by decide)
  obtain ⟨b44, g44⟩ : ∃ z, z = h39.size := ⟨_, rfl⟩
  rw [← g44] at A44 st44
  have ne_va_b44 : va ≠ b44 := Nat.ne_of_lt (Nat.lt_of_lt_of_le (fc.ext E39).lt (Nat.le_of_eq g44.symm))
  have ne_vb_b44 : vb ≠ b44 := Nat.ne_of_lt (Nat.lt_of_lt_of_le (fc_2.ext E39).lt (Nat.le_of_eq g44.symm))
  have ne_vc_b44 : vc ≠ b44 := Nat.ne_of_lt (Nat.lt_of_lt_of_le ((Aq13.keep Kq19 List.not_mem_nil).ext E39).lt (Nat.le_of_eq g44.symm))
  have ne_vd_b44 : vd ≠ b44 := Nat.ne_of_lt (Nat.lt_of_lt_of_le (Aq19.ext E39).lt (Nat.le_of_eq g44.symm))
  have ne_b39_b44 : b39 ≠ b44 := Nat.ne_of_lt (Nat.lt_of_lt_of_le V39.lt (Nat.le_of_eq g44.symm))
  have g_b44 : n0 ≤ b44 := Nat.le_trans Z39 (Nat.le_of_eq g44.symm)
  have sz_b44 : h0.size ≤ b44 := Nat.le_trans K39.1 (Nat.le_of_eq g44.symm)
  have K44 := K39.ext E44
  have Z44 : n0 ≤ h44.size := Nat.le_trans Z39 E44.1
  have V44 : Arv Z h44 b44 kc44 .byte (2 : Int32) [(.int (0 : Int32)), (.int (0 : Int32))] (.int (0 : Int32)) := (Arv.new A44 (by decide)).pad (pad_rep [] (.int (0 : Int32)) 2)
  refine own_by st44 ?_
  have sg49 : ∀ t, own_S p e below T44 (mkF m 49 (own_AIIIIIRRRRIRRUUUUUUU i0 i1 i2 i3 i4 va vb vc vd r28_s0 b39 b44) [(.int (2 : Int32))]) t → own_S p e below T44 (mkF m 46 (own_AIIIIIRRRRIRUUUUUUUU i0 i1 i2 i3 i4 va vb vc vd r28_s0 b39) [(.ref b44)]) t := by
    intro t k
    refine XS.astore X44.here hx rfl (hb hby at_46) rfl rfl (l' := (own_AIIIIIRRRRIRRUUUUUUU i0 i1 i2 i3 i4 va vb vc vd r28_s0 b39 b44)) rfl ?_
    show own_S p e below T44 (mkF m 48 (own_AIIIIIRRRRIRRUUUUUUU i0 i1 i2 i3 i4 va vb vc vd r28_s0 b39 b44) []) _
    refine XS.iconst X44.here hx rfl (hb hby at_48) ?_
    exact k
  refine own_by sg49 ?_
  obtain ⟨T49, h49, kc49, X49, e49, E49, A49, st49⟩ := newP X44 hx hZ (own_w hw 5 rfl) e44 (g := (mkF m 49 (own_AIIIIIRRRRIRRUUUUUUU i0 i1 i2 i3 i4 va vb vc vd r28_s0 b39 b44) [(.int (2 : Int32))])) rfl (hb hby at_49) rfl (by decide) (cap := 2) (by decide) (by decide) (by decide) (by decide)
  obtain ⟨b49, g49⟩ : ∃ z, z = h44.size := ⟨_, rfl⟩
  rw [← g49] at A49 st49
  have ne_va_b49 : va ≠ b49 := Nat.ne_of_lt (Nat.lt_of_lt_of_le ((fc.ext E39).ext E44).lt (Nat.le_of_eq g49.symm))
  have ne_vb_b49 : vb ≠ b49 := Nat.ne_of_lt (Nat.lt_of_lt_of_le ((fc_2.ext E39).ext E44).lt (Nat.le_of_eq g49.symm))
  have ne_vc_b49 : vc ≠ b49 := Nat.ne_of_lt (Nat.lt_of_lt_of_le (((Aq13.keep Kq19 List.not_mem_nil).ext E39).ext E44).lt (Nat.le_of_eq g49.symm))
  have ne_vd_b49 : vd ≠ b49 := Nat.ne_of_lt (Nat.lt_of_lt_of_le ((Aq19.ext E39).ext E44).lt (Nat.le_of_eq g49.symm))
  have ne_b39_b49 : b39 ≠ b49 := Nat.ne_of_lt (Nat.lt_of_lt_of_le (V39.ext E44).lt (Nat.le_of_eq g49.symm))
  have ne_b44_b49 : b44 ≠ b49 := Nat.ne_of_lt (Nat.lt_of_lt_of_le V44.lt (Nat.le_of_eq g49.symm))
  have g_b49 : n0 ≤ b49 := Nat.le_trans Z44 (Nat.le_of_eq g49.symm)
  have sz_b49 : h0.size ≤ b49 := Nat.le_trans K44.1 (Nat.le_of_eq g49.symm)
  have fc_3 := ((((Aq13.keep Kq19 List.not_mem_nil).ext E39).ext E44).ext E49)
  have K49 := K44.ext E49
  have Z49 : n0 ≤ h49.size := Nat.le_trans Z44 E49.1
  have V49 : Arv Z h49 b49 kc49 .byte (2 : Int32) [(.int (0 : Int32)), (.int (0 : Int32))] (.int (0 : Int32)) := (Arv.new A49 (by decide)).pad (pad_rep [] (.int (0 : Int32)) 2)
  refine own_by st49 ?_
  have lt53_va : va < h49.size := (((fc.ext E39).ext E44).ext E49).lt
  have lt53_vb : vb < h49.size := (((fc_2.ext E39).ext E44).ext E49).lt
  have lt53_vc : vc < h49.size := fc_3.lt
  have lt53_vd : vd < h49.size := (((Aq19.ext E39).ext E44).ext E49).lt
  have lt53_b39 : b39 < h49.size := ((V39.ext E44).ext E49).lt
  have lt53_b44 : b44 < h49.size := (V44.ext E49).lt
  have lt53_b49 : b49 < h49.size := V49.lt
  have sg53 : ∀ t, own_S p e below T49 (mkF m 53 (own_AIIIIIRRRRIRRRUUUUUU i0 i1 i2 i3 i4 va vb vc vd r28_s0 b39 b44 b49) []) t → own_S p e below T49 (mkF m 51 (own_AIIIIIRRRRIRRUUUUUUU i0 i1 i2 i3 i4 va vb vc vd r28_s0 b39 b44) [(.ref b49)]) t := by
    intro t k
    refine XS.astore X49.here hx rfl (hb hby at_51) rfl rfl (l' := (own_AIIIIIRRRRIRRRUUUUUU i0 i1 i2 i3 i4 va vb vc vd r28_s0 b39 b44 b49)) rfl ?_
    exact k
  refine own_by sg53 ?_
  obtain ⟨T53, h53, X53, e53, E53, A53, D53, -, st53⟩ := newO X49 hx hZ hown (own_w hw 6 rfl) (own_w hw 7 rfl) (own_w hw 8 rfl) e49 (g := (mkF m 53 (own_AIIIIIRRRRIRRRUUUUUU i0 i1 i2 i3 i4 va vb vc vd r28_s0 b39 b44 b49) [])) rfl (hb hby at_53) (by decide) (by decide)
  obtain ⟨b53, g53⟩ : ∃ z, z = h49.size := ⟨_, rfl⟩
  rw [← g53] at A53 D53 st53
  have ne_va_b53 : va ≠ b53 := Nat.ne_of_lt (Nat.lt_of_lt_of_le (((fc.ext E39).ext E44).ext E49).lt (Nat.le_of_eq g53.symm))
  have ne_vb_b53 : vb ≠ b53 := Nat.ne_of_lt (Nat.lt_of_lt_of_le (((fc_2.ext E39).ext E44).ext E49).lt (Nat.le_of_eq g53.symm))
  have ne_vc_b53 : vc ≠ b53 := Nat.ne_of_lt (Nat.lt_of_lt_of_le fc_3.lt (Nat.le_of_eq g53.symm))
  have ne_vd_b53 : vd ≠ b53 := Nat.ne_of_lt (Nat.lt_of_lt_of_le (((Aq19.ext E39).ext E44).ext E49).lt (Nat.le_of_eq g53.symm))
  have ne_b39_b53 : b39 ≠ b53 := Nat.ne_of_lt (Nat.lt_of_lt_of_le ((V39.ext E44).ext E49).lt (Nat.le_of_eq g53.symm))
  have ne_b44_b53 : b44 ≠ b53 := Nat.ne_of_lt (Nat.lt_of_lt_of_le (V44.ext E49).lt (Nat.le_of_eq g53.symm))
  have ne_b49_b53 : b49 ≠ b53 := Nat.ne_of_lt (Nat.lt_of_lt_of_le V49.lt (Nat.le_of_eq g53.symm))
  have g_b53 : n0 ≤ b53 := Nat.le_trans Z49 (Nat.le_of_eq g53.symm)
  have sz_b53 : h0.size ≤ b53 := Nat.le_trans K49.1 (Nat.le_of_eq g53.symm)
  have K53 := K49.ext E53
  have Z53 : n0 ≤ h53.size := Nat.le_trans Z49 E53.1
  have F_changeStarts_b53 : Fld Z h53 b53 "com/example/reverie/reverie/ScalarQuantizer" "changeStarts" "[I" .null := D53 (Or.inl (own_w hw 29 rfl)) (ty := (.array .int)) (by decide)
  have F_changeDimensions_b53 : Fld Z h53 b53 "com/example/reverie/reverie/ScalarQuantizer" "changeDimensions" "[I" .null := D53 (Or.inl (own_w hw 31 rfl)) (ty := (.array .int)) (by decide)
  have F_changeLows_b53 : Fld Z h53 b53 "com/example/reverie/reverie/ScalarQuantizer" "changeLows" "[F" .null := D53 (Or.inl (own_w hw 33 rfl)) (ty := (.array .float)) (by decide)
  have F_changeHighs_b53 : Fld Z h53 b53 "com/example/reverie/reverie/ScalarQuantizer" "changeHighs" "[F" .null := D53 (Or.inl (own_w hw 35 rfl)) (ty := (.array .float)) (by decide)
  have F_changeScales_b53 : Fld Z h53 b53 "com/example/reverie/reverie/ScalarQuantizer" "changeScales" "[F" .null := D53 (Or.inl (own_w hw 37 rfl)) (ty := (.array .float)) (by decide)
  have F_dimension_b53 : Fld Z h53 b53 "com/example/reverie/reverie/ScalarQuantizer" "dimension" "I" (.int (0 : Int32)) := D53 (Or.inr (own_w hw 39 rfl)) (ty := .int) (by decide)
  have F_lows_b53 : Fld Z h53 b53 "com/example/reverie/reverie/ScalarQuantizer" "lows" "[F" .null := D53 (Or.inr (own_w hw 50 rfl)) (ty := (.array .float)) (by decide)
  have F_highs_b53 : Fld Z h53 b53 "com/example/reverie/reverie/ScalarQuantizer" "highs" "[F" .null := D53 (Or.inr (own_w hw 52 rfl)) (ty := (.array .float)) (by decide)
  have F_scales_b53 : Fld Z h53 b53 "com/example/reverie/reverie/ScalarQuantizer" "scales" "[F" .null := D53 (Or.inr (own_w hw 54 rfl)) (ty := (.array .float)) (by decide)
  have F_startLows_b53 : Fld Z h53 b53 "com/example/reverie/reverie/ScalarQuantizer" "startLows" "[F" .null := D53 (Or.inr (own_w hw 56 rfl)) (ty := (.array .float)) (by decide)
  have F_startHighs_b53 : Fld Z h53 b53 "com/example/reverie/reverie/ScalarQuantizer" "startHighs" "[F" .null := D53 (Or.inr (own_w hw 58 rfl)) (ty := (.array .float)) (by decide)
  have F_startScales_b53 : Fld Z h53 b53 "com/example/reverie/reverie/ScalarQuantizer" "startScales" "[F" .null := D53 (Or.inr (own_w hw 60 rfl)) (ty := (.array .float)) (by decide)
  have F_changeCount_b53 : Fld Z h53 b53 "com/example/reverie/reverie/ScalarQuantizer" "changeCount" "I" (.int (0 : Int32)) := D53 (Or.inl (own_w hw 82 rfl)) (ty := .int) (by decide)
  have F_encodedCount_b53 : Fld Z h53 b53 "com/example/reverie/reverie/ScalarQuantizer" "encodedCount" "I" (.int (0 : Int32)) := D53 (Or.inl (own_w hw 84 rfl)) (ty := .int) (by decide)
  refine own_by st53 ?_
  have lb53_va : va < b53 := by rw [g53]; exact lt53_va
  have lb53_vb : vb < b53 := by rw [g53]; exact lt53_vb
  have lb53_vc : vc < b53 := by rw [g53]; exact lt53_vc
  have lb53_vd : vd < b53 := by rw [g53]; exact lt53_vd
  have lb53_b39 : b39 < b53 := by rw [g53]; exact lt53_b39
  have lb53_b44 : b44 < b53 := by rw [g53]; exact lt53_b44
  have lb53_b49 : b49 < b53 := by rw [g53]; exact lt53_b49
  have sg58 : ∀ t, own_S p e below T53 (mkF m 58 (own_AIIIIIRRRRIRRRUUUUUU i0 i1 i2 i3 i4 va vb vc vd r28_s0 b39 b44 b49) [(.int (2 : Int32)), (.ref b53), (.ref b53)]) t → own_S p e below T53 (mkF m 56 (own_AIIIIIRRRRIRRRUUUUUU i0 i1 i2 i3 i4 va vb vc vd r28_s0 b39 b44 b49) [(.ref b53)]) t := by
    intro t k
    refine XS.dup X53.here hx rfl (hb hby at_56) rfl rfl ?_
    show own_S p e below T53 (mkF m 57 (own_AIIIIIRRRRIRRRUUUUUU i0 i1 i2 i3 i4 va vb vc vd r28_s0 b39 b44 b49) [(.ref b53), (.ref b53)]) _
    refine XS.iconst X53.here hx rfl (hb hby at_57) ?_
    exact k
  refine own_by sg58 ?_
  obtain ⟨_, _, ⟨T58, L58, k58, n58⟩, -, X58, ⟨Lc58, hQ58, l58, y58, z58⟩, st58⟩ := X53.specialBack hx (y := (⟨"com/example/reverie/reverie/ScalarQuantizer", "<init>", "(I)V"⟩ : MethodName)) rfl hown (mvT hZ (own_w hw 9 rfl)) (mvT hZ (own_w hw 10 rfl)) (mvT hZ (own_w hw 11 rfl)) (by decide) (backOf (W := 1) (rm2 l Z a0 hw [] b53 h53 n0 Z53 A53 F_changeStarts_b53 F_changeDimensions_b53 F_changeLows_b53 F_changeHighs_b53 F_changeScales_b53 F_dimension_b53 F_lows_b53 F_highs_b53 F_scales_b53 F_startLows_b53 F_startHighs_b53 F_startScales_b53 F_encodedCount_b53 F_changeCount_b53 g_b53) hZ (own_w hw 11 rfl) (own_w hw 8 rfl) (by decide) (by decide)) (g := (mkF m 58 (own_AIIIIIRRRRIRRRUUUUUU i0 i1 i2 i3 i4 va vb vc vd r28_s0 b39 b44 b49) [(.int (2 : Int32)), (.ref b53), (.ref b53)])) rfl (by rw [hml]; rfl) (Steps.refl _) (a := b53) (argsL := [(.int (2 : Int32))]) (rest := [(.ref b53)]) (lenOf pd_0_1 rfl) rfl (by show 2 * 0 + _ ≤ _; exact Nat.le_of_eq rfl) (hb hby at_58) (fun _ _ => ⟨rfl, e53, (by decide : 8 + 14 ≤ _), (by decide : 28 + 98 ≤ _)⟩)
  dsimp only [Pt.U, Pt.locs, Pt.cells, Pt.slots] at X58 l58 y58 z58 st58 hQ58
  subst l58 y58 z58
  obtain ⟨rfl, N58q, Kq58, tlq, thq, tsq, slq, shq, ssq, cSq, cDq, cLq, cHq, cCq, al58, QQ58⟩ := hQ58
  have N58 := Fr.app N19 N58q
  have ge_q : ∀ y ∈ [b53, tlq, thq, tsq, slq, shq, ssq, cSq, cDq, cLq, cHq, cCq], b53 ≤ y := allS (Nat.le_refl _) (fun y hy => Nat.le_trans (Nat.le_of_lt A53.lt) (al58 y hy))
  have gn_q : ∀ y ∈ [b53, tlq, thq, tsq, slq, shq, ssq, cSq, cDq, cLq, cHq, cCq], n0 ≤ y := fun y hy => Nat.le_trans g_b53 (ge_q y hy)
  have gz_q : ∀ y ∈ [b53, tlq, thq, tsq, slq, shq, ssq, cSq, cDq, cLq, cHq, cCq], h0.size ≤ y := fun y hy => Nat.le_trans sz_b53 (ge_q y hy)
  have fc_4 := (((((fc.ext E39).ext E44).ext E49).ext E53).keep Kq58 (fun h => ne_va_b53 (List.mem_singleton.mp h)))
  have fc_5 := (((((fc_2.ext E39).ext E44).ext E49).ext E53).keep Kq58 (fun h => ne_vb_b53 (List.mem_singleton.mp h)))
  have fc_6 := ((fc_3.ext E53).keep Kq58 (fun h => ne_vc_b53 (List.mem_singleton.mp h)))
  have fc_7 := (((((Aq19.ext E39).ext E44).ext E49).ext E53).keep Kq58 (fun h => ne_vd_b53 (List.mem_singleton.mp h)))
  have fc_8 := ((((V39.ext E44).ext E49).ext E53).keep Kq58 (fun h => ne_b39_b53 (List.mem_singleton.mp h)))
  have fc_9 := (((V44.ext E49).ext E53).keep Kq58 (fun h => ne_b44_b53 (List.mem_singleton.mp h)))
  have fc_10 := ((V49.ext E53).keep Kq58 (fun h => ne_b49_b53 (List.mem_singleton.mp h)))
  have K58 : Keep h0 T58.heap [] := K53.trans Kq58 (fun x hx => by cases List.mem_singleton.mp hx; exact (Or.inr sz_b53))
  have Z58 : n0 ≤ T58.heap.size := Nat.le_trans Z53 Kq58.1
  have R58 : own_R Z T58.heap b53 tlq thq tsq slq shq ssq cSq cDq cLq cHq cCq (0 : Int32) ([] : List own_E) := ⟨_, _, _, _, _, _, rfl, rfl, QQ58⟩
  refine own_by (fun t k => st58.trans k) ?_
  have sg63 : ∀ t, own_S p e below T58 (mkF m 63 (own_AIIIIIRRRRIRRRRUUUUU i0 i1 i2 i3 i4 va vb vc vd r28_s0 b39 b44 b49 b53) []) t → own_S p e below T58 (mkF m 61 (own_AIIIIIRRRRIRRRUUUUUU i0 i1 i2 i3 i4 va vb vc vd r28_s0 b39 b44 b49) [(.ref b53)]) t := by
    intro t k
    refine XS.astore X58.here hx rfl (hb hby at_61) rfl rfl (l' := (own_AIIIIIRRRRIRRRRUUUUU i0 i1 i2 i3 i4 va vb vc vd r28_s0 b39 b44 b49 b53)) rfl ?_
    exact k
  refine own_by sg63 ?_
  obtain ⟨TJ, LJ, HJ, y0J, y1J, XJ, NJ, eJ, KqJ, RJ, AJ, stJ⟩ : ∃ (T' : State) (L' : List Loc) (H' : Heap) (y0 y1 : Int32), Stand p l e room_1 s m #[(.int i0), (.int i1), (.int i2), (.int i3), (.int i4)] below meth c T' L' 22 126 ∧ Fr n0 L' ∧ T'.heap = H' ∧ Keep T58.heap H' [b53, tlq, thq, tsq, cSq, cDq, cLq, cHq, cCq, b39] ∧ own_R Z H' b53 tlq thq tsq slq shq ssq cSq cDq cLq cHq cCq (0 : Int32) ([] : List own_E) ∧ Arv Z H' b39 kc39 .byte (2 : Int32) [(.int y0), (.int y1)] (.int (0 : Int32)) ∧ ∀ t, own_S p e below T' (mkF m 83 (own_AIIIIIRRRRIRRRRUUUUU i0 i1 i2 i3 i4 va vb vc vd r28_s0 b39 b44 b49 b53) []) t → own_S p e below T58 (mkF m 63 (own_AIIIIIRRRRIRRRRUUUUU i0 i1 i2 i3 i4 va vb vc vd r28_s0 b39 b44 b49 b53) []) t := by
    have sg65 : ∀ t, own_S p e below T58 (mkF m 65 (own_AIIIIIRRRRIRRRRUUUUU i0 i1 i2 i3 i4 va vb vc vd r28_s0 b39 b44 b49 b53) [(.int r28_s0)]) t → own_S p e below T58 (mkF m 63 (own_AIIIIIRRRRIRRRRUUUUU i0 i1 i2 i3 i4 va vb vc vd r28_s0 b39 b44 b49 b53) []) t := by
      intro t k
      refine XS.iload X58.here hx rfl (hb hby at_63) rfl ?_
      exact k
    by_cases hc65 : r28_s0 = (0 : Int32)
    · have sg83 : ∀ t, own_S p e below T58 (mkF m 83 (own_AIIIIIRRRRIRRRRUUUUU i0 i1 i2 i3 i4 va vb vc vd r28_s0 b39 b44 b49 b53) []) t → own_S p e below T58 (mkF m 65 (own_AIIIIIRRRRIRRRRUUUUU i0 i1 i2 i3 i4 va vb vc vd r28_s0 b39 b44 b49 b53) [(.int r28_s0)]) t := by
        intro t k
        refine XS.ifYes X58.here hx rfl (pc0 := 65) (pc' := 83) rfl (hb hby at_65) rfl ((if0 _ _).trans (teq hc65).1) (by decide) (by decide) ?_
        exact k
      exact ⟨T58, _, _, (0 : Int32), (0 : Int32), X58, N58, rfl, Keep.refl _ _, R58, fc_8, fun t k => (sg65 t (sg83 t k))⟩
    · have sg75 : ∀ t, own_S p e below T58 (mkF m 75 (own_AIIIIIRRRRIRRRRUUUUU i0 i1 i2 i3 i4 va vb vc vd r28_s0 b39 b44 b49 b53) [(.int (0 : Int32)), (.ref b39), (.ref vd), (.ref b53)]) t → own_S p e below T58 (mkF m 65 (own_AIIIIIRRRRIRRRRUUUUU i0 i1 i2 i3 i4 va vb vc vd r28_s0 b39 b44 b49 b53) [(.int r28_s0)]) t := by
        intro t k
        refine XS.ifNo X58.here hx rfl (hb hby at_65) rfl ((if0 _ _).trans (feq hc65).1) ?_
        show own_S p e below T58 (mkF m 68 (own_AIIIIIRRRRIRRRRUUUUU i0 i1 i2 i3 i4 va vb vc vd r28_s0 b39 b44 b49 b53) []) _
        refine XS.aload X58.here hx rfl (hb hby at_68) rfl rfl ?_
        show own_S p e below T58 (mkF m 70 (own_AIIIIIRRRRIRRRRUUUUU i0 i1 i2 i3 i4 va vb vc vd r28_s0 b39 b44 b49 b53) [(.ref b53)]) _
        refine XS.aload X58.here hx rfl (hb hby at_70) rfl rfl ?_
        show own_S p e below T58 (mkF m 72 (own_AIIIIIRRRRIRRRRUUUUU i0 i1 i2 i3 i4 va vb vc vd r28_s0 b39 b44 b49 b53) [(.ref vd), (.ref b53)]) _
        refine XS.aload X58.here hx rfl (hb hby at_72) rfl rfl ?_
        show own_S p e below T58 (mkF m 74 (own_AIIIIIRRRRIRRRRUUUUU i0 i1 i2 i3 i4 va vb vc vd r28_s0 b39 b44 b49 b53) [(.ref b39), (.ref vd), (.ref b53)]) _
        refine XS.iconst X58.here hx rfl (hb hby at_74) ?_
        exact k
      obtain ⟨l0_75, l1_75, u0_75, u1_75, s0_75, s1_75, I0_75, I1_75, QQ75⟩ := id R58
      have gd75 := own_good0
      have ok0_75 : own_ok l0_75 u0_75 s0_75 := by have q := gd75.1; rw [I0_75] at q; exact q
      have ok1_75 : own_ok l1_75 u1_75 s1_75 := by have q := gd75.2.1; rw [I1_75] at q; exact q
      obtain ⟨cq75, kq75, q75a, q75b, q75c⟩ := isOf hZ rfl (A53.keep Kq58)
      obtain ⟨_, _, ⟨T75, L75, k75, n75⟩, -, X75, ⟨Lc75, hQ75, l75, y75, z75⟩, st75⟩ := X58.virtualBack hx (y := (⟨"com/example/reverie/reverie/ScalarQuantizer", "encode", "([F[BI)V"⟩ : MethodName)) (z := (⟨"com/example/reverie/reverie/ScalarQuantizer", "encode", "([F[BI)V"⟩ : MethodName)) hown (mvT hZ (own_w hw 61 rfl)) (mvT hZ (own_w hw 62 rfl)) (notFace_of_selects (args := #[]) (mvT hZ (own_w hw 64 rfl))) (mvT hZ (own_w hw 64 rfl)) (mvT hZ (own_w hw 63 rfl)) (by decide) (backOf (W := 0) (rm7 l Z a0 hw [] b53 vd b39 tlq thq tsq slq shq ssq cSq cDq cLq cHq cCq (0 : Int32) l0_75 l1_75 u0_75 u1_75 s0_75 s1_75 ([] : List own_E) kr19 kc39 vd0 vd1 (0 : Int32) (0 : Int32) T58.heap n0 Z58 QQ75 (Nat.lt_of_le_of_lt gd75.2.2.2.2 (by decide)) gn_q fc_7 fc_8 g_b39 (own_nap ge_q lb53_vd) (own_nap ge_q lb53_b39) ne_vd_b39 svd0 svd1 ok0_75 ok1_75) hZ (own_w hw 65 rfl) (own_w hw 8 rfl) (by decide) (by decide)) q75a q75c (g := (mkF m 75 (own_AIIIIIRRRRIRRRRUUUUU i0 i1 i2 i3 i4 va vb vc vd r28_s0 b39 b44 b49 b53) [(.int (0 : Int32)), (.ref b39), (.ref vd), (.ref b53)])) rfl (by rw [hml]; rfl) (Steps.refl _) (argsL := [(.ref vd), (.ref b39), (.int (0 : Int32))]) (rest := []) (lenOf pd_0_2 rfl) rfl (by show 2 * 0 + _ ≤ _; exact Nat.le_of_eq rfl) (hb hby at_75) (fun _ _ => ⟨rfl, rfl, (by decide : 22 + 0 ≤ _), (by decide : 126 + 0 ≤ _)⟩)
      dsimp only [Pt.U, Pt.locs, Pt.cells, Pt.slots] at X75 l75 y75 z75 st75 hQ75
      subst l75 y75 z75
      obtain ⟨rfl, N75q, Kq75, Qn75, AB75⟩ := hQ75
      have N75 := Fr.app N58 N75q
      obtain ⟨hs1, ehs1⟩ : ∃ z : List own_E, z = own_enc (0 : Int32) vd0 vd1 ([] : List own_E) := ⟨_, rfl⟩
      have Ghs1 : own_good (1 : Int32) 2 hs1 := by rw [ehs1]; exact own_enc_good gd75 svd0 svd1 (by decide)
      have Fihs1 := own_enc_fin (m := (0 : Int32)) gd75 svd0 svd1
      rw [← ehs1] at Fihs1
      have R75 : own_R Z T75.heap b53 tlq thq tsq slq shq ssq cSq cDq cLq cHq cCq (1 : Int32) hs1 := by rw [ehs1]; exact own_encR I0_75 I1_75 Qn75
      obtain ⟨y0_75, hy0_75⟩ : ∃ z : Int32, z = own_bt (0 : Int32) vd0 hs1 := ⟨_, rfl⟩
      obtain ⟨y1_75, hy1_75⟩ : ∃ z : Int32, z = own_bt (1 : Int32) vd1 hs1 := ⟨_, rfl⟩
      have A75 : Arv Z T75.heap b39 kc39 .byte (2 : Int32) [(.int y0_75), (.int y1_75)] (.int (0 : Int32)) := by rw [hy0_75, hy1_75, ehs1, own_encB0 I0_75 I1_75, own_encB1 I0_75 I1_75]; exact AB75
      have fc_11 := (fc_9.keep Kq75 (own_nmq ge_q lb53_b44 (Ne.symm ne_b39_b44)))
      have fc_12 := (fc_10.keep Kq75 (own_nmq ge_q lb53_b49 (Ne.symm ne_b39_b49)))
      have K75 : Keep h0 T75.heap [] := K58.trans Kq75 (fun x hx => Or.inr (own_wge gz_q sz_b39 x hx))
      have Z75 : n0 ≤ T75.heap.size := Nat.le_trans Z58 Kq75.1
      have sg80 : ∀ t, own_S p e below T75 (mkF m 80 (own_AIIIIIRRRRIRRRRUUUUU i0 i1 i2 i3 i4 va vb vc vd r28_s0 b39 b44 b49 b53) [(.ref b53)]) t → own_S p e below T75 (mkF m 78 (own_AIIIIIRRRRIRRRRUUUUU i0 i1 i2 i3 i4 va vb vc vd r28_s0 b39 b44 b49 b53) []) t := by
        intro t k
        refine XS.aload X75.here hx rfl (hb hby at_78) rfl rfl ?_
        exact k
      obtain ⟨l0_80, l1_80, u0_80, u1_80, s0_80, s1_80, I0_80, I1_80, QQ80⟩ := id R75
      have gd80 := Ghs1
      obtain ⟨cq80, kq80, q80a, q80b, q80c⟩ := isOf hZ rfl ((A53.keep Kq58).keep Kq75)
      obtain ⟨_, _, ⟨T80, L80, k80, n80⟩, -, X80, ⟨Lc80, hQ80, l80, y80, z80⟩, st80⟩ := X75.virtualBack hx (y := (⟨"com/example/reverie/reverie/ScalarQuantizer", "removeLast", "()V"⟩ : MethodName)) (z := (⟨"com/example/reverie/reverie/ScalarQuantizer", "removeLast", "()V"⟩ : MethodName)) hown (mvT hZ (own_w hw 104 rfl)) (mvT hZ (own_w hw 105 rfl)) (notFace_of_selects (args := #[]) (mvT hZ (own_w hw 107 rfl))) (mvT hZ (own_w hw 107 rfl)) (mvT hZ (own_w hw 106 rfl)) (by decide) (backOf (W := 0) (rm15 l Z a0 hw [] b53 tlq thq tsq slq shq ssq cSq cDq cLq cHq cCq (1 : Int32) l0_80 l1_80 u0_80 u1_80 s0_80 s1_80 hs1 T75.heap n0 Z75 I0_80 I1_80 QQ80 (Nat.lt_of_le_of_lt gd80.2.2.2.2 (by decide)) gd80.2.2.1 gn_q) hZ (own_w hw 108 rfl) (own_w hw 8 rfl) (by decide) (by decide)) q80a q80c (g := (mkF m 80 (own_AIIIIIRRRRIRRRRUUUUU i0 i1 i2 i3 i4 va vb vc vd r28_s0 b39 b44 b49 b53) [(.ref b53)])) rfl (by rw [hml]; rfl) (Steps.refl _) (argsL := []) (rest := []) (lenOf pd_0_3 rfl) rfl (by show 2 * 0 + _ ≤ _; exact Nat.le_of_eq rfl) (hb hby at_80) (fun _ _ => ⟨rfl, rfl, (by decide : 22 + 0 ≤ _), (by decide : 126 + 0 ≤ _)⟩)
      dsimp only [Pt.U, Pt.locs, Pt.cells, Pt.slots] at X80 l80 y80 z80 st80 hQ80
      subst l80 y80 z80
      obtain ⟨rfl, N80q, Kq80, Rn80⟩ := hQ80
      have N80 := Fr.app N75 N80q
      have R80 : own_R Z T80.heap b53 tlq thq tsq slq shq ssq cSq cDq cLq cHq cCq (0 : Int32) ([] : List own_E) := by rw [show ((1 : Int32) - (1 : Int32)) = (0 : Int32) from by decide, ehs1, own_pop_enc own_good0] at Rn80; exact Rn80
      have fc_13 := ((fc_4.keep Kq75 (own_nmq ge_q lb53_va ne_va_b39)).keep Kq80 (own_nmr ge_q lb53_va))
      have fc_14 := ((fc_5.keep Kq75 (own_nmq ge_q lb53_vb ne_vb_b39)).keep Kq80 (own_nmr ge_q lb53_vb))
      have fc_15 := ((fc_6.keep Kq75 (own_nmq ge_q lb53_vc ne_vc_b39)).keep Kq80 (own_nmr ge_q lb53_vc))
      have fc_16 := ((fc_7.keep Kq75 (own_nmq ge_q lb53_vd ne_vd_b39)).keep Kq80 (own_nmr ge_q lb53_vd))
      have K80 : Keep h0 T80.heap [] := K75.trans Kq80 (fun x hx => Or.inr ((fun y hy => gz_q y (own_sub9 y hy)) x hx))
      have Z80 : n0 ≤ T80.heap.size := Nat.le_trans Z75 Kq80.1
      exact ⟨T80, _, _, y0_75, y1_75, X80, N80, rfl, Kq75.trans Kq80 (fun x hx => Or.inl (show x ∈ [b53, tlq, thq, tsq, cSq, cDq, cLq, cHq, cCq] ++ [b39] from List.mem_append_left _ hx)), R80, (A75.keep Kq80 (own_nmr ge_q lb53_b39)), fun t k => (sg65 t (sg75 t ((fun t k => st75.trans k) t (sg80 t ((fun t k => st80.trans k) t k)))))⟩
  have fc_11 := (fc_10.keep KqJ (own_nmq ge_q lb53_b49 (Ne.symm ne_b39_b49)))
  have KJ : Keep h0 HJ [] := K58.trans KqJ (fun x hx => Or.inr (own_wge gz_q sz_b39 x hx))
  have ZJ : n0 ≤ HJ.size := Nat.le_trans Z58 KqJ.1
  refine own_by stJ ?_
  have sg90 : ∀ t, own_S p e below TJ (mkF m 90 (own_AIIIIIRRRRIRRRRUUUUU i0 i1 i2 i3 i4 va vb vc vd r28_s0 b39 b44 b49 b53) [(.int (0 : Int32)), (.ref b39), (.ref va), (.ref b53)]) t → own_S p e below TJ (mkF m 83 (own_AIIIIIRRRRIRRRRUUUUU i0 i1 i2 i3 i4 va vb vc vd r28_s0 b39 b44 b49 b53) []) t := by
    intro t k
    refine XS.aload XJ.here hx rfl (hb hby at_83) rfl rfl ?_
    show own_S p e below TJ (mkF m 85 (own_AIIIIIRRRRIRRRRUUUUU i0 i1 i2 i3 i4 va vb vc vd r28_s0 b39 b44 b49 b53) [(.ref b53)]) _
    refine XS.aload XJ.here hx rfl (hb hby at_85) rfl rfl ?_
    show own_S p e below TJ (mkF m 87 (own_AIIIIIRRRRIRRRRUUUUU i0 i1 i2 i3 i4 va vb vc vd r28_s0 b39 b44 b49 b53) [(.ref va), (.ref b53)]) _
    refine XS.aload XJ.here hx rfl (hb hby at_87) rfl rfl ?_
    show own_S p e below TJ (mkF m 89 (own_AIIIIIRRRRIRRRRUUUUU i0 i1 i2 i3 i4 va vb vc vd r28_s0 b39 b44 b49 b53) [(.ref b39), (.ref va), (.ref b53)]) _
    refine XS.iconst XJ.here hx rfl (hb hby at_89) ?_
    exact k
  refine own_by sg90 ?_
  obtain ⟨l0_90, l1_90, u0_90, u1_90, s0_90, s1_90, I0_90, I1_90, QQ90⟩ := id RJ
  have gd90 := own_good0
  have ok0_90 : own_ok l0_90 u0_90 s0_90 := by have q := gd90.1; rw [I0_90] at q; exact q
  have ok1_90 : own_ok l1_90 u1_90 s1_90 := by have q := gd90.2.1; rw [I1_90] at q; exact q
  obtain ⟨cq90, kq90, q90a, q90b, q90c⟩ := isOf hZ eJ ((A53.keep Kq58).keep KqJ)
  obtain ⟨_, _, ⟨T90, L90, k90, n90⟩, -, X90, ⟨Lc90, hQ90, l90, y90, z90⟩, st90⟩ := XJ.virtualBack hx (y := (⟨"com/example/reverie/reverie/ScalarQuantizer", "encode", "([F[BI)V"⟩ : MethodName)) (z := (⟨"com/example/reverie/reverie/ScalarQuantizer", "encode", "([F[BI)V"⟩ : MethodName)) hown (mvT hZ (own_w hw 61 rfl)) (mvT hZ (own_w hw 62 rfl)) (notFace_of_selects (args := #[]) (mvT hZ (own_w hw 64 rfl))) (mvT hZ (own_w hw 64 rfl)) (mvT hZ (own_w hw 63 rfl)) (by decide) (backOf (W := 0) (rm7 l Z a0 hw [] b53 va b39 tlq thq tsq slq shq ssq cSq cDq cLq cHq cCq (0 : Int32) l0_90 l1_90 u0_90 u1_90 s0_90 s1_90 ([] : List own_E) kr1 kc39 va0 va1 y0J y1J HJ n0 ZJ QQ90 (Nat.lt_of_le_of_lt gd90.2.2.2.2 (by decide)) gn_q (fc_4.keep KqJ (own_nmq ge_q lb53_va ne_va_b39)) AJ g_b39 (own_nap ge_q lb53_va) (own_nap ge_q lb53_b39) ne_va_b39 sva0 sva1 ok0_90 ok1_90) hZ (own_w hw 65 rfl) (own_w hw 8 rfl) (by decide) (by decide)) q90a q90c (g := (mkF m 90 (own_AIIIIIRRRRIRRRRUUUUU i0 i1 i2 i3 i4 va vb vc vd r28_s0 b39 b44 b49 b53) [(.int (0 : Int32)), (.ref b39), (.ref va), (.ref b53)])) rfl (by rw [hml]; rfl) (Steps.refl _) (argsL := [(.ref va), (.ref b39), (.int (0 : Int32))]) (rest := []) (lenOf pd_0_2 rfl) rfl (by show 2 * 0 + _ ≤ _; exact Nat.le_of_eq rfl) (hb hby at_90) (fun _ _ => ⟨rfl, eJ, (by decide : 22 + 0 ≤ _), (by decide : 126 + 0 ≤ _)⟩)
  dsimp only [Pt.U, Pt.locs, Pt.cells, Pt.slots] at X90 l90 y90 z90 st90 hQ90
  subst l90 y90 z90
  obtain ⟨rfl, N90q, Kq90, Qn90, AB90⟩ := hQ90
  have N90 := Fr.app NJ N90q
  obtain ⟨hs1, ehs1⟩ : ∃ z : List own_E, z = own_enc (0 : Int32) va0 va1 ([] : List own_E) := ⟨_, rfl⟩
  have Ghs1 : own_good (1 : Int32) 2 hs1 := by rw [ehs1]; exact own_enc_good gd90 sva0 sva1 (by decide)
  have Fihs1 := own_enc_fin (m := (0 : Int32)) gd90 sva0 sva1
  rw [← ehs1] at Fihs1
  have R90 : own_R Z T90.heap b53 tlq thq tsq slq shq ssq cSq cDq cLq cHq cCq (1 : Int32) hs1 := by rw [ehs1]; exact own_encR I0_90 I1_90 Qn90
  obtain ⟨y0_90, hy0_90⟩ : ∃ z : Int32, z = own_bt (0 : Int32) va0 hs1 := ⟨_, rfl⟩
  obtain ⟨y1_90, hy1_90⟩ : ∃ z : Int32, z = own_bt (1 : Int32) va1 hs1 := ⟨_, rfl⟩
  have A90 : Arv Z T90.heap b39 kc39 .byte (2 : Int32) [(.int y0_90), (.int y1_90)] (.int (0 : Int32)) := by rw [hy0_90, hy1_90, ehs1, own_encB0 I0_90 I1_90, own_encB1 I0_90 I1_90]; exact AB90
  have fc_12 := ((fc_4.keep KqJ (own_nmq ge_q lb53_va ne_va_b39)).keep Kq90 (own_nmq ge_q lb53_va ne_va_b39))
  have fc_13 := ((fc_5.keep KqJ (own_nmq ge_q lb53_vb ne_vb_b39)).keep Kq90 (own_nmq ge_q lb53_vb ne_vb_b39))
  have fc_14 := ((fc_6.keep KqJ (own_nmq ge_q lb53_vc ne_vc_b39)).keep Kq90 (own_nmq ge_q lb53_vc ne_vc_b39))
  have fc_15 := ((fc_7.keep KqJ (own_nmq ge_q lb53_vd ne_vd_b39)).keep Kq90 (own_nmq ge_q lb53_vd ne_vd_b39))
  have fc_16 := ((fc_9.keep KqJ (own_nmq ge_q lb53_b44 (Ne.symm ne_b39_b44))).keep Kq90 (own_nmq ge_q lb53_b44 (Ne.symm ne_b39_b44)))
  have fc_17 := (fc_11.keep Kq90 (own_nmq ge_q lb53_b49 (Ne.symm ne_b39_b49)))
  have K90 : Keep h0 T90.heap [] := KJ.trans Kq90 (fun x hx => Or.inr (own_wge gz_q sz_b39 x hx))
  have Z90 : n0 ≤ T90.heap.size := Nat.le_trans ZJ Kq90.1
  refine own_by (fun t k => st90.trans k) ?_
  have sg100 : ∀ t, own_S p e below T90 (mkF m 100 (own_AIIIIIRRRRIRRRRUUUUU i0 i1 i2 i3 i4 va vb vc vd r28_s0 b39 b44 b49 b53) [(.int (0 : Int32)), (.ref b39), (.ref vb), (.ref b53)]) t → own_S p e below T90 (mkF m 93 (own_AIIIIIRRRRIRRRRUUUUU i0 i1 i2 i3 i4 va vb vc vd r28_s0 b39 b44 b49 b53) []) t := by
    intro t k
    refine XS.aload X90.here hx rfl (hb hby at_93) rfl rfl ?_
    show own_S p e below T90 (mkF m 95 (own_AIIIIIRRRRIRRRRUUUUU i0 i1 i2 i3 i4 va vb vc vd r28_s0 b39 b44 b49 b53) [(.ref b53)]) _
    refine XS.aload X90.here hx rfl (hb hby at_95) rfl rfl ?_
    show own_S p e below T90 (mkF m 97 (own_AIIIIIRRRRIRRRRUUUUU i0 i1 i2 i3 i4 va vb vc vd r28_s0 b39 b44 b49 b53) [(.ref vb), (.ref b53)]) _
    refine XS.aload X90.here hx rfl (hb hby at_97) rfl rfl ?_
    show own_S p e below T90 (mkF m 99 (own_AIIIIIRRRRIRRRRUUUUU i0 i1 i2 i3 i4 va vb vc vd r28_s0 b39 b44 b49 b53) [(.ref b39), (.ref vb), (.ref b53)]) _
    refine XS.iconst X90.here hx rfl (hb hby at_99) ?_
    exact k
  refine own_by sg100 ?_
  obtain ⟨l0_100, l1_100, u0_100, u1_100, s0_100, s1_100, I0_100, I1_100, QQ100⟩ := id R90
  have gd100 := Ghs1
  have ok0_100 : own_ok l0_100 u0_100 s0_100 := by have q := gd100.1; rw [I0_100] at q; exact q
  have ok1_100 : own_ok l1_100 u1_100 s1_100 := by have q := gd100.2.1; rw [I1_100] at q; exact q
  obtain ⟨cq100, kq100, q100a, q100b, q100c⟩ := isOf hZ rfl (((A53.keep Kq58).keep KqJ).keep Kq90)
  obtain ⟨_, _, ⟨T100, L100, k100, n100⟩, -, X100, ⟨Lc100, hQ100, l100, y100, z100⟩, st100⟩ := X90.virtualBack hx (y := (⟨"com/example/reverie/reverie/ScalarQuantizer", "encode", "([F[BI)V"⟩ : MethodName)) (z := (⟨"com/example/reverie/reverie/ScalarQuantizer", "encode", "([F[BI)V"⟩ : MethodName)) hown (mvT hZ (own_w hw 61 rfl)) (mvT hZ (own_w hw 62 rfl)) (notFace_of_selects (args := #[]) (mvT hZ (own_w hw 64 rfl))) (mvT hZ (own_w hw 64 rfl)) (mvT hZ (own_w hw 63 rfl)) (by decide) (backOf (W := 0) (rm7 l Z a0 hw [] b53 vb b39 tlq thq tsq slq shq ssq cSq cDq cLq cHq cCq (1 : Int32) l0_100 l1_100 u0_100 u1_100 s0_100 s1_100 hs1 kr7 kc39 vb0 vb1 y0_90 y1_90 T90.heap n0 Z90 QQ100 (Nat.lt_of_le_of_lt gd100.2.2.2.2 (by decide)) gn_q fc_13 A90 g_b39 (own_nap ge_q lb53_vb) (own_nap ge_q lb53_b39) ne_vb_b39 svb0 svb1 ok0_100 ok1_100) hZ (own_w hw 65 rfl) (own_w hw 8 rfl) (by decide) (by decide)) q100a q100c (g := (mkF m 100 (own_AIIIIIRRRRIRRRRUUUUU i0 i1 i2 i3 i4 va vb vc vd r28_s0 b39 b44 b49 b53) [(.int (0 : Int32)), (.ref b39), (.ref vb), (.ref b53)])) rfl (by rw [hml]; rfl) (Steps.refl _) (argsL := [(.ref vb), (.ref b39), (.int (0 : Int32))]) (rest := []) (lenOf pd_0_2 rfl) rfl (by show 2 * 0 + _ ≤ _; exact Nat.le_of_eq rfl) (hb hby at_100) (fun _ _ => ⟨rfl, rfl, (by decide : 22 + 0 ≤ _), (by decide : 126 + 0 ≤ _)⟩)
  dsimp only [Pt.U, Pt.locs, Pt.cells, Pt.slots] at X100 l100 y100 z100 st100 hQ100
  subst l100 y100 z100
  obtain ⟨rfl, N100q, Kq100, Qn100, AB100⟩ := hQ100
  have N100 := Fr.app N90 N100q
  obtain ⟨hs2, ehs2⟩ : ∃ z : List own_E, z = own_enc (1 : Int32) vb0 vb1 hs1 := ⟨_, rfl⟩
  have Ghs2 : own_good (2 : Int32) 4 hs2 := by rw [ehs2]; exact own_enc_good gd100 svb0 svb1 (by decide)
  have Fihs2 := own_enc_fin (m := (1 : Int32)) gd100 svb0 svb1
  rw [← ehs2] at Fihs2
  have R100 : own_R Z T100.heap b53 tlq thq tsq slq shq ssq cSq cDq cLq cHq cCq (2 : Int32) hs2 := by rw [ehs2]; exact own_encR I0_100 I1_100 Qn100
  obtain ⟨y0_100, hy0_100⟩ : ∃ z : Int32, z = own_bt (0 : Int32) vb0 hs2 := ⟨_, rfl⟩
  obtain ⟨y1_100, hy1_100⟩ : ∃ z : Int32, z = own_bt (1 : Int32) vb1 hs2 := ⟨_, rfl⟩
  have A100 : Arv Z T100.heap b39 kc39 .byte (2 : Int32) [(.int y0_100), (.int y1_100)] (.int (0 : Int32)) := by rw [hy0_100, hy1_100, ehs2, own_encB0 I0_100 I1_100, own_encB1 I0_100 I1_100]; exact AB100
  have fc_18 := (fc_16.keep Kq100 (own_nmq ge_q lb53_b44 (Ne.symm ne_b39_b44)))
  have fc_19 := (fc_17.keep Kq100 (own_nmq ge_q lb53_b49 (Ne.symm ne_b39_b49)))
  have K100 : Keep h0 T100.heap [] := K90.trans Kq100 (fun x hx => Or.inr (own_wge gz_q sz_b39 x hx))
  have Z100 : n0 ≤ T100.heap.size := Nat.le_trans Z90 Kq100.1
  refine own_by (fun t k => st100.trans k) ?_
  have sg110 : ∀ t, own_S p e below T100 (mkF m 110 (own_AIIIIIRRRRIRRRRUUUUU i0 i1 i2 i3 i4 va vb vc vd r28_s0 b39 b44 b49 b53) [(.int (0 : Int32)), (.ref b39), (.ref vd), (.ref b53)]) t → own_S p e below T100 (mkF m 103 (own_AIIIIIRRRRIRRRRUUUUU i0 i1 i2 i3 i4 va vb vc vd r28_s0 b39 b44 b49 b53) []) t := by
    intro t k
    refine XS.aload X100.here hx rfl (hb hby at_103) rfl rfl ?_
    show own_S p e below T100 (mkF m 105 (own_AIIIIIRRRRIRRRRUUUUU i0 i1 i2 i3 i4 va vb vc vd r28_s0 b39 b44 b49 b53) [(.ref b53)]) _
    refine XS.aload X100.here hx rfl (hb hby at_105) rfl rfl ?_
    show own_S p e below T100 (mkF m 107 (own_AIIIIIRRRRIRRRRUUUUU i0 i1 i2 i3 i4 va vb vc vd r28_s0 b39 b44 b49 b53) [(.ref vd), (.ref b53)]) _
    refine XS.aload X100.here hx rfl (hb hby at_107) rfl rfl ?_
    show own_S p e below T100 (mkF m 109 (own_AIIIIIRRRRIRRRRUUUUU i0 i1 i2 i3 i4 va vb vc vd r28_s0 b39 b44 b49 b53) [(.ref b39), (.ref vd), (.ref b53)]) _
    refine XS.iconst X100.here hx rfl (hb hby at_109) ?_
    exact k
  refine own_by sg110 ?_
  obtain ⟨l0_110, l1_110, u0_110, u1_110, s0_110, s1_110, I0_110, I1_110, QQ110⟩ := id R100
  have gd110 := Ghs2
  have ok0_110 : own_ok l0_110 u0_110 s0_110 := by have q := gd110.1; rw [I0_110] at q; exact q
  have ok1_110 : own_ok l1_110 u1_110 s1_110 := by have q := gd110.2.1; rw [I1_110] at q; exact q
  obtain ⟨cq110, kq110, q110a, q110b, q110c⟩ := isOf hZ rfl ((((A53.keep Kq58).keep KqJ).keep Kq90).keep Kq100)
  obtain ⟨_, _, ⟨T110, L110, k110, n110⟩, -, X110, ⟨Lc110, hQ110, l110, y110, z110⟩, st110⟩ := X100.virtualBack hx (y := (⟨"com/example/reverie/reverie/ScalarQuantizer", "encode", "([F[BI)V"⟩ : MethodName)) (z := (⟨"com/example/reverie/reverie/ScalarQuantizer", "encode", "([F[BI)V"⟩ : MethodName)) hown (mvT hZ (own_w hw 61 rfl)) (mvT hZ (own_w hw 62 rfl)) (notFace_of_selects (args := #[]) (mvT hZ (own_w hw 64 rfl))) (mvT hZ (own_w hw 64 rfl)) (mvT hZ (own_w hw 63 rfl)) (by decide) (backOf (W := 0) (rm7 l Z a0 hw [] b53 vd b39 tlq thq tsq slq shq ssq cSq cDq cLq cHq cCq (2 : Int32) l0_110 l1_110 u0_110 u1_110 s0_110 s1_110 hs2 kr19 kc39 vd0 vd1 y0_100 y1_100 T100.heap n0 Z100 QQ110 (Nat.lt_of_le_of_lt gd110.2.2.2.2 (by decide)) gn_q (fc_15.keep Kq100 (own_nmq ge_q lb53_vd ne_vd_b39)) A100 g_b39 (own_nap ge_q lb53_vd) (own_nap ge_q lb53_b39) ne_vd_b39 svd0 svd1 ok0_110 ok1_110) hZ (own_w hw 65 rfl) (own_w hw 8 rfl) (by decide) (by decide)) q110a q110c (g := (mkF m 110 (own_AIIIIIRRRRIRRRRUUUUU i0 i1 i2 i3 i4 va vb vc vd r28_s0 b39 b44 b49 b53) [(.int (0 : Int32)), (.ref b39), (.ref vd), (.ref b53)])) rfl (by rw [hml]; rfl) (Steps.refl _) (argsL := [(.ref vd), (.ref b39), (.int (0 : Int32))]) (rest := []) (lenOf pd_0_2 rfl) rfl (by show 2 * 0 + _ ≤ _; exact Nat.le_of_eq rfl) (hb hby at_110) (fun _ _ => ⟨rfl, rfl, (by decide : 22 + 0 ≤ _), (by decide : 126 + 0 ≤ _)⟩)
  dsimp only [Pt.U, Pt.locs, Pt.cells, Pt.slots] at X110 l110 y110 z110 st110 hQ110
  subst l110 y110 z110
  obtain ⟨rfl, N110q, Kq110, Qn110, AB110⟩ := hQ110
  have N110 := Fr.app N100 N110q
  obtain ⟨hs3, ehs3⟩ : ∃ z : List own_E, z = own_enc (2 : Int32) vd0 vd1 hs2 := ⟨_, rfl⟩
  have Ghs3 : own_good (3 : Int32) 6 hs3 := by rw [ehs3]; exact own_enc_good gd110 svd0 svd1 (by decide)
  have Fihs3 := own_enc_fin (m := (2 : Int32)) gd110 svd0 svd1
  rw [← ehs3] at Fihs3
  have R110 : own_R Z T110.heap b53 tlq thq tsq slq shq ssq cSq cDq cLq cHq cCq (3 : Int32) hs3 := by rw [ehs3]; exact own_encR I0_110 I1_110 Qn110
  obtain ⟨y0_110, hy0_110⟩ : ∃ z : Int32, z = own_bt (0 : Int32) vd0 hs3 := ⟨_, rfl⟩
  obtain ⟨y1_110, hy1_110⟩ : ∃ z : Int32, z = own_bt (1 : Int32) vd1 hs3 := ⟨_, rfl⟩
  have A110 : Arv Z T110.heap b39 kc39 .byte (2 : Int32) [(.int y0_110), (.int y1_110)] (.int (0 : Int32)) := by rw [hy0_110, hy1_110, ehs3, own_encB0 I0_110 I1_110, own_encB1 I0_110 I1_110]; exact AB110
  have fc_20 := ((fc_12.keep Kq100 (own_nmq ge_q lb53_va ne_va_b39)).keep Kq110 (own_nmq ge_q lb53_va ne_va_b39))
  have fc_21 := ((fc_13.keep Kq100 (own_nmq ge_q lb53_vb ne_vb_b39)).keep Kq110 (own_nmq ge_q lb53_vb ne_vb_b39))
  have fc_22 := ((fc_14.keep Kq100 (own_nmq ge_q lb53_vc ne_vc_b39)).keep Kq110 (own_nmq ge_q lb53_vc ne_vc_b39))
  have fc_23 := ((fc_15.keep Kq100 (own_nmq ge_q lb53_vd ne_vd_b39)).keep Kq110 (own_nmq ge_q lb53_vd ne_vd_b39))
  have fc_24 := (fc_18.keep Kq110 (own_nmq ge_q lb53_b44 (Ne.symm ne_b39_b44)))
  have fc_25 := (fc_19.keep Kq110 (own_nmq ge_q lb53_b49 (Ne.symm ne_b39_b49)))
  have fc_26 := (((((A53.keep Kq58).keep KqJ).keep Kq90).keep Kq100).keep Kq110)
  have K110 : Keep h0 T110.heap [] := K100.trans Kq110 (fun x hx => Or.inr (own_wge gz_q sz_b39 x hx))
  have Z110 : n0 ≤ T110.heap.size := Nat.le_trans Z100 Kq110.1
  refine own_by (fun t k => st110.trans k) ?_
  have sg115 : ∀ t, own_S p e below T110 (mkF m 115 (own_AIIIIIRRRRIRRRRUUUUU i0 i1 i2 i3 i4 va vb vc vd r28_s0 b39 b44 b49 b53) [(.ref b53)]) t → own_S p e below T110 (mkF m 113 (own_AIIIIIRRRRIRRRRUUUUU i0 i1 i2 i3 i4 va vb vc vd r28_s0 b39 b44 b49 b53) []) t := by
    intro t k
    refine XS.aload X110.here hx rfl (hb hby at_113) rfl rfl ?_
    exact k
  refine own_by sg115 ?_
  obtain ⟨l0_115, l1_115, u0_115, u1_115, s0_115, s1_115, I0_115, I1_115, QQ115⟩ := id R110
  have gd115 := Ghs3
  obtain ⟨cq115, kq115, q115a, q115b, q115c⟩ := isOf hZ rfl fc_26
  obtain ⟨_, _, ⟨T115, L115, k115, n115⟩, -, X115, ⟨Lc115, hQ115, l115, y115, z115⟩, st115⟩ := X110.virtualBack hx (y := (⟨"com/example/reverie/reverie/ScalarQuantizer", "removeLast", "()V"⟩ : MethodName)) (z := (⟨"com/example/reverie/reverie/ScalarQuantizer", "removeLast", "()V"⟩ : MethodName)) hown (mvT hZ (own_w hw 104 rfl)) (mvT hZ (own_w hw 105 rfl)) (notFace_of_selects (args := #[]) (mvT hZ (own_w hw 107 rfl))) (mvT hZ (own_w hw 107 rfl)) (mvT hZ (own_w hw 106 rfl)) (by decide) (backOf (W := 0) (rm15 l Z a0 hw [] b53 tlq thq tsq slq shq ssq cSq cDq cLq cHq cCq (3 : Int32) l0_115 l1_115 u0_115 u1_115 s0_115 s1_115 hs3 T110.heap n0 Z110 I0_115 I1_115 QQ115 (Nat.lt_of_le_of_lt gd115.2.2.2.2 (by decide)) gd115.2.2.1 gn_q) hZ (own_w hw 108 rfl) (own_w hw 8 rfl) (by decide) (by decide)) q115a q115c (g := (mkF m 115 (own_AIIIIIRRRRIRRRRUUUUU i0 i1 i2 i3 i4 va vb vc vd r28_s0 b39 b44 b49 b53) [(.ref b53)])) rfl (by rw [hml]; rfl) (Steps.refl _) (argsL := []) (rest := []) (lenOf pd_0_3 rfl) rfl (by show 2 * 0 + _ ≤ _; exact Nat.le_of_eq rfl) (hb hby at_115) (fun _ _ => ⟨rfl, rfl, (by decide : 22 + 0 ≤ _), (by decide : 126 + 0 ≤ _)⟩)
  dsimp only [Pt.U, Pt.locs, Pt.cells, Pt.slots] at X115 l115 y115 z115 st115 hQ115
  subst l115 y115 z115
  obtain ⟨rfl, N115q, Kq115, Rn115⟩ := hQ115
  have N115 := Fr.app N110 N115q
  have R115 : own_R Z T115.heap b53 tlq thq tsq slq shq ssq cSq cDq cLq cHq cCq (2 : Int32) hs2 := by rw [show ((3 : Int32) - (1 : Int32)) = (2 : Int32) from by decide, ehs3, own_pop_enc Ghs2] at Rn115; exact Rn115
  have K115 : Keep h0 T115.heap [] := K110.trans Kq115 (fun x hx => Or.inr ((fun y hy => gz_q y (own_sub9 y hy)) x hx))
  have Z115 : n0 ≤ T115.heap.size := Nat.le_trans Z110 Kq115.1
  refine own_by (fun t k => st115.trans k) ?_
  have sg125 : ∀ t, own_S p e below T115 (mkF m 125 (own_AIIIIIRRRRIRRRRUUUUU i0 i1 i2 i3 i4 va vb vc vd r28_s0 b39 b44 b49 b53) [(.int (0 : Int32)), (.ref b44), (.ref vc), (.ref b53)]) t → own_S p e below T115 (mkF m 118 (own_AIIIIIRRRRIRRRRUUUUU i0 i1 i2 i3 i4 va vb vc vd r28_s0 b39 b44 b49 b53) []) t := by
    intro t k
    refine XS.aload X115.here hx rfl (hb hby at_118) rfl rfl ?_
    show own_S p e below T115 (mkF m 120 (own_AIIIIIRRRRIRRRRUUUUU i0 i1 i2 i3 i4 va vb vc vd r28_s0 b39 b44 b49 b53) [(.ref b53)]) _
    refine XS.aload X115.here hx rfl (hb hby at_120) rfl rfl ?_
    show own_S p e below T115 (mkF m 122 (own_AIIIIIRRRRIRRRRUUUUU i0 i1 i2 i3 i4 va vb vc vd r28_s0 b39 b44 b49 b53) [(.ref vc), (.ref b53)]) _
    refine XS.aload X115.here hx rfl (hb hby at_122) rfl rfl ?_
    show own_S p e below T115 (mkF m 124 (own_AIIIIIRRRRIRRRRUUUUU i0 i1 i2 i3 i4 va vb vc vd r28_s0 b39 b44 b49 b53) [(.ref b44), (.ref vc), (.ref b53)]) _
    refine XS.iconst X115.here hx rfl (hb hby at_124) ?_
    exact k
  refine own_by sg125 ?_
  obtain ⟨l0_125, l1_125, u0_125, u1_125, s0_125, s1_125, I0_125, I1_125, QQ125⟩ := id R115
  have gd125 := Ghs2
  have ok0_125 : own_ok l0_125 u0_125 s0_125 := by have q := gd125.1; rw [I0_125] at q; exact q
  have ok1_125 : own_ok l1_125 u1_125 s1_125 := by have q := gd125.2.1; rw [I1_125] at q; exact q
  obtain ⟨cq125, kq125, q125a, q125b, q125c⟩ := isOf hZ rfl (fc_26.keep Kq115)
  obtain ⟨_, _, ⟨T125, L125, k125, n125⟩, -, X125, ⟨Lc125, hQ125, l125, y125, z125⟩, st125⟩ := X115.virtualBack hx (y := (⟨"com/example/reverie/reverie/ScalarQuantizer", "encode", "([F[BI)V"⟩ : MethodName)) (z := (⟨"com/example/reverie/reverie/ScalarQuantizer", "encode", "([F[BI)V"⟩ : MethodName)) hown (mvT hZ (own_w hw 61 rfl)) (mvT hZ (own_w hw 62 rfl)) (notFace_of_selects (args := #[]) (mvT hZ (own_w hw 64 rfl))) (mvT hZ (own_w hw 64 rfl)) (mvT hZ (own_w hw 63 rfl)) (by decide) (backOf (W := 0) (rm7 l Z a0 hw [] b53 vc b44 tlq thq tsq slq shq ssq cSq cDq cLq cHq cCq (2 : Int32) l0_125 l1_125 u0_125 u1_125 s0_125 s1_125 hs2 kr13 kc44 vc0 vc1 (0 : Int32) (0 : Int32) T115.heap n0 Z115 QQ125 (Nat.lt_of_le_of_lt gd125.2.2.2.2 (by decide)) gn_q (fc_22.keep Kq115 (own_nmr ge_q lb53_vc)) (fc_24.keep Kq115 (own_nmr ge_q lb53_b44)) g_b44 (own_nap ge_q lb53_vc) (own_nap ge_q lb53_b44) ne_vc_b44 svc0 svc1 ok0_125 ok1_125) hZ (own_w hw 65 rfl) (own_w hw 8 rfl) (by decide) (by decide)) q125a q125c (g := (mkF m 125 (own_AIIIIIRRRRIRRRRUUUUU i0 i1 i2 i3 i4 va vb vc vd r28_s0 b39 b44 b49 b53) [(.int (0 : Int32)), (.ref b44), (.ref vc), (.ref b53)])) rfl (by rw [hml]; rfl) (Steps.refl _) (argsL := [(.ref vc), (.ref b44), (.int (0 : Int32))]) (rest := []) (lenOf pd_0_2 rfl) rfl (by show 2 * 0 + _ ≤ _; exact Nat.le_of_eq rfl) (hb hby at_125) (fun _ _ => ⟨rfl, rfl, (by decide : 22 + 0 ≤ _), (by decide : 126 + 0 ≤ _)⟩)
  dsimp only [Pt.U, Pt.locs, Pt.cells, Pt.slots] at X125 l125 y125 z125 st125 hQ125
  subst l125 y125 z125
  obtain ⟨rfl, N125q, Kq125, Qn125, AB125⟩ := hQ125
  have N125 := Fr.app N115 N125q
  obtain ⟨hs4, ehs4⟩ : ∃ z : List own_E, z = own_enc (2 : Int32) vc0 vc1 hs2 := ⟨_, rfl⟩
  have Ghs4 : own_good (3 : Int32) 6 hs4 := by rw [ehs4]; exact own_enc_good gd125 svc0 svc1 (by decide)
  have Fihs4 := own_enc_fin (m := (2 : Int32)) gd125 svc0 svc1
  rw [← ehs4] at Fihs4
  have R125 : own_R Z T125.heap b53 tlq thq tsq slq shq ssq cSq cDq cLq cHq cCq (3 : Int32) hs4 := by rw [ehs4]; exact own_encR I0_125 I1_125 Qn125
  obtain ⟨y0_125, hy0_125⟩ : ∃ z : Int32, z = own_bt (0 : Int32) vc0 hs4 := ⟨_, rfl⟩
  obtain ⟨y1_125, hy1_125⟩ : ∃ z : Int32, z = own_bt (1 : Int32) vc1 hs4 := ⟨_, rfl⟩
  have A125 : Arv Z T125.heap b44 kc44 .byte (2 : Int32) [(.int y0_125), (.int y1_125)] (.int (0 : Int32)) := by rw [hy0_125, hy1_125, ehs4, own_encB0 I0_125 I1_125, own_encB1 I0_125 I1_125]; exact AB125
  have fc_27 := ((fc_20.keep Kq115 (own_nmr ge_q lb53_va)).keep Kq125 (own_nmq ge_q lb53_va ne_va_b44))
  have fc_28 := ((fc_21.keep Kq115 (own_nmr ge_q lb53_vb)).keep Kq125 (own_nmq ge_q lb53_vb ne_vb_b44))
  have fc_29 := ((fc_22.keep Kq115 (own_nmr ge_q lb53_vc)).keep Kq125 (own_nmq ge_q lb53_vc ne_vc_b44))
  have fc_30 := ((fc_23.keep Kq115 (own_nmr ge_q lb53_vd)).keep Kq125 (own_nmq ge_q lb53_vd ne_vd_b44))
  have fc_31 := ((fc_25.keep Kq115 (own_nmr ge_q lb53_b49)).keep Kq125 (own_nmq ge_q lb53_b49 (Ne.symm ne_b44_b49)))
  have fc_32 := ((A110.keep Kq115 (own_nmr ge_q lb53_b39)).keep Kq125 (own_nmq ge_q lb53_b39 ne_b39_b44))
  have K125 : Keep h0 T125.heap [] := K115.trans Kq125 (fun x hx => Or.inr (own_wge gz_q sz_b44 x hx))
  have Z125 : n0 ≤ T125.heap.size := Nat.le_trans Z115 Kq125.1
  refine own_by (fun t k => st125.trans k) ?_
  have lt128_va : va < T125.heap.size := fc_27.lt
  have lt128_vb : vb < T125.heap.size := fc_28.lt
  have lt128_vc : vc < T125.heap.size := fc_29.lt
  have lt128_vd : vd < T125.heap.size := fc_30.lt
  have lt128_b49 : b49 < T125.heap.size := fc_31.lt
  have lt128_b39 : b39 < T125.heap.size := fc_32.lt
  have lt128_q := R125.lt
  have lt128_b44 : b44 < T125.heap.size := A125.lt
  obtain ⟨T128, h128, X128, e128, E128, A128, D128, -, st128⟩ := newO X125 hx hZ hown (own_w hw 6 rfl) (own_w hw 7 rfl) (own_w hw 8 rfl) rfl (g := (mkF m 128 (own_AIIIIIRRRRIRRRRUUUUU i0 i1 i2 i3 i4 va vb vc vd r28_s0 b39 b44 b49 b53) [])) rfl (hb hby at_128) (by decide) (by decide)
  obtain ⟨b128, g128⟩ : ∃ z, z = T125.heap.size := ⟨_, rfl⟩
  rw [← g128] at A128 D128 st128
  have ne_va_b128 : va ≠ b128 := Nat.ne_of_lt (Nat.lt_of_lt_of_le fc_27.lt (Nat.le_of_eq g128.symm))
  have ne_vb_b128 : vb ≠ b128 := Nat.ne_of_lt (Nat.lt_of_lt_of_le fc_28.lt (Nat.le_of_eq g128.symm))
  have ne_vc_b128 : vc ≠ b128 := Nat.ne_of_lt (Nat.lt_of_lt_of_le fc_29.lt (Nat.le_of_eq g128.symm))
  have ne_vd_b128 : vd ≠ b128 := Nat.ne_of_lt (Nat.lt_of_lt_of_le fc_30.lt (Nat.le_of_eq g128.symm))
  have ne_b49_b128 : b49 ≠ b128 := Nat.ne_of_lt (Nat.lt_of_lt_of_le fc_31.lt (Nat.le_of_eq g128.symm))
  have ne_b53_b128 : b53 ≠ b128 := Nat.ne_of_lt (Nat.lt_of_lt_of_le ((fc_26.keep Kq115).keep Kq125).lt (Nat.le_of_eq g128.symm))
  have ne_b39_b128 : b39 ≠ b128 := Nat.ne_of_lt (Nat.lt_of_lt_of_le fc_32.lt (Nat.le_of_eq g128.symm))
  have ne_b44_b128 : b44 ≠ b128 := Nat.ne_of_lt (Nat.lt_of_lt_of_le A125.lt (Nat.le_of_eq g128.symm))
  have g_b128 : n0 ≤ b128 := Nat.le_trans Z125 (Nat.le_of_eq g128.symm)
  have sz_b128 : h0.size ≤ b128 := Nat.le_trans K125.1 (Nat.le_of_eq g128.symm)
  have K128 := K125.ext E128
  have Z128 : n0 ≤ h128.size := Nat.le_trans Z125 E128.1
  have F_changeStarts_b128 : Fld Z h128 b128 "com/example/reverie/reverie/ScalarQuantizer" "changeStarts" "[I" .null := D128 (Or.inl (own_w hw 29 rfl)) (ty := (.array .int)) (by decide)
  have F_changeDimensions_b128 : Fld Z h128 b128 "com/example/reverie/reverie/ScalarQuantizer" "changeDimensions" "[I" .null := D128 (Or.inl (own_w hw 31 rfl)) (ty := (.array .int)) (by decide)
  have F_changeLows_b128 : Fld Z h128 b128 "com/example/reverie/reverie/ScalarQuantizer" "changeLows" "[F" .null := D128 (Or.inl (own_w hw 33 rfl)) (ty := (.array .float)) (by decide)
  have F_changeHighs_b128 : Fld Z h128 b128 "com/example/reverie/reverie/ScalarQuantizer" "changeHighs" "[F" .null := D128 (Or.inl (own_w hw 35 rfl)) (ty := (.array .float)) (by decide)
  have F_changeScales_b128 : Fld Z h128 b128 "com/example/reverie/reverie/ScalarQuantizer" "changeScales" "[F" .null := D128 (Or.inl (own_w hw 37 rfl)) (ty := (.array .float)) (by decide)
  have F_dimension_b128 : Fld Z h128 b128 "com/example/reverie/reverie/ScalarQuantizer" "dimension" "I" (.int (0 : Int32)) := D128 (Or.inr (own_w hw 39 rfl)) (ty := .int) (by decide)
  have F_lows_b128 : Fld Z h128 b128 "com/example/reverie/reverie/ScalarQuantizer" "lows" "[F" .null := D128 (Or.inr (own_w hw 50 rfl)) (ty := (.array .float)) (by decide)
  have F_highs_b128 : Fld Z h128 b128 "com/example/reverie/reverie/ScalarQuantizer" "highs" "[F" .null := D128 (Or.inr (own_w hw 52 rfl)) (ty := (.array .float)) (by decide)
  have F_scales_b128 : Fld Z h128 b128 "com/example/reverie/reverie/ScalarQuantizer" "scales" "[F" .null := D128 (Or.inr (own_w hw 54 rfl)) (ty := (.array .float)) (by decide)
  have F_startLows_b128 : Fld Z h128 b128 "com/example/reverie/reverie/ScalarQuantizer" "startLows" "[F" .null := D128 (Or.inr (own_w hw 56 rfl)) (ty := (.array .float)) (by decide)
  have F_startHighs_b128 : Fld Z h128 b128 "com/example/reverie/reverie/ScalarQuantizer" "startHighs" "[F" .null := D128 (Or.inr (own_w hw 58 rfl)) (ty := (.array .float)) (by decide)
  have F_startScales_b128 : Fld Z h128 b128 "com/example/reverie/reverie/ScalarQuantizer" "startScales" "[F" .null := D128 (Or.inr (own_w hw 60 rfl)) (ty := (.array .float)) (by decide)
  have F_changeCount_b128 : Fld Z h128 b128 "com/example/reverie/reverie/ScalarQuantizer" "changeCount" "I" (.int (0 : Int32)) := D128 (Or.inl (own_w hw 82 rfl)) (ty := .int) (by decide)
  have F_encodedCount_b128 : Fld Z h128 b128 "com/example/reverie/reverie/ScalarQuantizer" "encodedCount" "I" (.int (0 : Int32)) := D128 (Or.inl (own_w hw 84 rfl)) (ty := .int) (by decide)
  refine own_by st128 ?_
  have lb128_va : va < b128 := by rw [g128]; exact lt128_va
  have lb128_vb : vb < b128 := by rw [g128]; exact lt128_vb
  have lb128_vc : vc < b128 := by rw [g128]; exact lt128_vc
  have lb128_vd : vd < b128 := by rw [g128]; exact lt128_vd
  have lb128_b49 : b49 < b128 := by rw [g128]; exact lt128_b49
  have lb128_b39 : b39 < b128 := by rw [g128]; exact lt128_b39
  have lb128_q : ∀ y ∈ [b53, tlq, thq, tsq, slq, shq, ssq, cSq, cDq, cLq, cHq, cCq], y < b128 := by rw [g128]; exact lt128_q
  have lb128_b44 : b44 < b128 := by rw [g128]; exact lt128_b44
  have sg133 : ∀ t, own_S p e below T128 (mkF m 133 (own_AIIIIIRRRRIRRRRUUUUU i0 i1 i2 i3 i4 va vb vc vd r28_s0 b39 b44 b49 b53) [(.int (2 : Int32)), (.ref b128), (.ref b128)]) t → own_S p e below T128 (mkF m 131 (own_AIIIIIRRRRIRRRRUUUUU i0 i1 i2 i3 i4 va vb vc vd r28_s0 b39 b44 b49 b53) [(.ref b128)]) t := by
    intro t k
    refine XS.dup X128.here hx rfl (hb hby at_131) rfl rfl ?_
    show own_S p e below T128 (mkF m 132 (own_AIIIIIRRRRIRRRRUUUUU i0 i1 i2 i3 i4 va vb vc vd r28_s0 b39 b44 b49 b53) [(.ref b128), (.ref b128)]) _
    refine XS.iconst X128.here hx rfl (hb hby at_132) ?_
    exact k
  refine own_by sg133 ?_
  obtain ⟨_, _, ⟨T133, L133, k133, n133⟩, -, X133, ⟨Lc133, hQ133, l133, y133, z133⟩, st133⟩ := X128.specialBack hx (y := (⟨"com/example/reverie/reverie/ScalarQuantizer", "<init>", "(I)V"⟩ : MethodName)) rfl hown (mvT hZ (own_w hw 9 rfl)) (mvT hZ (own_w hw 10 rfl)) (mvT hZ (own_w hw 11 rfl)) (by decide) (backOf (W := 1) (rm2 l Z a0 hw [] b128 h128 n0 Z128 A128 F_changeStarts_b128 F_changeDimensions_b128 F_changeLows_b128 F_changeHighs_b128 F_changeScales_b128 F_dimension_b128 F_lows_b128 F_highs_b128 F_scales_b128 F_startLows_b128 F_startHighs_b128 F_startScales_b128 F_encodedCount_b128 F_changeCount_b128 g_b128) hZ (own_w hw 11 rfl) (own_w hw 8 rfl) (by decide) (by decide)) (g := (mkF m 133 (own_AIIIIIRRRRIRRRRUUUUU i0 i1 i2 i3 i4 va vb vc vd r28_s0 b39 b44 b49 b53) [(.int (2 : Int32)), (.ref b128), (.ref b128)])) rfl (by rw [hml]; rfl) (Steps.refl _) (a := b128) (argsL := [(.int (2 : Int32))]) (rest := [(.ref b128)]) (lenOf pd_0_1 rfl) rfl (by show 2 * 0 + _ ≤ _; exact Nat.le_of_eq rfl) (hb hby at_133) (fun _ _ => ⟨rfl, e128, (by decide : 23 + 14 ≤ _), (by decide : 140 + 98 ≤ _)⟩)
  dsimp only [Pt.U, Pt.locs, Pt.cells, Pt.slots] at X133 l133 y133 z133 st133 hQ133
  subst l133 y133 z133
  obtain ⟨rfl, N133q, Kq133, tlr, thr, tsr, slr, shr, ssr, cSr, cDr, cLr, cHr, cCr, al133, QQ133⟩ := hQ133
  have N133 := Fr.app N125 N133q
  have ge_r : ∀ y ∈ [b128, tlr, thr, tsr, slr, shr, ssr, cSr, cDr, cLr, cHr, cCr], b128 ≤ y := allS (Nat.le_refl _) (fun y hy => Nat.le_trans (Nat.le_of_lt A128.lt) (al133 y hy))
  have gn_r : ∀ y ∈ [b128, tlr, thr, tsr, slr, shr, ssr, cSr, cDr, cLr, cHr, cCr], n0 ≤ y := fun y hy => Nat.le_trans g_b128 (ge_r y hy)
  have gz_r : ∀ y ∈ [b128, tlr, thr, tsr, slr, shr, ssr, cSr, cDr, cLr, cHr, cCr], h0.size ≤ y := fun y hy => Nat.le_trans sz_b128 (ge_r y hy)
  have fc_33 := ((fc_27.ext E128).keep Kq133 (fun h => ne_va_b128 (List.mem_singleton.mp h)))
  have fc_34 := ((fc_28.ext E128).keep Kq133 (fun h => ne_vb_b128 (List.mem_singleton.mp h)))
  have fc_35 := ((fc_29.ext E128).keep Kq133 (fun h => ne_vc_b128 (List.mem_singleton.mp h)))
  have fc_36 := ((fc_30.ext E128).keep Kq133 (fun h => ne_vd_b128 (List.mem_singleton.mp h)))
  have fc_37 := ((fc_31.ext E128).keep Kq133 (fun h => ne_b49_b128 (List.mem_singleton.mp h)))
  have fc_38 := ((fc_32.ext E128).keep Kq133 (fun h => ne_b39_b128 (List.mem_singleton.mp h)))
  have fc_39 := ((A125.ext E128).keep Kq133 (fun h => ne_b44_b128 (List.mem_singleton.mp h)))
  have K133 : Keep h0 T133.heap [] := K128.trans Kq133 (fun x hx => by cases List.mem_singleton.mp hx; exact (Or.inr sz_b128))
  have Z133 : n0 ≤ T133.heap.size := Nat.le_trans Z128 Kq133.1
  have R133 : own_R Z T133.heap b128 tlr thr tsr slr shr ssr cSr cDr cLr cHr cCr (0 : Int32) ([] : List own_E) := ⟨_, _, _, _, _, _, rfl, rfl, QQ133⟩
  refine own_by (fun t k => st133.trans k) ?_
  have sg145 : ∀ t, own_S p e below T133 (mkF m 145 (own_AIIIIIRRRRIRRRRRUUUU i0 i1 i2 i3 i4 va vb vc vd r28_s0 b39 b44 b49 b53 b128) [(.int (0 : Int32)), (.ref b39), (.ref va), (.ref b128)]) t → own_S p e below T133 (mkF m 136 (own_AIIIIIRRRRIRRRRUUUUU i0 i1 i2 i3 i4 va vb vc vd r28_s0 b39 b44 b49 b53) [(.ref b128)]) t := by
    intro t k
    refine XS.astore X133.here hx rfl (hb hby at_136) rfl rfl (l' := (own_AIIIIIRRRRIRRRRRUUUU i0 i1 i2 i3 i4 va vb vc vd r28_s0 b39 b44 b49 b53 b128)) rfl ?_
    show own_S p e below T133 (mkF m 138 (own_AIIIIIRRRRIRRRRRUUUU i0 i1 i2 i3 i4 va vb vc vd r28_s0 b39 b44 b49 b53 b128) []) _
    refine XS.aload X133.here hx rfl (hb hby at_138) rfl rfl ?_
    show own_S p e below T133 (mkF m 140 (own_AIIIIIRRRRIRRRRRUUUU i0 i1 i2 i3 i4 va vb vc vd r28_s0 b39 b44 b49 b53 b128) [(.ref b128)]) _
    refine XS.aload X133.here hx rfl (hb hby at_140) rfl rfl ?_
    show own_S p e below T133 (mkF m 142 (own_AIIIIIRRRRIRRRRRUUUU i0 i1 i2 i3 i4 va vb vc vd r28_s0 b39 b44 b49 b53 b128) [(.ref va), (.ref b128)]) _
    refine XS.aload X133.here hx rfl (hb hby at_142) rfl rfl ?_
    show own_S p e below T133 (mkF m 144 (own_AIIIIIRRRRIRRRRRUUUU i0 i1 i2 i3 i4 va vb vc vd r28_s0 b39 b44 b49 b53 b128) [(.ref b39), (.ref va), (.ref b128)]) _
    refine XS.iconst X133.here hx rfl (hb hby at_144) ?_
    exact k
  refine own_by sg145 ?_
  obtain ⟨l0_145, l1_145, u0_145, u1_145, s0_145, s1_145, I0_145, I1_145, QQ145⟩ := id R133
  have gd145 := own_good0
  have ok0_145 : own_ok l0_145 u0_145 s0_145 := by have q := gd145.1; rw [I0_145] at q; exact q
  have ok1_145 : own_ok l1_145 u1_145 s1_145 := by have q := gd145.2.1; rw [I1_145] at q; exact q
  obtain ⟨cq145, kq145, q145a, q145b, q145c⟩ := isOf hZ rfl (A128.keep Kq133)
  obtain ⟨_, _, ⟨T145, L145, k145, n145⟩, -, X145, ⟨Lc145, hQ145, l145, y145, z145⟩, st145⟩ := X133.virtualBack hx (y := (⟨"com/example/reverie/reverie/ScalarQuantizer", "encode", "([F[BI)V"⟩ : MethodName)) (z := (⟨"com/example/reverie/reverie/ScalarQuantizer", "encode", "([F[BI)V"⟩ : MethodName)) hown (mvT hZ (own_w hw 61 rfl)) (mvT hZ (own_w hw 62 rfl)) (notFace_of_selects (args := #[]) (mvT hZ (own_w hw 64 rfl))) (mvT hZ (own_w hw 64 rfl)) (mvT hZ (own_w hw 63 rfl)) (by decide) (backOf (W := 0) (rm7 l Z a0 hw [] b128 va b39 tlr thr tsr slr shr ssr cSr cDr cLr cHr cCr (0 : Int32) l0_145 l1_145 u0_145 u1_145 s0_145 s1_145 ([] : List own_E) kr1 kc39 va0 va1 y0_110 y1_110 T133.heap n0 Z133 QQ145 (Nat.lt_of_le_of_lt gd145.2.2.2.2 (by decide)) gn_r fc_33 fc_38 g_b39 (own_nap ge_r lb128_va) (own_nap ge_r lb128_b39) ne_va_b39 sva0 sva1 ok0_145 ok1_145) hZ (own_w hw 65 rfl) (own_w hw 8 rfl) (by decide) (by decide)) q145a q145c (g := (mkF m 145 (own_AIIIIIRRRRIRRRRRUUUU i0 i1 i2 i3 i4 va vb vc vd r28_s0 b39 b44 b49 b53 b128) [(.int (0 : Int32)), (.ref b39), (.ref va), (.ref b128)])) rfl (by rw [hml]; rfl) (Steps.refl _) (argsL := [(.ref va), (.ref b39), (.int (0 : Int32))]) (rest := []) (lenOf pd_0_2 rfl) rfl (by show 2 * 0 + _ ≤ _; exact Nat.le_of_eq rfl) (hb hby at_145) (fun _ _ => ⟨rfl, rfl, (by decide : 37 + 0 ≤ _), (by decide : 238 + 0 ≤ _)⟩)
  dsimp only [Pt.U, Pt.locs, Pt.cells, Pt.slots] at X145 l145 y145 z145 st145 hQ145
  subst l145 y145 z145
  obtain ⟨rfl, N145q, Kq145, Qn145, AB145⟩ := hQ145
  have N145 := Fr.app N133 N145q
  have R145 : own_R Z T145.heap b128 tlr thr tsr slr shr ssr cSr cDr cLr cHr cCr (1 : Int32) hs1 := by rw [ehs1]; exact own_encR I0_145 I1_145 Qn145
  obtain ⟨y0_145, hy0_145⟩ : ∃ z : Int32, z = own_bt (0 : Int32) va0 hs1 := ⟨_, rfl⟩
  obtain ⟨y1_145, hy1_145⟩ : ∃ z : Int32, z = own_bt (1 : Int32) va1 hs1 := ⟨_, rfl⟩
  have A145 : Arv Z T145.heap b39 kc39 .byte (2 : Int32) [(.int y0_145), (.int y1_145)] (.int (0 : Int32)) := by rw [hy0_145, hy1_145, ehs1, own_encB0 I0_145 I1_145, own_encB1 I0_145 I1_145]; exact AB145
  have fc_40 := (fc_37.keep Kq145 (own_nmq ge_r lb128_b49 (Ne.symm ne_b39_b49)))
  have fc_41 := (((((fc_26.keep Kq115).keep Kq125).ext E128).keep Kq133).keep Kq145)
  have fc_42 := (((R125.ext E128).keep Kq133 (own_ap1 lb128_q)).keep Kq145 (fun y hy => own_nmq ge_r (lb128_q y hy) (Nat.ne_of_gt (Nat.lt_of_lt_of_le lb53_b39 (ge_q y hy)))))
  have fc_43 := (fc_39.keep Kq145 (own_nmq ge_r lb128_b44 (Ne.symm ne_b39_b44)))
  have K145 : Keep h0 T145.heap [] := K133.trans Kq145 (fun x hx => Or.inr (own_wge gz_r sz_b39 x hx))
  have Z145 : n0 ≤ T145.heap.size := Nat.le_trans Z133 Kq145.1
  refine own_by (fun t k => st145.trans k) ?_
  have sg155 : ∀ t, own_S p e below T145 (mkF m 155 (own_AIIIIIRRRRIRRRRRUUUU i0 i1 i2 i3 i4 va vb vc vd r28_s0 b39 b44 b49 b53 b128) [(.int (0 : Int32)), (.ref b39), (.ref vb), (.ref b128)]) t → own_S p e below T145 (mkF m 148 (own_AIIIIIRRRRIRRRRRUUUU i0 i1 i2 i3 i4 va vb vc vd r28_s0 b39 b44 b49 b53 b128) []) t := by
    intro t k
    refine XS.aload X145.here hx rfl (hb hby at_148) rfl rfl ?_
    show own_S p e below T145 (mkF m 150 (own_AIIIIIRRRRIRRRRRUUUU i0 i1 i2 i3 i4 va vb vc vd r28_s0 b39 b44 b49 b53 b128) [(.ref b128)]) _
    refine XS.aload X145.here hx rfl (hb hby at_150) rfl rfl ?_
    show own_S p e below T145 (mkF m 152 (own_AIIIIIRRRRIRRRRRUUUU i0 i1 i2 i3 i4 va vb vc vd r28_s0 b39 b44 b49 b53 b128) [(.ref vb), (.ref b128)]) _
    refine XS.aload X145.here hx rfl (hb hby at_152) rfl rfl ?_
    show own_S p e below T145 (mkF m 154 (own_AIIIIIRRRRIRRRRRUUUU i0 i1 i2 i3 i4 va vb vc vd r28_s0 b39 b44 b49 b53 b128) [(.ref b39), (.ref vb), (.ref b128)]) _
    refine XS.iconst X145.here hx rfl (hb hby at_154) ?_
    exact k
  refine own_by sg155 ?_
  obtain ⟨l0_155, l1_155, u0_155, u1_155, s0_155, s1_155, I0_155, I1_155, QQ155⟩ := id R145
  have gd155 := Ghs1
  have ok0_155 : own_ok l0_155 u0_155 s0_155 := by have q := gd155.1; rw [I0_155] at q; exact q
  have ok1_155 : own_ok l1_155 u1_155 s1_155 := by have q := gd155.2.1; rw [I1_155] at q; exact q
  obtain ⟨cq155, kq155, q155a, q155b, q155c⟩ := isOf hZ rfl ((A128.keep Kq133).keep Kq145)
  obtain ⟨_, _, ⟨T155, L155, k155, n155⟩, -, X155, ⟨Lc155, hQ155, l155, y155, z155⟩, st155⟩ := X145.virtualBack hx (y := (⟨"com/example/reverie/reverie/ScalarQuantizer", "encode", "([F[BI)V"⟩ : MethodName)) (z := (⟨"com/example/reverie/reverie/ScalarQuantizer", "encode", "([F[BI)V"⟩ : MethodName)) hown (mvT hZ (own_w hw 61 rfl)) (mvT hZ (own_w hw 62 rfl)) (notFace_of_selects (args := #[]) (mvT hZ (own_w hw 64 rfl))) (mvT hZ (own_w hw 64 rfl)) (mvT hZ (own_w hw 63 rfl)) (by decide) (backOf (W := 0) (rm7 l Z a0 hw [] b128 vb b39 tlr thr tsr slr shr ssr cSr cDr cLr cHr cCr (1 : Int32) l0_155 l1_155 u0_155 u1_155 s0_155 s1_155 hs1 kr7 kc39 vb0 vb1 y0_145 y1_145 T145.heap n0 Z145 QQ155 (Nat.lt_of_le_of_lt gd155.2.2.2.2 (by decide)) gn_r (fc_34.keep Kq145 (own_nmq ge_r lb128_vb ne_vb_b39)) A145 g_b39 (own_nap ge_r lb128_vb) (own_nap ge_r lb128_b39) ne_vb_b39 svb0 svb1 ok0_155 ok1_155) hZ (own_w hw 65 rfl) (own_w hw 8 rfl) (by decide) (by decide)) q155a q155c (g := (mkF m 155 (own_AIIIIIRRRRIRRRRRUUUU i0 i1 i2 i3 i4 va vb vc vd r28_s0 b39 b44 b49 b53 b128) [(.int (0 : Int32)), (.ref b39), (.ref vb), (.ref b128)])) rfl (by rw [hml]; rfl) (Steps.refl _) (argsL := [(.ref vb), (.ref b39), (.int (0 : Int32))]) (rest := []) (lenOf pd_0_2 rfl) rfl (by show 2 * 0 + _ ≤ _; exact Nat.le_of_eq rfl) (hb hby at_155) (fun _ _ => ⟨rfl, rfl, (by decide : 37 + 0 ≤ _), (by decide : 238 + 0 ≤ _)⟩)
  dsimp only [Pt.U, Pt.locs, Pt.cells, Pt.slots] at X155 l155 y155 z155 st155 hQ155
  subst l155 y155 z155
  obtain ⟨rfl, N155q, Kq155, Qn155, AB155⟩ := hQ155
  have N155 := Fr.app N145 N155q
  have R155 : own_R Z T155.heap b128 tlr thr tsr slr shr ssr cSr cDr cLr cHr cCr (2 : Int32) hs2 := by rw [ehs2]; exact own_encR I0_155 I1_155 Qn155
  obtain ⟨y0_155, hy0_155⟩ : ∃ z : Int32, z = own_bt (0 : Int32) vb0 hs2 := ⟨_, rfl⟩
  obtain ⟨y1_155, hy1_155⟩ : ∃ z : Int32, z = own_bt (1 : Int32) vb1 hs2 := ⟨_, rfl⟩
  have A155 : Arv Z T155.heap b39 kc39 .byte (2 : Int32) [(.int y0_155), (.int y1_155)] (.int (0 : Int32)) := by rw [hy0_155, hy1_155, ehs2, own_encB0 I0_155 I1_155, own_encB1 I0_155 I1_155]; exact AB155
  have fc_44 := ((fc_33.keep Kq145 (own_nmq ge_r lb128_va ne_va_b39)).keep Kq155 (own_nmq ge_r lb128_va ne_va_b39))
  have fc_45 := ((fc_34.keep Kq145 (own_nmq ge_r lb128_vb ne_vb_b39)).keep Kq155 (own_nmq ge_r lb128_vb ne_vb_b39))
  have fc_46 := ((fc_35.keep Kq145 (own_nmq ge_r lb128_vc ne_vc_b39)).keep Kq155 (own_nmq ge_r lb128_vc ne_vc_b39))
  have fc_47 := ((fc_36.keep Kq145 (own_nmq ge_r lb128_vd ne_vd_b39)).keep Kq155 (own_nmq ge_r lb128_vd ne_vd_b39))
  have fc_48 := (fc_40.keep Kq155 (own_nmq ge_r lb128_b49 (Ne.symm ne_b39_b49)))
  have fc_49 := (fc_42.keep Kq155 (fun y hy => own_nmq ge_r (lb128_q y hy) (Nat.ne_of_gt (Nat.lt_of_lt_of_le lb53_b39 (ge_q y hy)))))
  have fc_50 := (fc_43.keep Kq155 (own_nmq ge_r lb128_b44 (Ne.symm ne_b39_b44)))
  have K155 : Keep h0 T155.heap [] := K145.trans Kq155 (fun x hx => Or.inr (own_wge gz_r sz_b39 x hx))
  have Z155 : n0 ≤ T155.heap.size := Nat.le_trans Z145 Kq155.1
  refine own_by (fun t k => st155.trans k) ?_
  have sg165 : ∀ t, own_S p e below T155 (mkF m 165 (own_AIIIIIRRRRIRRRRRUUUU i0 i1 i2 i3 i4 va vb vc vd r28_s0 b39 b44 b49 b53 b128) [(.int (0 : Int32)), (.ref b49), (.ref vc), (.ref b128)]) t → own_S p e below T155 (mkF m 158 (own_AIIIIIRRRRIRRRRRUUUU i0 i1 i2 i3 i4 va vb vc vd r28_s0 b39 b44 b49 b53 b128) []) t := by
    intro t k
    refine XS.aload X155.here hx rfl (hb hby at_158) rfl rfl ?_
    show own_S p e below T155 (mkF m 160 (own_AIIIIIRRRRIRRRRRUUUU i0 i1 i2 i3 i4 va vb vc vd r28_s0 b39 b44 b49 b53 b128) [(.ref b128)]) _
    refine XS.aload X155.here hx rfl (hb hby at_160) rfl rfl ?_
    show own_S p e below T155 (mkF m 162 (own_AIIIIIRRRRIRRRRRUUUU i0 i1 i2 i3 i4 va vb vc vd r28_s0 b39 b44 b49 b53 b128) [(.ref vc), (.ref b128)]) _
    refine XS.aload X155.here hx rfl (hb hby at_162) rfl rfl ?_
    show own_S p e below T155 (mkF m 164 (own_AIIIIIRRRRIRRRRRUUUU i0 i1 i2 i3 i4 va vb vc vd r28_s0 b39 b44 b49 b53 b128) [(.ref b49), (.ref vc), (.ref b128)]) _
    refine XS.iconst X155.here hx rfl (hb hby at_164) ?_
    exact k
  refine own_by sg165 ?_
  obtain ⟨l0_165, l1_165, u0_165, u1_165, s0_165, s1_165, I0_165, I1_165, QQ165⟩ := id R155
  have gd165 := Ghs2
  have ok0_165 : own_ok l0_165 u0_165 s0_165 := by have q := gd165.1; rw [I0_165] at q; exact q
  have ok1_165 : own_ok l1_165 u1_165 s1_165 := by have q := gd165.2.1; rw [I1_165] at q; exact q
  obtain ⟨cq165, kq165, q165a, q165b, q165c⟩ := isOf hZ rfl (((A128.keep Kq133).keep Kq145).keep Kq155)
  obtain ⟨_, _, ⟨T165, L165, k165, n165⟩, -, X165, ⟨Lc165, hQ165, l165, y165, z165⟩, st165⟩ := X155.virtualBack hx (y := (⟨"com/example/reverie/reverie/ScalarQuantizer", "encode", "([F[BI)V"⟩ : MethodName)) (z := (⟨"com/example/reverie/reverie/ScalarQuantizer", "encode", "([F[BI)V"⟩ : MethodName)) hown (mvT hZ (own_w hw 61 rfl)) (mvT hZ (own_w hw 62 rfl)) (notFace_of_selects (args := #[]) (mvT hZ (own_w hw 64 rfl))) (mvT hZ (own_w hw 64 rfl)) (mvT hZ (own_w hw 63 rfl)) (by decide) (backOf (W := 0) (rm7 l Z a0 hw [] b128 vc b49 tlr thr tsr slr shr ssr cSr cDr cLr cHr cCr (2 : Int32) l0_165 l1_165 u0_165 u1_165 s0_165 s1_165 hs2 kr13 kc49 vc0 vc1 (0 : Int32) (0 : Int32) T155.heap n0 Z155 QQ165 (Nat.lt_of_le_of_lt gd165.2.2.2.2 (by decide)) gn_r fc_46 fc_48 g_b49 (own_nap ge_r lb128_vc) (own_nap ge_r lb128_b49) ne_vc_b49 svc0 svc1 ok0_165 ok1_165) hZ (own_w hw 65 rfl) (own_w hw 8 rfl) (by decide) (by decide)) q165a q165c (g := (mkF m 165 (own_AIIIIIRRRRIRRRRRUUUU i0 i1 i2 i3 i4 va vb vc vd r28_s0 b39 b44 b49 b53 b128) [(.int (0 : Int32)), (.ref b49), (.ref vc), (.ref b128)])) rfl (by rw [hml]; rfl) (Steps.refl _) (argsL := [(.ref vc), (.ref b49), (.int (0 : Int32))]) (rest := []) (lenOf pd_0_2 rfl) rfl (by show 2 * 0 + _ ≤ _; exact Nat.le_of_eq rfl) (hb hby at_165) (fun _ _ => ⟨rfl, rfl, (by decide : 37 + 0 ≤ _), (by decide : 238 + 0 ≤ _)⟩)
  dsimp only [Pt.U, Pt.locs, Pt.cells, Pt.slots] at X165 l165 y165 z165 st165 hQ165
  subst l165 y165 z165
  obtain ⟨rfl, N165q, Kq165, Qn165, AB165⟩ := hQ165
  have N165 := Fr.app N155 N165q
  have R165 : own_R Z T165.heap b128 tlr thr tsr slr shr ssr cSr cDr cLr cHr cCr (3 : Int32) hs4 := by rw [ehs4]; exact own_encR I0_165 I1_165 Qn165
  obtain ⟨y0_165, hy0_165⟩ : ∃ z : Int32, z = own_bt (0 : Int32) vc0 hs4 := ⟨_, rfl⟩
  obtain ⟨y1_165, hy1_165⟩ : ∃ z : Int32, z = own_bt (1 : Int32) vc1 hs4 := ⟨_, rfl⟩
  have A165 : Arv Z T165.heap b49 kc49 .byte (2 : Int32) [(.int y0_165), (.int y1_165)] (.int (0 : Int32)) := by rw [hy0_165, hy1_165, ehs4, own_encB0 I0_165 I1_165, own_encB1 I0_165 I1_165]; exact AB165
  have fc_51 := (fc_49.keep Kq165 (fun y hy => own_nmq ge_r (lb128_q y hy) (Nat.ne_of_gt (Nat.lt_of_lt_of_le lb53_b49 (ge_q y hy)))))
  have K165 : Keep h0 T165.heap [] := K155.trans Kq165 (fun x hx => Or.inr (own_wge gz_r sz_b49 x hx))
  have Z165 : n0 ≤ T165.heap.size := Nat.le_trans Z155 Kq165.1
  refine own_by (fun t k => st165.trans k) ?_
  have sg170 : ∀ t, own_S p e below T165 (mkF m 170 (own_AIIIIIRRRRIRRRRRUUUU i0 i1 i2 i3 i4 va vb vc vd r28_s0 b39 b44 b49 b53 b128) [(.ref b53)]) t → own_S p e below T165 (mkF m 168 (own_AIIIIIRRRRIRRRRRUUUU i0 i1 i2 i3 i4 va vb vc vd r28_s0 b39 b44 b49 b53 b128) []) t := by
    intro t k
    refine XS.aload X165.here hx rfl (hb hby at_168) rfl rfl ?_
    exact k
  refine own_by sg170 ?_
  obtain ⟨l0_170, l1_170, u0_170, u1_170, s0_170, s1_170, I0_170, I1_170, QQ170⟩ := id fc_51
  have gd170 := Ghs4
  have lcq_va := (fc_44.keep Kq165 (own_nmq ge_r lb128_va ne_va_b49)).lt
  have lcq_vb := (fc_45.keep Kq165 (own_nmq ge_r lb128_vb ne_vb_b49)).lt
  have lcq_vc := (fc_46.keep Kq165 (own_nmq ge_r lb128_vc ne_vc_b49)).lt
  have lcq_vd := (fc_47.keep Kq165 (own_nmq ge_r lb128_vd ne_vd_b49)).lt
  have lcQq_q := fc_51.lt
  have lcq_b44 := (fc_50.keep Kq165 (own_nmq ge_r lb128_b44 ne_b44_b49)).lt
  have lcq_b39 := (A155.keep Kq165 (own_nmq ge_r lb128_b39 ne_b39_b49)).lt
  have lcQq_r := R165.lt
  have lcq_b49 := A165.lt
  obtain ⟨cq170, kq170, q170a, q170b, q170c⟩ := isOf hZ rfl ((fc_41.keep Kq155).keep Kq165)
  obtain ⟨_, _, ⟨T170, L170, k170, n170⟩, -, X170, ⟨Lc170, hQ170, l170, y170, z170⟩, st170⟩ := X165.virtualBack hx (y := (⟨"com/example/reverie/reverie/ScalarQuantizer", "cursor", "()Lcom/example/reverie/reverie/ScalarQuantizer$Cursor;"⟩ : MethodName)) (z := (⟨"com/example/reverie/reverie/ScalarQuantizer", "cursor", "()Lcom/example/reverie/reverie/ScalarQuantizer$Cursor;"⟩ : MethodName)) hown (mvT hZ (own_w hw 109 rfl)) (mvT hZ (own_w hw 110 rfl)) (notFace_of_selects (args := #[]) (mvT hZ (own_w hw 112 rfl))) (mvT hZ (own_w hw 112 rfl)) (mvT hZ (own_w hw 111 rfl)) (by decide) (backOf (W := 0) (rm16 l Z a0 hw [] b53 tlq thq tsq slq shq ssq cSq cDq cLq cHq cCq (3 : Int32) l0_170 l1_170 u0_170 u1_170 s0_170 s1_170 hs4 T165.heap n0 Z165 QQ170) hZ (own_w hw 113 rfl) (own_w hw 8 rfl) (by decide) (by decide)) q170a q170c (g := (mkF m 170 (own_AIIIIIRRRRIRRRRRUUUU i0 i1 i2 i3 i4 va vb vc vd r28_s0 b39 b44 b49 b53 b128) [(.ref b53)])) rfl (by rw [hml]; rfl) (Steps.refl _) (argsL := []) (rest := []) (lenOf pd_0_4 rfl) rfl (by show 2 * 0 + _ ≤ _; exact Nat.le_of_eq rfl) (hb hby at_170) (fun _ _ => ⟨rfl, rfl, (by decide : 37 + 3 ≤ _), (by decide : 238 + 8 ≤ _)⟩)
  dsimp only [Pt.U, Pt.locs, Pt.cells, Pt.slots] at X170 l170 y170 z170 st170 hQ170
  subst l170 y170 z170
  obtain ⟨cq, miq, scq, kmq, ksq, rfl, ge170, gm170, gs170, nm170, N170q, Kq170, cu170⟩ := hQ170
  have N170 := Fr.app N165 N170q
  have g_cq : n0 ≤ cq := Nat.le_trans Z165 ge170
  have sz_cq : h0.size ≤ cq := Nat.le_trans K165.1 ge170
  have g_miq : n0 ≤ miq := Nat.le_trans Z165 gm170
  have sz_miq : h0.size ≤ miq := Nat.le_trans K165.1 gm170
  have g_scq : n0 ≤ scq := Nat.le_trans Z165 gs170
  have sz_scq : h0.size ≤ scq := Nat.le_trans K165.1 gs170
  have fc_52 := ((fc_44.keep Kq165 (own_nmq ge_r lb128_va ne_va_b49)).keep Kq170 List.not_mem_nil)
  have fc_53 := ((fc_45.keep Kq165 (own_nmq ge_r lb128_vb ne_vb_b49)).keep Kq170 List.not_mem_nil)
  have fc_54 := ((fc_46.keep Kq165 (own_nmq ge_r lb128_vc ne_vc_b49)).keep Kq170 List.not_mem_nil)
  have fc_55 := ((fc_47.keep Kq165 (own_nmq ge_r lb128_vd ne_vd_b49)).keep Kq170 List.not_mem_nil)
  have fc_56 := ((fc_50.keep Kq165 (own_nmq ge_r lb128_b44 ne_b44_b49)).keep Kq170 List.not_mem_nil)
  have fc_57 := (((((A128.keep Kq133).keep Kq145).keep Kq155).keep Kq165).keep Kq170)
  have fc_58 := ((A155.keep Kq165 (own_nmq ge_r lb128_b39 ne_b39_b49)).keep Kq170 List.not_mem_nil)
  have K170 : Keep h0 T170.heap [] := K165.trans Kq170 (fun x hx => nomatch hx)
  have Z170 : n0 ≤ T170.heap.size := Nat.le_trans Z165 Kq170.1
  refine own_by (fun t k => st170.trans k) ?_
  have sg178 : ∀ t, own_S p e below T170 (mkF m 178 (own_AIIIIIRRRRIRRRRRRUUU i0 i1 i2 i3 i4 va vb vc vd r28_s0 b39 b44 b49 b53 b128 cq) [(.int (2 : Int32)), (.ref cq)]) t → own_S p e below T170 (mkF m 173 (own_AIIIIIRRRRIRRRRRUUUU i0 i1 i2 i3 i4 va vb vc vd r28_s0 b39 b44 b49 b53 b128) [(.ref cq)]) t := by
    intro t k
    refine XS.astore X170.here hx rfl (hb hby at_173) rfl rfl (l' := (own_AIIIIIRRRRIRRRRRRUUU i0 i1 i2 i3 i4 va vb vc vd r28_s0 b39 b44 b49 b53 b128 cq)) rfl ?_
    show own_S p e below T170 (mkF m 175 (own_AIIIIIRRRRIRRRRRRUUU i0 i1 i2 i3 i4 va vb vc vd r28_s0 b39 b44 b49 b53 b128 cq) []) _
    refine XS.aload X170.here hx rfl (hb hby at_175) rfl rfl ?_
    show own_S p e below T170 (mkF m 177 (own_AIIIIIRRRRIRRRRRRUUU i0 i1 i2 i3 i4 va vb vc vd r28_s0 b39 b44 b49 b53 b128 cq) [(.ref cq)]) _
    refine XS.iconst X170.here hx rfl (hb hby at_177) ?_
    exact k
  refine own_by sg178 ?_
  obtain ⟨l0_178, l1_178, u0_178, u1_178, s0_178, s1_178, I0_178, I1_178, QQ178⟩ := id (fc_51.keep Kq170 (fun _ _ => List.not_mem_nil))
  obtain ⟨cq178, kq178, q178a, q178b, q178c⟩ := isOf hZ rfl cu170.1
  obtain ⟨_, _, ⟨T178, L178, k178, n178⟩, -, X178, ⟨Lc178, hQ178, l178, y178, z178⟩, st178⟩ := X170.virtualBack hx (y := (⟨"com/example/reverie/reverie/ScalarQuantizer$Cursor", "moveTo", "(I)V"⟩ : MethodName)) (z := (⟨"com/example/reverie/reverie/ScalarQuantizer$Cursor", "moveTo", "(I)V"⟩ : MethodName)) hown (mvT hZ (own_w hw 134 rfl)) (mvT hZ (own_w hw 135 rfl)) (notFace_of_selects (args := #[]) (mvT hZ (own_w hw 137 rfl))) (mvT hZ (own_w hw 137 rfl)) (mvT hZ (own_w hw 136 rfl)) (by decide) (backOf (W := 0) (rm18 l Z a0 hw [] cq b53 tlq thq tsq slq shq ssq cSq cDq cLq cHq cCq (3 : Int32) l0_178 l1_178 u0_178 u1_178 s0_178 s1_178 hs4 miq scq kmq ksq T170.heap n0 Z170 QQ178 (Nat.lt_of_le_of_lt Ghs4.2.2.2.2 (by decide)) Ghs4.2.2.1 (fun e he => own_nlt2 (Ghs4.2.2.2.1 e he)) cu170 nm170 (own_ap3 lcQq_q ge170 gm170 gs170) g_cq g_miq g_scq) hZ (own_w hw 138 rfl) (own_w hw 116 rfl) (by decide) (by decide)) q178a q178c (g := (mkF m 178 (own_AIIIIIRRRRIRRRRRRUUU i0 i1 i2 i3 i4 va vb vc vd r28_s0 b39 b44 b49 b53 b128 cq) [(.int (2 : Int32)), (.ref cq)])) rfl (by rw [hml]; rfl) (Steps.refl _) (argsL := [(.int (2 : Int32))]) (rest := []) (lenOf pd_0_1 rfl) rfl (by show 2 * 0 + _ ≤ _; exact Nat.le_of_eq rfl) (hb hby at_178) (fun _ _ => ⟨rfl, rfl, (by decide : 40 + 0 ≤ _), (by decide : 246 + 0 ≤ _)⟩)
  dsimp only [Pt.U, Pt.locs, Pt.cells, Pt.slots] at X178 l178 y178 z178 st178 hQ178
  subst l178 y178 z178
  obtain ⟨rfl, N178q, Kq178, m0q, m1q, c0q, c1q, x0q, x1q, J0q, J1q, cu178⟩ := hQ178
  have N178 := Fr.app N170 N178q
  have fc_59 := (fc_52.keep Kq178 (own_ap3 (L := [va]) (allS lcq_va all0) ge170 gm170 gs170 va (List.mem_singleton.mpr rfl)))
  have fc_60 := (fc_53.keep Kq178 (own_ap3 (L := [vb]) (allS lcq_vb all0) ge170 gm170 gs170 vb (List.mem_singleton.mpr rfl)))
  have fc_61 := (fc_54.keep Kq178 (own_ap3 (L := [vc]) (allS lcq_vc all0) ge170 gm170 gs170 vc (List.mem_singleton.mpr rfl)))
  have fc_62 := (fc_55.keep Kq178 (own_ap3 (L := [vd]) (allS lcq_vd all0) ge170 gm170 gs170 vd (List.mem_singleton.mpr rfl)))
  have fc_63 := ((fc_51.keep Kq170 (fun _ _ => List.not_mem_nil)).keep Kq178 (own_ap3 lcQq_q ge170 gm170 gs170))
  have fc_64 := (fc_56.keep Kq178 (own_ap3 (L := [b44]) (allS lcq_b44 all0) ge170 gm170 gs170 b44 (List.mem_singleton.mpr rfl)))
  have fc_65 := (fc_58.keep Kq178 (own_ap3 (L := [b39]) (allS lcq_b39 all0) ge170 gm170 gs170 b39 (List.mem_singleton.mpr rfl)))
  have fc_66 := ((R165.keep Kq170 (fun _ _ => List.not_mem_nil)).keep Kq178 (own_ap3 lcQq_r ge170 gm170 gs170))
  have fc_67 := ((A165.keep Kq170 List.not_mem_nil).keep Kq178 (own_ap3 (L := [b49]) (allS lcq_b49 all0) ge170 gm170 gs170 b49 (List.mem_singleton.mpr rfl)))
  have K178 : Keep h0 T178.heap [] := K170.trans Kq178 (fun x hx => Or.inr ((allS sz_cq (allS sz_miq (allS sz_scq all0))) x hx))
  have Z178 : n0 ≤ T178.heap.size := Nat.le_trans Z170 Kq178.1
  have fi0q := Fihs4.1
  rw [J0q] at fi0q
  have fi1q := Fihs4.2
  rw [J1q] at fi1q
  refine own_by (fun t k => st178.trans k) ?_
  have sg186 : ∀ t, own_S p e below T178 (mkF m 186 (own_AIIIIIRRRRIRRRRRRUUU i0 i1 i2 i3 i4 va vb vc vd r28_s0 b39 b44 b49 b53 b128 cq) [(.int (0 : Int32)), (.ref b44), (.ref cq)]) t → own_S p e below T178 (mkF m 181 (own_AIIIIIRRRRIRRRRRRUUU i0 i1 i2 i3 i4 va vb vc vd r28_s0 b39 b44 b49 b53 b128 cq) []) t := by
    intro t k
    refine XS.aload X178.here hx rfl (hb hby at_181) rfl rfl ?_
    show own_S p e below T178 (mkF m 183 (own_AIIIIIRRRRIRRRRRRUUU i0 i1 i2 i3 i4 va vb vc vd r28_s0 b39 b44 b49 b53 b128 cq) [(.ref cq)]) _
    refine XS.aload X178.here hx rfl (hb hby at_183) rfl rfl ?_
    show own_S p e below T178 (mkF m 185 (own_AIIIIIRRRRIRRRRRRUUU i0 i1 i2 i3 i4 va vb vc vd r28_s0 b39 b44 b49 b53 b128 cq) [(.ref b44), (.ref cq)]) _
    refine XS.iconst X178.here hx rfl (hb hby at_185) ?_
    exact k
  refine own_by sg186 ?_
  obtain ⟨_, _, _, _, _, _, -, -, QQ186⟩ := id fc_63
  obtain ⟨cq186, kq186, q186a, q186b, q186c⟩ := isOf hZ rfl cu178.1
  obtain ⟨_, _, ⟨T186, L186, k186, n186⟩, -, X186, ⟨Lc186, hQ186, l186, y186, z186⟩, st186⟩ := X178.virtualBack hx (y := (⟨"com/example/reverie/reverie/ScalarQuantizer$Cursor", "decode", "([BI)[F"⟩ : MethodName)) (z := (⟨"com/example/reverie/reverie/ScalarQuantizer$Cursor", "decode", "([BI)[F"⟩ : MethodName)) hown (mvT hZ (own_w hw 146 rfl)) (mvT hZ (own_w hw 147 rfl)) (notFace_of_selects (args := #[]) (mvT hZ (own_w hw 149 rfl))) (mvT hZ (own_w hw 149 rfl)) (mvT hZ (own_w hw 148 rfl)) (by decide) (backOf (W := 0) (rm19 l Z a0 hw [] cq b44 b53 miq scq kmq ksq kc44 m0q m1q c0q c1q (Int32.ofNat hs4.length) y0_125 y1_125 T178.heap n0 Z178 cu178 QQ186.dim fc_64 fi0q.1.fin fi1q.1.fin fi0q.2.2 fi1q.2.2) hZ (own_w hw 150 rfl) (own_w hw 116 rfl) (by decide) (by decide)) q186a q186c (g := (mkF m 186 (own_AIIIIIRRRRIRRRRRRUUU i0 i1 i2 i3 i4 va vb vc vd r28_s0 b39 b44 b49 b53 b128 cq) [(.int (0 : Int32)), (.ref b44), (.ref cq)])) rfl (by rw [hml]; rfl) (Steps.refl _) (argsL := [(.ref b44), (.int (0 : Int32))]) (rest := []) (lenOf pd_0_5 rfl) rfl (by show 2 * 0 + _ ≤ _; exact Nat.le_of_eq rfl) (hb hby at_186) (fun _ _ => ⟨rfl, rfl, (by decide : 40 + 1 ≤ _), (by decide : 246 + 2 ≤ _)⟩)
  dsimp only [Pt.U, Pt.locs, Pt.cells, Pt.slots] at X186 l186 y186 z186 st186 hQ186
  subst l186 y186 z186
  obtain ⟨dvq, kr186, rfl, ge186, N186q, Kq186, Aq186⟩ := hQ186
  have N186 := Fr.app N178 N186q
  obtain ⟨dvq0, hdvq0⟩ : ∃ z : UInt32, z = own_dv m0q c0q y0_125 := ⟨_, rfl⟩
  obtain ⟨dvq1, hdvq1⟩ : ∃ z : UInt32, z = own_dv m1q c1q y1_125 := ⟨_, rfl⟩
  rw [← hdvq0, ← hdvq1] at Aq186
  have ne_va_dvq : va ≠ dvq := Nat.ne_of_lt (Nat.lt_of_lt_of_le fc_59.lt ge186)
  have ne_vb_dvq : vb ≠ dvq := Nat.ne_of_lt (Nat.lt_of_lt_of_le fc_60.lt ge186)
  have ne_vc_dvq : vc ≠ dvq := Nat.ne_of_lt (Nat.lt_of_lt_of_le fc_61.lt ge186)
  have ne_vd_dvq : vd ≠ dvq := Nat.ne_of_lt (Nat.lt_of_lt_of_le fc_62.lt ge186)
  have ne_b53_dvq : b53 ≠ dvq := Nat.ne_of_lt (Nat.lt_of_lt_of_le ((((fc_41.keep Kq155).keep Kq165).keep Kq170).keep Kq178).lt ge186)
  have ne_b44_dvq : b44 ≠ dvq := Nat.ne_of_lt (Nat.lt_of_lt_of_le fc_64.lt ge186)
  have ne_b128_dvq : b128 ≠ dvq := Nat.ne_of_lt (Nat.lt_of_lt_of_le (fc_57.keep Kq178).lt ge186)
  have ne_b39_dvq : b39 ≠ dvq := Nat.ne_of_lt (Nat.lt_of_lt_of_le fc_65.lt ge186)
  have ne_b49_dvq : b49 ≠ dvq := Nat.ne_of_lt (Nat.lt_of_lt_of_le fc_67.lt ge186)
  have ne_cq_dvq : cq ≠ dvq := Nat.ne_of_lt (Nat.lt_of_lt_of_le cu178.1.lt ge186)
  have g_dvq : n0 ≤ dvq := Nat.le_trans Z178 ge186
  have sz_dvq : h0.size ≤ dvq := Nat.le_trans K178.1 ge186
  have fc_68 := (((((fc_41.keep Kq155).keep Kq165).keep Kq170).keep Kq178).keep Kq186)
  have K186 : Keep h0 T186.heap [] := K178.trans Kq186 (fun x hx => nomatch hx)
  have Z186 : n0 ≤ T186.heap.size := Nat.le_trans Z178 Kq186.1
  refine own_by (fun t k => st186.trans k) ?_
  have sg193 : ∀ t, own_S p e below T186 (mkF m 193 (own_AIIIIIRRRRIRRRRRRRUU i0 i1 i2 i3 i4 va vb vc vd r28_s0 b39 b44 b49 b53 b128 cq dvq) [(.ref b128)]) t → own_S p e below T186 (mkF m 189 (own_AIIIIIRRRRIRRRRRRUUU i0 i1 i2 i3 i4 va vb vc vd r28_s0 b39 b44 b49 b53 b128 cq) [(.ref dvq)]) t := by
    intro t k
    refine XS.astore X186.here hx rfl (hb hby at_189) rfl rfl (l' := (own_AIIIIIRRRRIRRRRRRRUU i0 i1 i2 i3 i4 va vb vc vd r28_s0 b39 b44 b49 b53 b128 cq dvq)) rfl ?_
    show own_S p e below T186 (mkF m 191 (own_AIIIIIRRRRIRRRRRRRUU i0 i1 i2 i3 i4 va vb vc vd r28_s0 b39 b44 b49 b53 b128 cq dvq) []) _
    refine XS.aload X186.here hx rfl (hb hby at_191) rfl rfl ?_
    exact k
  refine own_by sg193 ?_
  obtain ⟨l0_193, l1_193, u0_193, u1_193, s0_193, s1_193, I0_193, I1_193, QQ193⟩ := id (fc_66.keep Kq186 (fun _ _ => List.not_mem_nil))
  have gd193 := Ghs4
  have lcr_va := (fc_59.keep Kq186 List.not_mem_nil).lt
  have lcr_vb := (fc_60.keep Kq186 List.not_mem_nil).lt
  have lcr_vc := (fc_61.keep Kq186 List.not_mem_nil).lt
  have lcr_vd := (fc_62.keep Kq186 List.not_mem_nil).lt
  have lcQr_q := (fc_63.keep Kq186 (fun _ _ => List.not_mem_nil)).lt
  have lcr_b44 := (fc_64.keep Kq186 List.not_mem_nil).lt
  have lcr_b39 := (fc_65.keep Kq186 List.not_mem_nil).lt
  have lcQr_r := (fc_66.keep Kq186 (fun _ _ => List.not_mem_nil)).lt
  have lcr_b49 := (fc_67.keep Kq186 List.not_mem_nil).lt
  have lcr_dvq := Aq186.lt
  obtain ⟨cq193, kq193, q193a, q193b, q193c⟩ := isOf hZ rfl ((fc_57.keep Kq178).keep Kq186)
  obtain ⟨_, _, ⟨T193, L193, k193, n193⟩, -, X193, ⟨Lc193, hQ193, l193, y193, z193⟩, st193⟩ := X186.virtualBack hx (y := (⟨"com/example/reverie/reverie/ScalarQuantizer", "cursor", "()Lcom/example/reverie/reverie/ScalarQuantizer$Cursor;"⟩ : MethodName)) (z := (⟨"com/example/reverie/reverie/ScalarQuantizer", "cursor", "()Lcom/example/reverie/reverie/ScalarQuantizer$Cursor;"⟩ : MethodName)) hown (mvT hZ (own_w hw 109 rfl)) (mvT hZ (own_w hw 110 rfl)) (notFace_of_selects (args := #[]) (mvT hZ (own_w hw 112 rfl))) (mvT hZ (own_w hw 112 rfl)) (mvT hZ (own_w hw 111 rfl)) (by decide) (backOf (W := 0) (rm16 l Z a0 hw [] b128 tlr thr tsr slr shr ssr cSr cDr cLr cHr cCr (3 : Int32) l0_193 l1_193 u0_193 u1_193 s0_193 s1_193 hs4 T186.heap n0 Z186 QQ193) hZ (own_w hw 113 rfl) (own_w hw 8 rfl) (by decide) (by decide)) q193a q193c (g := (mkF m 193 (own_AIIIIIRRRRIRRRRRRRUU i0 i1 i2 i3 i4 va vb vc vd r28_s0 b39 b44 b49 b53 b128 cq dvq) [(.ref b128)])) rfl (by rw [hml]; rfl) (Steps.refl _) (argsL := []) (rest := []) (lenOf pd_0_4 rfl) rfl (by show 2 * 0 + _ ≤ _; exact Nat.le_of_eq rfl) (hb hby at_193) (fun _ _ => ⟨rfl, rfl, (by decide : 41 + 3 ≤ _), (by decide : 248 + 8 ≤ _)⟩)
  dsimp only [Pt.U, Pt.locs, Pt.cells, Pt.slots] at X193 l193 y193 z193 st193 hQ193
  subst l193 y193 z193
  obtain ⟨cr, mir, scr, kmr, ksr, rfl, ge193, gm193, gs193, nm193, N193q, Kq193, cu193⟩ := hQ193
  have N193 := Fr.app N186 N193q
  have g_cr : n0 ≤ cr := Nat.le_trans Z186 ge193
  have sz_cr : h0.size ≤ cr := Nat.le_trans K186.1 ge193
  have g_mir : n0 ≤ mir := Nat.le_trans Z186 gm193
  have sz_mir : h0.size ≤ mir := Nat.le_trans K186.1 gm193
  have g_scr : n0 ≤ scr := Nat.le_trans Z186 gs193
  have sz_scr : h0.size ≤ scr := Nat.le_trans K186.1 gs193
  have fc_69 := ((fc_59.keep Kq186 List.not_mem_nil).keep Kq193 List.not_mem_nil)
  have fc_70 := ((fc_60.keep Kq186 List.not_mem_nil).keep Kq193 List.not_mem_nil)
  have fc_71 := ((fc_61.keep Kq186 List.not_mem_nil).keep Kq193 List.not_mem_nil)
  have fc_72 := ((fc_62.keep Kq186 List.not_mem_nil).keep Kq193 List.not_mem_nil)
  have fc_73 := ((fc_63.keep Kq186 (fun _ _ => List.not_mem_nil)).keep Kq193 (fun _ _ => List.not_mem_nil))
  have fc_74 := ((fc_64.keep Kq186 List.not_mem_nil).keep Kq193 List.not_mem_nil)
  have fc_75 := ((fc_65.keep Kq186 List.not_mem_nil).keep Kq193 List.not_mem_nil)
  have fc_76 := ((fc_66.keep Kq186 (fun _ _ => List.not_mem_nil)).keep Kq193 (fun _ _ => List.not_mem_nil))
  have fc_77 := ((fc_67.keep Kq186 List.not_mem_nil).keep Kq193 List.not_mem_nil)
  have K193 : Keep h0 T193.heap [] := K186.trans Kq193 (fun x hx => nomatch hx)
  have Z193 : n0 ≤ T193.heap.size := Nat.le_trans Z186 Kq193.1
  refine own_by (fun t k => st193.trans k) ?_
  have sg201 : ∀ t, own_S p e below T193 (mkF m 201 (own_AIIIIIRRRRIRRRRRRRRU i0 i1 i2 i3 i4 va vb vc vd r28_s0 b39 b44 b49 b53 b128 cq dvq cr) [(.int (2 : Int32)), (.ref cr)]) t → own_S p e below T193 (mkF m 196 (own_AIIIIIRRRRIRRRRRRRUU i0 i1 i2 i3 i4 va vb vc vd r28_s0 b39 b44 b49 b53 b128 cq dvq) [(.ref cr)]) t := by
    intro t k
    refine XS.astore X193.here hx rfl (hb hby at_196) rfl rfl (l' := (own_AIIIIIRRRRIRRRRRRRRU i0 i1 i2 i3 i4 va vb vc vd r28_s0 b39 b44 b49 b53 b128 cq dvq cr)) rfl ?_
    show own_S p e below T193 (mkF m 198 (own_AIIIIIRRRRIRRRRRRRRU i0 i1 i2 i3 i4 va vb vc vd r28_s0 b39 b44 b49 b53 b128 cq dvq cr) []) _
    refine XS.aload X193.here hx rfl (hb hby at_198) rfl rfl ?_
    show own_S p e below T193 (mkF m 200 (own_AIIIIIRRRRIRRRRRRRRU i0 i1 i2 i3 i4 va vb vc vd r28_s0 b39 b44 b49 b53 b128 cq dvq cr) [(.ref cr)]) _
    refine XS.iconst X193.here hx rfl (hb hby at_200) ?_
    exact k
  refine own_by sg201 ?_
  obtain ⟨l0_201, l1_201, u0_201, u1_201, s0_201, s1_201, I0_201, I1_201, QQ201⟩ := id fc_76
  obtain ⟨cq201, kq201, q201a, q201b, q201c⟩ := isOf hZ rfl cu193.1
  obtain ⟨_, _, ⟨T201, L201, k201, n201⟩, -, X201, ⟨Lc201, hQ201, l201, y201, z201⟩, st201⟩ := X193.virtualBack hx (y := (⟨"com/example/reverie/reverie/ScalarQuantizer$Cursor", "moveTo", "(I)V"⟩ : MethodName)) (z := (⟨"com/example/reverie/reverie/ScalarQuantizer$Cursor", "moveTo", "(I)V"⟩ : MethodName)) hown (mvT hZ (own_w hw 134 rfl)) (mvT hZ (own_w hw 135 rfl)) (notFace_of_selects (args := #[]) (mvT hZ (own_w hw 137 rfl))) (mvT hZ (own_w hw 137 rfl)) (mvT hZ (own_w hw 136 rfl)) (by decide) (backOf (W := 0) (rm18 l Z a0 hw [] cr b128 tlr thr tsr slr shr ssr cSr cDr cLr cHr cCr (3 : Int32) l0_201 l1_201 u0_201 u1_201 s0_201 s1_201 hs4 mir scr kmr ksr T193.heap n0 Z193 QQ201 (Nat.lt_of_le_of_lt Ghs4.2.2.2.2 (by decide)) Ghs4.2.2.1 (fun e he => own_nlt2 (Ghs4.2.2.2.1 e he)) cu193 nm193 (own_ap3 lcQr_r ge193 gm193 gs193) g_cr g_mir g_scr) hZ (own_w hw 138 rfl) (own_w hw 116 rfl) (by decide) (by decide)) q201a q201c (g := (mkF m 201 (own_AIIIIIRRRRIRRRRRRRRU i0 i1 i2 i3 i4 va vb vc vd r28_s0 b39 b44 b49 b53 b128 cq dvq cr) [(.int (2 : Int32)), (.ref cr)])) rfl (by rw [hml]; rfl) (Steps.refl _) (argsL := [(.int (2 : Int32))]) (rest := []) (lenOf pd_0_1 rfl) rfl (by show 2 * 0 + _ ≤ _; exact Nat.le_of_eq rfl) (hb hby at_201) (fun _ _ => ⟨rfl, rfl, (by decide : 44 + 0 ≤ _), (by decide : 256 + 0 ≤ _)⟩)
  dsimp only [Pt.U, Pt.locs, Pt.cells, Pt.slots] at X201 l201 y201 z201 st201 hQ201
  subst l201 y201 z201
  obtain ⟨rfl, N201q, Kq201, m0r, m1r, c0r, c1r, x0r, x1r, J0r, J1r, cu201⟩ := hQ201
  have N201 := Fr.app N193 N201q
  have fc_78 := (fc_69.keep Kq201 (own_ap3 (L := [va]) (allS lcr_va all0) ge193 gm193 gs193 va (List.mem_singleton.mpr rfl)))
  have fc_79 := (fc_70.keep Kq201 (own_ap3 (L := [vb]) (allS lcr_vb all0) ge193 gm193 gs193 vb (List.mem_singleton.mpr rfl)))
  have fc_80 := (fc_71.keep Kq201 (own_ap3 (L := [vc]) (allS lcr_vc all0) ge193 gm193 gs193 vc (List.mem_singleton.mpr rfl)))
  have fc_81 := (fc_72.keep Kq201 (own_ap3 (L := [vd]) (allS lcr_vd all0) ge193 gm193 gs193 vd (List.mem_singleton.mpr rfl)))
  have fc_82 := (fc_74.keep Kq201 (own_ap3 (L := [b44]) (allS lcr_b44 all0) ge193 gm193 gs193 b44 (List.mem_singleton.mpr rfl)))
  have fc_83 := (fc_75.keep Kq201 (own_ap3 (L := [b39]) (allS lcr_b39 all0) ge193 gm193 gs193 b39 (List.mem_singleton.mpr rfl)))
  have fc_84 := (fc_77.keep Kq201 (own_ap3 (L := [b49]) (allS lcr_b49 all0) ge193 gm193 gs193 b49 (List.mem_singleton.mpr rfl)))
  have fc_85 := ((Aq186.keep Kq193 List.not_mem_nil).keep Kq201 (own_ap3 (L := [dvq]) (allS lcr_dvq all0) ge193 gm193 gs193 dvq (List.mem_singleton.mpr rfl)))
  have K201 : Keep h0 T201.heap [] := K193.trans Kq201 (fun x hx => Or.inr ((allS sz_cr (allS sz_mir (allS sz_scr all0))) x hx))
  have Z201 : n0 ≤ T201.heap.size := Nat.le_trans Z193 Kq201.1
  have fi0r := Fihs4.1
  rw [J0r] at fi0r
  have fi1r := Fihs4.2
  rw [J1r] at fi1r
  refine own_by (fun t k => st201.trans k) ?_
  have sg209 : ∀ t, own_S p e below T201 (mkF m 209 (own_AIIIIIRRRRIRRRRRRRRU i0 i1 i2 i3 i4 va vb vc vd r28_s0 b39 b44 b49 b53 b128 cq dvq cr) [(.int (0 : Int32)), (.ref b49), (.ref cr)]) t → own_S p e below T201 (mkF m 204 (own_AIIIIIRRRRIRRRRRRRRU i0 i1 i2 i3 i4 va vb vc vd r28_s0 b39 b44 b49 b53 b128 cq dvq cr) []) t := by
    intro t k
    refine XS.aload X201.here hx rfl (hb hby at_204) rfl rfl ?_
    show own_S p e below T201 (mkF m 206 (own_AIIIIIRRRRIRRRRRRRRU i0 i1 i2 i3 i4 va vb vc vd r28_s0 b39 b44 b49 b53 b128 cq dvq cr) [(.ref cr)]) _
    refine XS.aload X201.here hx rfl (hb hby at_206) rfl rfl ?_
    show own_S p e below T201 (mkF m 208 (own_AIIIIIRRRRIRRRRRRRRU i0 i1 i2 i3 i4 va vb vc vd r28_s0 b39 b44 b49 b53 b128 cq dvq cr) [(.ref b49), (.ref cr)]) _
    refine XS.iconst X201.here hx rfl (hb hby at_208) ?_
    exact k
  refine own_by sg209 ?_
  obtain ⟨_, _, _, _, _, _, -, -, QQ209⟩ := id (fc_76.keep Kq201 (own_ap3 lcQr_r ge193 gm193 gs193))
  obtain ⟨cq209, kq209, q209a, q209b, q209c⟩ := isOf hZ rfl cu201.1
  obtain ⟨_, _, ⟨T209, L209, k209, n209⟩, -, X209, ⟨Lc209, hQ209, l209, y209, z209⟩, st209⟩ := X201.virtualBack hx (y := (⟨"com/example/reverie/reverie/ScalarQuantizer$Cursor", "decode", "([BI)[F"⟩ : MethodName)) (z := (⟨"com/example/reverie/reverie/ScalarQuantizer$Cursor", "decode", "([BI)[F"⟩ : MethodName)) hown (mvT hZ (own_w hw 146 rfl)) (mvT hZ (own_w hw 147 rfl)) (notFace_of_selects (args := #[]) (mvT hZ (own_w hw 149 rfl))) (mvT hZ (own_w hw 149 rfl)) (mvT hZ (own_w hw 148 rfl)) (by decide) (backOf (W := 0) (rm19 l Z a0 hw [] cr b49 b128 mir scr kmr ksr kc49 m0r m1r c0r c1r (Int32.ofNat hs4.length) y0_165 y1_165 T201.heap n0 Z201 cu201 QQ209.dim fc_84 fi0r.1.fin fi1r.1.fin fi0r.2.2 fi1r.2.2) hZ (own_w hw 150 rfl) (own_w hw 116 rfl) (by decide) (by decide)) q209a q209c (g := (mkF m 209 (own_AIIIIIRRRRIRRRRRRRRU i0 i1 i2 i3 i4 va vb vc vd r28_s0 b39 b44 b49 b53 b128 cq dvq cr) [(.int (0 : Int32)), (.ref b49), (.ref cr)])) rfl (by rw [hml]; rfl) (Steps.refl _) (argsL := [(.ref b49), (.int (0 : Int32))]) (rest := []) (lenOf pd_0_5 rfl) rfl (by show 2 * 0 + _ ≤ _; exact Nat.le_of_eq rfl) (hb hby at_209) (fun _ _ => ⟨rfl, rfl, (by decide : 44 + 1 ≤ _), (by decide : 256 + 2 ≤ _)⟩)
  dsimp only [Pt.U, Pt.locs, Pt.cells, Pt.slots] at X209 l209 y209 z209 st209 hQ209
  subst l209 y209 z209
  obtain ⟨dvr, kr209, rfl, ge209, N209q, Kq209, Aq209⟩ := hQ209
  have N209 := Fr.app N201 N209q
  obtain ⟨dvr0, hdvr0⟩ : ∃ z : UInt32, z = own_dv m0r c0r y0_165 := ⟨_, rfl⟩
  obtain ⟨dvr1, hdvr1⟩ : ∃ z : UInt32, z = own_dv m1r c1r y1_165 := ⟨_, rfl⟩
  rw [← hdvr0, ← hdvr1] at Aq209
  have ne_va_dvr : va ≠ dvr := Nat.ne_of_lt (Nat.lt_of_lt_of_le fc_78.lt ge209)
  have ne_vb_dvr : vb ≠ dvr := Nat.ne_of_lt (Nat.lt_of_lt_of_le fc_79.lt ge209)
  have ne_vc_dvr : vc ≠ dvr := Nat.ne_of_lt (Nat.lt_of_lt_of_le fc_80.lt ge209)
  have ne_vd_dvr : vd ≠ dvr := Nat.ne_of_lt (Nat.lt_of_lt_of_le fc_81.lt ge209)
  have ne_b53_dvr : b53 ≠ dvr := Nat.ne_of_lt (Nat.lt_of_lt_of_le ((fc_68.keep Kq193).keep Kq201).lt ge209)
  have ne_b44_dvr : b44 ≠ dvr := Nat.ne_of_lt (Nat.lt_of_lt_of_le fc_82.lt ge209)
  have ne_b128_dvr : b128 ≠ dvr := Nat.ne_of_lt (Nat.lt_of_lt_of_le ((((fc_57.keep Kq178).keep Kq186).keep Kq193).keep Kq201).lt ge209)
  have ne_b39_dvr : b39 ≠ dvr := Nat.ne_of_lt (Nat.lt_of_lt_of_le fc_83.lt ge209)
  have ne_b49_dvr : b49 ≠ dvr := Nat.ne_of_lt (Nat.lt_of_lt_of_le fc_84.lt ge209)
  have ne_cq_dvr : cq ≠ dvr := Nat.ne_of_lt (Nat.lt_of_lt_of_le (((cu178.1.keep Kq186).keep Kq193).keep Kq201).lt ge209)
  have ne_dvq_dvr : dvq ≠ dvr := Nat.ne_of_lt (Nat.lt_of_lt_of_le fc_85.lt ge209)
  have ne_cr_dvr : cr ≠ dvr := Nat.ne_of_lt (Nat.lt_of_lt_of_le cu201.1.lt ge209)
  have g_dvr : n0 ≤ dvr := Nat.le_trans Z201 ge209
  have sz_dvr : h0.size ≤ dvr := Nat.le_trans K201.1 ge209
  have fc_86 := ((fc_73.keep Kq201 (own_ap3 lcQr_q ge193 gm193 gs193)).keep Kq209 (fun _ _ => List.not_mem_nil))
  have fc_87 := (((((fc_57.keep Kq178).keep Kq186).keep Kq193).keep Kq201).keep Kq209)
  have fc_88 := ((fc_76.keep Kq201 (own_ap3 lcQr_r ge193 gm193 gs193)).keep Kq209 (fun _ _ => List.not_mem_nil))
  have K209 : Keep h0 T209.heap [] := K201.trans Kq209 (fun x hx => nomatch hx)
  have Z209 : n0 ≤ T209.heap.size := Nat.le_trans Z201 Kq209.1
  refine own_by (fun t k => st209.trans k) ?_
  have sg217 : ∀ t, own_S p e below T209 (mkF m 217 (own_AIIIIIRRRRIRRRRRRRRR i0 i1 i2 i3 i4 va vb vc vd r28_s0 b39 b44 b49 b53 b128 cq dvq cr dvr) [(.int (0 : Int32)), (.ref b44)]) t → own_S p e below T209 (mkF m 212 (own_AIIIIIRRRRIRRRRRRRRU i0 i1 i2 i3 i4 va vb vc vd r28_s0 b39 b44 b49 b53 b128 cq dvq cr) [(.ref dvr)]) t := by
    intro t k
    refine XS.astore X209.here hx rfl (hb hby at_212) rfl rfl (l' := (own_AIIIIIRRRRIRRRRRRRRR i0 i1 i2 i3 i4 va vb vc vd r28_s0 b39 b44 b49 b53 b128 cq dvq cr dvr)) rfl ?_
    show own_S p e below T209 (mkF m 214 (own_AIIIIIRRRRIRRRRRRRRR i0 i1 i2 i3 i4 va vb vc vd r28_s0 b39 b44 b49 b53 b128 cq dvq cr dvr) []) _
    refine XS.aload X209.here hx rfl (hb hby at_214) rfl rfl ?_
    show own_S p e below T209 (mkF m 216 (own_AIIIIIRRRRIRRRRRRRRR i0 i1 i2 i3 i4 va vb vc vd r28_s0 b39 b44 b49 b53 b128 cq dvq cr dvr) [(.ref b44)]) _
    refine XS.iconst X209.here hx rfl (hb hby at_216) ?_
    exact k
  refine own_by sg217 ?_
  obtain ⟨cl217, Ar217, qa217, Sa217, Na217, Ha217, Ga217⟩ := id (fc_82.keep Kq209 List.not_mem_nil)
  have sg221 : ∀ t, own_S p e below T209 (mkF m 221 (own_AIIIIIRRRRIRRRRRRRRR i0 i1 i2 i3 i4 va vb vc vd r28_s0 b39 b44 b49 b53 b128 cq dvq cr dvr) [(.int (0 : Int32)), (.ref b49), (.int y0_125)]) t → own_S p e below T209 (mkF m 217 (own_AIIIIIRRRRIRRRRRRRRR i0 i1 i2 i3 i4 va vb vc vd r28_s0 b39 b44 b49 b53 b128 cq dvq cr dvr) [(.int (0 : Int32)), (.ref b44)]) t := by
    intro t k
    refine X209.baloadBytes hx (j := (0 : Int32)) (v := (.int y0_125)) (by exact Ar217.1) (State.isArrayOf_alike hZ.alike Ar217.2.1) Ar217.2.2 (inb_of Sa217 ⟨by decide, by decide⟩) (Ha217 0 (by rw [Sa217]; decide)) (g := (mkF m 217 (own_AIIIIIRRRRIRRRRRRRRR i0 i1 i2 i3 i4 va vb vc vd r28_s0 b39 b44 b49 b53 b128 cq dvq cr dvr) [(.int (0 : Int32)), (.ref b44)])) rfl rfl (hb hby at_217) _ ?_
    show own_S p e below T209 (mkF m 218 (own_AIIIIIRRRRIRRRRRRRRR i0 i1 i2 i3 i4 va vb vc vd r28_s0 b39 b44 b49 b53 b128 cq dvq cr dvr) [(.int y0_125)]) _
    refine XS.aload X209.here hx rfl (hb hby at_218) rfl rfl ?_
    show own_S p e below T209 (mkF m 220 (own_AIIIIIRRRRIRRRRRRRRR i0 i1 i2 i3 i4 va vb vc vd r28_s0 b39 b44 b49 b53 b128 cq dvq cr dvr) [(.ref b49), (.int y0_125)]) _
    refine XS.iconst X209.here hx rfl (hb hby at_220) ?_
    exact k
  refine own_by sg221 ?_
  obtain ⟨cl221, Ar221, qa221, Sa221, Na221, Ha221, Ga221⟩ := id (fc_84.keep Kq209 List.not_mem_nil)
  have sg228 : ∀ t, own_S p e below T209 (mkF m 228 (own_AIIIIIRRRRIRRRRRRRRR i0 i1 i2 i3 i4 va vb vc vd r28_s0 b39 b44 b49 b53 b128 cq dvq cr dvr) [(.int (1 : Int32)), (.ref b44)]) t → own_S p e below T209 (mkF m 221 (own_AIIIIIRRRRIRRRRRRRRR i0 i1 i2 i3 i4 va vb vc vd r28_s0 b39 b44 b49 b53 b128 cq dvq cr dvr) [(.int (0 : Int32)), (.ref b49), (.int y0_125)]) t := by
    intro t k
    refine X209.baloadBytes hx (j := (0 : Int32)) (v := (.int y0_165)) (by exact Ar221.1) (State.isArrayOf_alike hZ.alike Ar221.2.1) Ar221.2.2 (inb_of Sa221 ⟨by decide, by decide⟩) (Ha221 0 (by rw [Sa221]; decide)) (g := (mkF m 221 (own_AIIIIIRRRRIRRRRRRRRR i0 i1 i2 i3 i4 va vb vc vd r28_s0 b39 b44 b49 b53 b128 cq dvq cr dvr) [(.int (0 : Int32)), (.ref b49), (.int y0_125)])) rfl rfl (hb hby at_221) _ ?_
    show own_S p e below T209 (mkF m 222 (own_AIIIIIRRRRIRRRRRRRRR i0 i1 i2 i3 i4 va vb vc vd r28_s0 b39 b44 b49 b53 b128 cq dvq cr dvr) [(.int y0_165), (.int y0_125)]) _
    refine XS.icmpNo X209.here hx rfl (hb hby at_222) rfl (teq (hy0_125.trans hy0_165.symm : y0_125 = y0_165)).2 ?_
    show own_S p e below T209 (mkF m 225 (own_AIIIIIRRRRIRRRRRRRRR i0 i1 i2 i3 i4 va vb vc vd r28_s0 b39 b44 b49 b53 b128 cq dvq cr dvr) []) _
    refine XS.aload X209.here hx rfl (hb hby at_225) rfl rfl ?_
    show own_S p e below T209 (mkF m 227 (own_AIIIIIRRRRIRRRRRRRRR i0 i1 i2 i3 i4 va vb vc vd r28_s0 b39 b44 b49 b53 b128 cq dvq cr dvr) [(.ref b44)]) _
    refine XS.iconst X209.here hx rfl (hb hby at_227) ?_
    exact k
  refine own_by sg228 ?_
  obtain ⟨cl228, Ar228, qa228, Sa228, Na228, Ha228, Ga228⟩ := id (fc_82.keep Kq209 List.not_mem_nil)
  have sg232 : ∀ t, own_S p e below T209 (mkF m 232 (own_AIIIIIRRRRIRRRRRRRRR i0 i1 i2 i3 i4 va vb vc vd r28_s0 b39 b44 b49 b53 b128 cq dvq cr dvr) [(.int (1 : Int32)), (.ref b49), (.int y1_125)]) t → own_S p e below T209 (mkF m 228 (own_AIIIIIRRRRIRRRRRRRRR i0 i1 i2 i3 i4 va vb vc vd r28_s0 b39 b44 b49 b53 b128 cq dvq cr dvr) [(.int (1 : Int32)), (.ref b44)]) t := by
    intro t k
    refine X209.baloadBytes hx (j := (1 : Int32)) (v := (.int y1_125)) (by exact Ar228.1) (State.isArrayOf_alike hZ.alike Ar228.2.1) Ar228.2.2 (inb_of Sa228 ⟨by decide, by decide⟩) (Ha228 1 (by rw [Sa228]; decide)) (g := (mkF m 228 (own_AIIIIIRRRRIRRRRRRRRR i0 i1 i2 i3 i4 va vb vc vd r28_s0 b39 b44 b49 b53 b128 cq dvq cr dvr) [(.int (1 : Int32)), (.ref b44)])) rfl rfl (hb hby at_228) _ ?_
    show own_S p e below T209 (mkF m 229 (own_AIIIIIRRRRIRRRRRRRRR i0 i1 i2 i3 i4 va vb vc vd r28_s0 b39 b44 b49 b53 b128 cq dvq cr dvr) [(.int y1_125)]) _
    refine XS.aload X209.here hx rfl (hb hby at_229) rfl rfl ?_
    show own_S p e below T209 (mkF m 231 (own_AIIIIIRRRRIRRRRRRRRR i0 i1 i2 i3 i4 va vb vc vd r28_s0 b39 b44 b49 b53 b128 cq dvq cr dvr) [(.ref b49), (.int y1_125)]) _
    refine XS.iconst X209.here hx rfl (hb hby at_231) ?_
    exact k
  refine own_by sg232 ?_
  obtain ⟨cl232, Ar232, qa232, Sa232, Na232, Ha232, Ga232⟩ := id (fc_84.keep Kq209 List.not_mem_nil)
  have sg239 : ∀ t, own_S p e below T209 (mkF m 239 (own_AIIIIIRRRRIRRRRRRRRR i0 i1 i2 i3 i4 va vb vc vd r28_s0 b39 b44 b49 b53 b128 cq dvq cr dvr) [(.int (0 : Int32)), (.ref dvq)]) t → own_S p e below T209 (mkF m 232 (own_AIIIIIRRRRIRRRRRRRRR i0 i1 i2 i3 i4 va vb vc vd r28_s0 b39 b44 b49 b53 b128 cq dvq cr dvr) [(.int (1 : Int32)), (.ref b49), (.int y1_125)]) t := by
    intro t k
    refine X209.baloadBytes hx (j := (1 : Int32)) (v := (.int y1_165)) (by exact Ar232.1) (State.isArrayOf_alike hZ.alike Ar232.2.1) Ar232.2.2 (inb_of Sa232 ⟨by decide, by decide⟩) (Ha232 1 (by rw [Sa232]; decide)) (g := (mkF m 232 (own_AIIIIIRRRRIRRRRRRRRR i0 i1 i2 i3 i4 va vb vc vd r28_s0 b39 b44 b49 b53 b128 cq dvq cr dvr) [(.int (1 : Int32)), (.ref b49), (.int y1_125)])) rfl rfl (hb hby at_232) _ ?_
    show own_S p e below T209 (mkF m 233 (own_AIIIIIRRRRIRRRRRRRRR i0 i1 i2 i3 i4 va vb vc vd r28_s0 b39 b44 b49 b53 b128 cq dvq cr dvr) [(.int y1_165), (.int y1_125)]) _
    refine XS.icmpNo X209.here hx rfl (hb hby at_233) rfl (teq (hy1_125.trans hy1_165.symm : y1_125 = y1_165)).2 ?_
    show own_S p e below T209 (mkF m 236 (own_AIIIIIRRRRIRRRRRRRRR i0 i1 i2 i3 i4 va vb vc vd r28_s0 b39 b44 b49 b53 b128 cq dvq cr dvr) []) _
    refine XS.aload X209.here hx rfl (hb hby at_236) rfl rfl ?_
    show own_S p e below T209 (mkF m 238 (own_AIIIIIRRRRIRRRRRRRRR i0 i1 i2 i3 i4 va vb vc vd r28_s0 b39 b44 b49 b53 b128 cq dvq cr dvr) [(.ref dvq)]) _
    refine XS.iconst X209.here hx rfl (hb hby at_238) ?_
    exact k
  refine own_by sg239 ?_
  obtain ⟨cl239, Ar239, qa239, Sa239, Na239, Ha239, Ga239⟩ := id (fc_85.keep Kq209 List.not_mem_nil)
  have sg243 : ∀ t, own_S p e below T209 (mkF m 243 (own_AIIIIIRRRRIRRRRRRRRR i0 i1 i2 i3 i4 va vb vc vd r28_s0 b39 b44 b49 b53 b128 cq dvq cr dvr) [(.int (0 : Int32)), (.ref dvr), (.float dvq0)]) t → own_S p e below T209 (mkF m 239 (own_AIIIIIRRRRIRRRRRRRRR i0 i1 i2 i3 i4 va vb vc vd r28_s0 b39 b44 b49 b53 b128 cq dvq cr dvr) [(.int (0 : Int32)), (.ref dvq)]) t := by
    intro t k
    refine X209.faload hx (j := (0 : Int32)) (v := (.float dvq0)) (by exact Ar239.1) (State.isArrayOf_alike hZ.alike Ar239.2.1) Ar239.2.2 (inb_of Sa239 ⟨by decide, by decide⟩) (Ha239 0 (by rw [Sa239]; decide)) (g := (mkF m 239 (own_AIIIIIRRRRIRRRRRRRRR i0 i1 i2 i3 i4 va vb vc vd r28_s0 b39 b44 b49 b53 b128 cq dvq cr dvr) [(.int (0 : Int32)), (.ref dvq)])) rfl rfl (hb hby at_239) _ ?_
    show own_S p e below T209 (mkF m 240 (own_AIIIIIRRRRIRRRRRRRRR i0 i1 i2 i3 i4 va vb vc vd r28_s0 b39 b44 b49 b53 b128 cq dvq cr dvr) [(.float dvq0)]) _
    refine XS.aload X209.here hx rfl (hb hby at_240) rfl rfl ?_
    show own_S p e below T209 (mkF m 242 (own_AIIIIIRRRRIRRRRRRRRR i0 i1 i2 i3 i4 va vb vc vd r28_s0 b39 b44 b49 b53 b128 cq dvq cr dvr) [(.ref dvr), (.float dvq0)]) _
    refine XS.iconst X209.here hx rfl (hb hby at_242) ?_
    exact k
  refine own_by sg243 ?_
  obtain ⟨cl243, Ar243, qa243, Sa243, Na243, Ha243, Ga243⟩ := id Aq209
  have sg251 : ∀ t, own_S p e below T209 (mkF m 251 (own_AIIIIIRRRRIRRRRRRRRR i0 i1 i2 i3 i4 va vb vc vd r28_s0 b39 b44 b49 b53 b128 cq dvq cr dvr) [(.int (1 : Int32)), (.ref dvq)]) t → own_S p e below T209 (mkF m 243 (own_AIIIIIRRRRIRRRRRRRRR i0 i1 i2 i3 i4 va vb vc vd r28_s0 b39 b44 b49 b53 b128 cq dvq cr dvr) [(.int (0 : Int32)), (.ref dvr), (.float dvq0)]) t := by
    intro t k
    refine X209.faload hx (j := (0 : Int32)) (v := (.float dvr0)) (by exact Ar243.1) (State.isArrayOf_alike hZ.alike Ar243.2.1) Ar243.2.2 (inb_of Sa243 ⟨by decide, by decide⟩) (Ha243 0 (by rw [Sa243]; decide)) (g := (mkF m 243 (own_AIIIIIRRRRIRRRRRRRRR i0 i1 i2 i3 i4 va vb vc vd r28_s0 b39 b44 b49 b53 b128 cq dvq cr dvr) [(.int (0 : Int32)), (.ref dvr), (.float dvq0)])) rfl rfl (hb hby at_243) _ ?_
    show own_S p e below T209 (mkF m 244 (own_AIIIIIRRRRIRRRRRRRRR i0 i1 i2 i3 i4 va vb vc vd r28_s0 b39 b44 b49 b53 b128 cq dvq cr dvr) [(.float dvr0), (.float dvq0)]) _
    refine XS.fcmpS X209.here hx rfl (hb hby at_244) rfl rfl ?_
    show own_S p e below T209 (mkF m 245 (own_AIIIIIRRRRIRRRRRRRRR i0 i1 i2 i3 i4 va vb vc vd r28_s0 b39 b44 b49 b53 b128 cq dvq cr dvr) [(.int (cmpValue (FP.fcmp dvq0 dvr0) .l))]) _
    refine XS.ifNo X209.here hx rfl (hb hby at_245) rfl ((if0 _ _).trans (teq (own_same J0q J0r hdvq0 hdvr0 (hy0_125.trans hy0_165.symm) fi0q.1.fin fi0q.2.2 : (cmpValue (FP.fcmp dvq0 dvr0) .l) = (0 : Int32))).2) ?_
    show own_S p e below T209 (mkF m 248 (own_AIIIIIRRRRIRRRRRRRRR i0 i1 i2 i3 i4 va vb vc vd r28_s0 b39 b44 b49 b53 b128 cq dvq cr dvr) []) _
    refine XS.aload X209.here hx rfl (hb hby at_248) rfl rfl ?_
    show own_S p e below T209 (mkF m 250 (own_AIIIIIRRRRIRRRRRRRRR i0 i1 i2 i3 i4 va vb vc vd r28_s0 b39 b44 b49 b53 b128 cq dvq cr dvr) [(.ref dvq)]) _
    refine XS.iconst X209.here hx rfl (hb hby at_250) ?_
    exact k
  refine own_by sg251 ?_
  obtain ⟨cl251, Ar251, qa251, Sa251, Na251, Ha251, Ga251⟩ := id (fc_85.keep Kq209 List.not_mem_nil)
  have sg255 : ∀ t, own_S p e below T209 (mkF m 255 (own_AIIIIIRRRRIRRRRRRRRR i0 i1 i2 i3 i4 va vb vc vd r28_s0 b39 b44 b49 b53 b128 cq dvq cr dvr) [(.int (1 : Int32)), (.ref dvr), (.float dvq1)]) t → own_S p e below T209 (mkF m 251 (own_AIIIIIRRRRIRRRRRRRRR i0 i1 i2 i3 i4 va vb vc vd r28_s0 b39 b44 b49 b53 b128 cq dvq cr dvr) [(.int (1 : Int32)), (.ref dvq)]) t := by
    intro t k
    refine X209.faload hx (j := (1 : Int32)) (v := (.float dvq1)) (by exact Ar251.1) (State.isArrayOf_alike hZ.alike Ar251.2.1) Ar251.2.2 (inb_of Sa251 ⟨by decide, by decide⟩) (Ha251 1 (by rw [Sa251]; decide)) (g := (mkF m 251 (own_AIIIIIRRRRIRRRRRRRRR i0 i1 i2 i3 i4 va vb vc vd r28_s0 b39 b44 b49 b53 b128 cq dvq cr dvr) [(.int (1 : Int32)), (.ref dvq)])) rfl rfl (hb hby at_251) _ ?_
    show own_S p e below T209 (mkF m 252 (own_AIIIIIRRRRIRRRRRRRRR i0 i1 i2 i3 i4 va vb vc vd r28_s0 b39 b44 b49 b53 b128 cq dvq cr dvr) [(.float dvq1)]) _
    refine XS.aload X209.here hx rfl (hb hby at_252) rfl rfl ?_
    show own_S p e below T209 (mkF m 254 (own_AIIIIIRRRRIRRRRRRRRR i0 i1 i2 i3 i4 va vb vc vd r28_s0 b39 b44 b49 b53 b128 cq dvq cr dvr) [(.ref dvr), (.float dvq1)]) _
    refine XS.iconst X209.here hx rfl (hb hby at_254) ?_
    exact k
  refine own_by sg255 ?_
  obtain ⟨cl255, Ar255, qa255, Sa255, Na255, Ha255, Ga255⟩ := id Aq209
  have sg265 : ∀ t, own_S p e below T209 (mkF m 265 (own_AIIIIIRRRRIRRRRRRRRR i0 i1 i2 i3 i4 va vb vc vd r28_s0 b39 b44 b49 b53 b128 cq dvq cr dvr) [(.int (1 : Int32))]) t → own_S p e below T209 (mkF m 255 (own_AIIIIIRRRRIRRRRRRRRR i0 i1 i2 i3 i4 va vb vc vd r28_s0 b39 b44 b49 b53 b128 cq dvq cr dvr) [(.int (1 : Int32)), (.ref dvr), (.float dvq1)]) t := by
    intro t k
    refine X209.faload hx (j := (1 : Int32)) (v := (.float dvr1)) (by exact Ar255.1) (State.isArrayOf_alike hZ.alike Ar255.2.1) Ar255.2.2 (inb_of Sa255 ⟨by decide, by decide⟩) (Ha255 1 (by rw [Sa255]; decide)) (g := (mkF m 255 (own_AIIIIIRRRRIRRRRRRRRR i0 i1 i2 i3 i4 va vb vc vd r28_s0 b39 b44 b49 b53 b128 cq dvq cr dvr) [(.int (1 : Int32)), (.ref dvr), (.float dvq1)])) rfl rfl (hb hby at_255) _ ?_
    show own_S p e below T209 (mkF m 256 (own_AIIIIIRRRRIRRRRRRRRR i0 i1 i2 i3 i4 va vb vc vd r28_s0 b39 b44 b49 b53 b128 cq dvq cr dvr) [(.float dvr1), (.float dvq1)]) _
    refine XS.fcmpS X209.here hx rfl (hb hby at_256) rfl rfl ?_
    show own_S p e below T209 (mkF m 257 (own_AIIIIIRRRRIRRRRRRRRR i0 i1 i2 i3 i4 va vb vc vd r28_s0 b39 b44 b49 b53 b128 cq dvq cr dvr) [(.int (cmpValue (FP.fcmp dvq1 dvr1) .l))]) _
    refine XS.ifNo X209.here hx rfl (hb hby at_257) rfl ((if0 _ _).trans (teq (own_same J1q J1r hdvq1 hdvr1 (hy1_125.trans hy1_165.symm) fi1q.1.fin fi1q.2.2 : (cmpValue (FP.fcmp dvq1 dvr1) .l) = (0 : Int32))).2) ?_
    show own_S p e below T209 (mkF m 260 (own_AIIIIIRRRRIRRRRRRRRR i0 i1 i2 i3 i4 va vb vc vd r28_s0 b39 b44 b49 b53 b128 cq dvq cr dvr) []) _
    refine XS.iconst X209.here hx rfl (hb hby at_260) ?_
    show own_S p e below T209 (mkF m 261 (own_AIIIIIRRRRIRRRRRRRRR i0 i1 i2 i3 i4 va vb vc vd r28_s0 b39 b44 b49 b53 b128 cq dvq cr dvr) [(.int (1 : Int32))]) _
    refine XS.goto X209.here hx rfl (pc0 := 261) (pc' := 265) rfl (hb hby at_261) (by decide) (by decide) ?_
    exact k
  refine own_by sg265 ?_
  obtain ⟨fs, hr, hrun, hended, hW, hsame⟩ := X209.leave (v := some (.int (1 : Int32))) (fun h => by rw [Bd.returns] at h; cases h)
  refine ⟨_, _, ?_, hrun, hended, _, _, rfl, ?_, ⟨_, rfl⟩, hW, hsame.mono (by decide) (by decide)⟩
  · exact retN X209 hx (t := .boolean) Bd.returns (by simp) (hb hby at_265) hr
  · show Q0 Z i0 i1 i2 i3 i4 h0 n0 _ T209.heap _
    exact ⟨rfl, N209⟩
set_option maxRecDepth 65536 in
set_option maxHeartbeats 40000000 in
theorem comes_1 {Post : Tables → Env → Array Value → State → Outcome → State → Prop} (hpost : ∀ tb e args s v u, (limb_1_1.after args s (.returned v) u = true ∧ limb_1_2.after args s (.returned v) u = true ∧ True) → FrameEnd s (.returned v) u (Jvm.fieldLocs frame_1_writes args s ++ Jvm.arrayLocs frame_1_arrays args s ++ Jvm.staticLocs frame_1_statics s) 104 640 → Post tb e args s (.returned v) u) :
    ArmFor flags0 classFile x code maxLocals ret World_1 tables_1 room_1 Calls_1 rest_1 Pre_1 Post := by
  intro l hfl _ _ p e ha hc hk s m args below hf hA hF happ hP
  obtain ⟨hcalls, hrest, hpre⟩ := hP
  obtain ⟨-, -, -, hnamed, -, -, -, hat⟩ := (Spec.applies_iff hf).mp happ
  obtain ⟨hg, nn⟩ := and_e (Cond.before_iff.mp (show (Jvm.Cond.and given_1 narrow_1).before args s = true from hpre))
  obtain ⟨hh0, hh1⟩ := and_e hg
  obtain ⟨hh2, hh3⟩ := and_e hh1
  obtain ⟨hh4, hh5⟩ := and_e hh3
  obtain ⟨hh6, hh7⟩ := and_e hh5
  obtain ⟨hh8, hh9⟩ := and_e hh7
  obtain ⟨w0, w1, w2, w3, w4, rfl⟩ : ∃ w0 w1 w2 w3 w4 : Value, args = #[w0, w1, w2, w3, w4] := by
    have hs : args.size = 5 := by simpa [Cond.value, given_1] using hh0
    obtain ⟨L⟩ := args
    match L, hs with
    | [w0, w1, w2, w3, w4], _ => exact ⟨w0, w1, w2, w3, w4, rfl⟩
  have hw := fun d (hd : d ∈ tables_1) => atoms_spec (ws := Jvm.Cond.code x code maxLocals ret :: tables_1) hat d (List.mem_cons_of_mem _ hd)
  have hfit : Fit s := fun {y c} hc i hi => by
    obtain ⟨ha, rfl⟩ := Array.getElem?_eq_some_iff.mp hc
    have q := List.all_eq_true.mp ((Array.all_eq_true_iff_forall_mem.mp hF) _ (Array.getElem_mem ha)) i (List.mem_range.mpr hi)
    simpa [Array.getElem?_eq_getElem hi] using q
  obtain ⟨i0, ei0⟩ := is_v hh2
  obtain rfl : w0 = (.int i0) := Option.some.inj ei0
  obtain ⟨i1, ei1⟩ := is_v hh4
  obtain rfl : w1 = (.int i1) := Option.some.inj ei1
  obtain ⟨i2, ei2⟩ := is_v hh6
  obtain rfl : w2 = (.int i2) := Option.some.inj ei2
  obtain ⟨i3, ei3⟩ := is_v hh8
  obtain rfl : w3 = (.int i3) := Option.some.inj ei3
  obtain ⟨i4, ei4⟩ := is_v hh9
  obtain rfl : w4 = (.int i4) := Option.some.inj ei4
  obtain ⟨n, o, h1, h2, h3, _, L, rfl, ⟨rfl, N⟩, hq⟩ := rm0 l s _ hw tables_1 i0 i1 i2 i3 i4 s.heap s.heap.size (Nat.le_refl _)  p e ha hc hk s m _ below hf ((Spec.applies_iff_loose hf).mp happ).1 ⟨rfl, State.Warmed39.refl s, rfl⟩ trivial
  refine ⟨n, _, h1, h2, h3, hpost _ _ _ _ _ _ ⟨Cond.after_iff.mpr rfl, Cond.after_iff.mpr (eq_i res_at (Term.int_eval (1)) rfl), trivial⟩ ⟨hq.1, hq.2.1, (hq.2.2.sift fun y hy => Or.inr (N y hy)).mono (by decide) (by decide)⟩⟩
theorem main_1_1 : Claimed_1_1 := comes_1 fun _ _ _ _ _ _ h hF => ⟨h.1, hF⟩
theorem main_1_2 : Claimed_1_2 := comes_1 fun _ _ _ _ _ _ h hF => ⟨h.2.1, hF⟩
end Jvm.Pilot.@@N@@

namespace Jvm.Pilot.@@N@@
open Jvm Jvm.ClassFile Sem Op Lib Jvm.Free Jvm.Stand Jvm.Pilot.@@N@@.Jvm.D
/-! MADE BY PROGRAM (witnessworld.py) out of the Statement's table words and the real class files: 21 classes; the members and pool entries that the words name. The judged class is class 1, her method 2. -/
namespace start1
open Jvm.ClassFile
def u (s : String) : CpInfo := .utf8 (stringToUtf16 s)
/-- a pool by its gaps: so many unusable entries, then the entry; so many at the end -/
def gap : Nat → List CpInfo → List CpInfo
  | 0, r => r
  | n + 1, r => .unusable :: gap n r
def poolList (es : List (Nat × CpInfo)) (last : Nat) : List CpInfo := es.foldr (fun e r => gap e.1 (e.2 :: r)) (gap last [])
def pool (es : List (Nat × CpInfo)) (last : Nat) : Array CpInfo := ⟨poolList es last⟩
def fileOf (pool : Array CpInfo) (this : Nat) (attrs : Array Attribute := #[]) (ms : Array MethodInfo := #[]) (fl : Nat := 33) (sup : Nat := 0) (ifs : Array Nat := #[]) (fds : Array FieldInfo := #[]) : ClassFile where
  minorVersion := 0
  majorVersion := 65
  constantPool := pool
  accessFlags := fl
  thisClass := this
  superClass := sup
  interfaces := ifs
  fields := fds
  methods := ms
  attributes := attrs
def plain (name : String) (sup : Option ClassId) : Class where
  name := name
  kind := .ordinary
  loader := none
  accessFlags := 33
  super := sup
  interfaces := #[]
  cf := none
  fields := #[]
  methods := #[]
  instanceTypes := #[]
  staticTypes := #[]
  resolved := #[]
  callSites := []
  init := .initialized
  statics := none
  mirror := none

def pool0 : Array CpInfo := pool [(5, u "<init>"), (0, u "()V"), (1, .class_ 10), (1, u "java/lang/Object"), (85, u "clone"), (0, u "()Ljava/lang/Object;")] 26

def k0c0 : Code := { maxStack := 0, maxLocals := 1, code := object_method_1_code, exceptionTable := #[], attributes := #[] }
def k0m0 : Method := { name := "<init>", desc := "()V", sig := { parameters := [], returnType := none }, accessFlags := 1, code := some k0c0 }
def k0m1 : Method := { name := "clone", desc := "()Ljava/lang/Object;", sig := { parameters := [], returnType := some (.object "java/lang/Object") }, accessFlags := 260, code := none }
/-- java/lang/Object -/
def k0 : Class := { plain "java/lang/Object" none with
  accessFlags := 33
  interfaces := #[]
  cf := some (fileOf pool0 8 #[] #[{ accessFlags := 1, nameIndex := 5, descriptorIndex := 6, attributes := #[] }, { accessFlags := 260, nameIndex := 96, descriptorIndex := 97, attributes := #[] }] 33 0 #[] #[])
  fields := #[]
  methods := #[k0m0, k0m1]
  instanceTypes := #[]
  staticTypes := #[]
  resolved := Array.replicate 124 none
  statics := none }

def pool1 : Array CpInfo := pool [(2, .class_ 4), (1, u "java/lang/Object"), (0, u "<init>"), (0, u "()V"), (0, .methodref 8 9), (0, .class_ 10), (0, .nameAndType 11 12), (0, u "com/example/reverie/reverie/ScalarQuantizerRemoveLastPinLaw"), (0, u "vec"), (0, u "(I)[F"), (0, .class_ 14), (0, u "com/example/reverie/reverie/ScalarQuantizer"), (0, .methodref 13 16), (0, .nameAndType 5 17), (0, u "(I)V"), (0, .methodref 13 19), (0, .nameAndType 20 21), (0, u "encode"), (0, u "([F[BI)V"), (0, .methodref 13 23), (0, .nameAndType 24 6), (0, u "removeLast"), (0, .methodref 13 26), (0, .nameAndType 27 28), (0, u "cursor"), (0, u "()Lcom/example/reverie/reverie/ScalarQuantizer$Cursor;"), (0, .methodref 30 31), (0, .class_ 32), (0, .nameAndType 33 17), (0, u "com/example/reverie/reverie/ScalarQuantizer$Cursor"), (0, u "moveTo"), (0, .methodref 30 35), (0, .nameAndType 36 37), (0, u "decode"), (0, u "([BI)[F"), (2, u "law"), (0, u "(IIIII)Z")] 9

def k1m0 : Method := { name := "<init>", desc := "()V", sig := { parameters := [], returnType := none }, accessFlags := 1, code := none }
def k1c1 : Code := { maxStack := 4, maxLocals := 2, code := method_2_code, exceptionTable := #[], attributes := #[] }
def k1m1 : Method := { name := "vec", desc := "(I)[F", sig := { parameters := [.int], returnType := some (.array .float) }, accessFlags := 10, code := some k1c1 }
def k1c2 : Code := { maxStack := 4, maxLocals := 19, code := code, exceptionTable := #[], attributes := #[] }
def k1m2 : Method := { name := "law", desc := "(IIIII)Z", sig := { parameters := [.int, .int, .int, .int, .int], returnType := some .boolean }, accessFlags := 9, code := some k1c2 }
/-- com/example/reverie/reverie/ScalarQuantizerRemoveLastPinLaw -/
def k1 : Class := { plain "com/example/reverie/reverie/ScalarQuantizerRemoveLastPinLaw" (some 0) with
  accessFlags := 49
  interfaces := #[]
  cf := some (fileOf pool1 8 #[] #[{ accessFlags := 1, nameIndex := 5, descriptorIndex := 6, attributes := #[] }, { accessFlags := 10, nameIndex := 11, descriptorIndex := 12, attributes := #[] }, { accessFlags := 9, nameIndex := 40, descriptorIndex := 41, attributes := #[] }] 49 2 #[] #[])
  fields := #[]
  methods := #[k1m0, k1m1, k1m2]
  instanceTypes := #[]
  staticTypes := #[]
  resolved := Array.replicate 51 none
  statics := none }

def pool2 : Array CpInfo := pool [(3, .float 2139095040), (0, .methodref 5 6), (0, .class_ 7), (0, .nameAndType 8 9), (0, u "com/example/reverie/reverie/ScalarQuantizer"), (0, u "emptyRanges"), (0, u "(IF)[F"), (0, .float 4286578688), (0, .methodref 5 12), (0, .nameAndType 13 14), (0, u "<init>"), (0, u "(I[F[F[F)V"), (0, .methodref 16 17), (0, .class_ 18), (0, .nameAndType 13 19), (0, u "java/lang/Object"), (0, u "()V"), (0, .fieldref 5 21), (0, .nameAndType 22 23), (0, u "changeStarts"), (0, u "[I"), (0, .fieldref 5 25), (0, .nameAndType 26 23), (0, u "changeDimensions"), (0, .fieldref 5 28), (0, .nameAndType 29 30), (0, u "changeLows"), (0, u "[F"), (0, .fieldref 5 32), (0, .nameAndType 33 30), (0, u "changeHighs"), (0, .fieldref 5 35), (0, .nameAndType 36 30), (0, u "changeScales"), (0, .fieldref 5 38), (0, .nameAndType 39 40), (0, u "dimension"), (0, u "I"), (0, .methodref 42 43), (0, .class_ 30), (0, .nameAndType 44 45), (0, u "clone"), (0, u "()Ljava/lang/Object;"), (0, .fieldref 5 47), (0, .nameAndType 48 30), (0, u "lows"), (0, .fieldref 5 50), (0, .nameAndType 51 30), (0, u "highs"), (0, .fieldref 5 53), (0, .nameAndType 54 30), (0, u "scales"), (0, .fieldref 5 56), (0, .nameAndType 57 30), (0, u "startLows"), (0, .fieldref 5 59), (0, .nameAndType 60 30), (0, u "startHighs"), (0, .fieldref 5 62), (0, .nameAndType 63 30), (0, u "startScales"), (1, .class_ 67), (1, u "java/util/Arrays"), (0, u "fill"), (17, .methodref 87 88), (0, .class_ 89), (0, .nameAndType 90 91), (0, u "java/lang/Math"), (0, u "min"), (0, u "(FF)F"), (0, .methodref 87 93), (0, .nameAndType 94 91), (0, u "max"), (0, .methodref 5 96), (0, .nameAndType 97 98), (0, u "setRange"), (0, u "(IFF)V"), (0, .methodref 5 100), (0, .nameAndType 101 102), (0, u "code"), (0, u "(FFF)I"), (0, .fieldref 5 104), (0, .nameAndType 105 40), (0, u "encodedCount"), (3, .fieldref 5 110), (0, .nameAndType 111 40), (0, u "changeCount"), (1, .class_ 115), (1, u "com/example/reverie/reverie/ScalarQuantizer$RangeConsumer"), (5, .class_ 122), (0, u "com/example/reverie/reverie/ScalarQuantizer$Cursor"), (0, .methodref 121 124), (0, .nameAndType 13 125), (0, u "(Lcom/example/reverie/reverie/ScalarQuantizer;)V"), (3, .methodref 65 130), (0, .nameAndType 68 131), (0, u "([FF)V"), (0, .double 4643176031446892544), (1, .methodref 87 135), (0, .nameAndType 136 137), (0, u "round"), (0, u "(D)J"), (0, .long 255), (1, .methodref 87 141), (0, .nameAndType 90 142), (0, u "(JJ)J"), (0, .methodref 5 144), (0, .nameAndType 145 91), (0, u "scale"), (7, u "LARGEST_CODE"), (2, u "(I)V"), (8, u "encode"), (0, u "([F[BI)V"), (2, u "removeLast"), (0, u "cursor"), (0, u "()Lcom/example/reverie/reverie/ScalarQuantizer$Cursor;")] 6

def k2c0 : Code := { maxStack := 5, maxLocals := 2, code := prog_33_method_1_code, exceptionTable := #[], attributes := #[] }
def k2m0 : Method := { name := "<init>", desc := "(I)V", sig := { parameters := [.int], returnType := none }, accessFlags := 0, code := some k2c0 }
def k2c1 : Code := { maxStack := 2, maxLocals := 5, code := prog_33_method_2_code, exceptionTable := #[], attributes := #[] }
def k2m1 : Method := { name := "<init>", desc := "(I[F[F[F)V", sig := { parameters := [.int, (.array .float), (.array .float), (.array .float)], returnType := none }, accessFlags := 2, code := some k2c1 }
def k2c2 : Code := { maxStack := 6, maxLocals := 6, code := prog_33_method_5_code, exceptionTable := #[], attributes := #[] }
def k2m2 : Method := { name := "encode", desc := "([F[BI)V", sig := { parameters := [(.array .float), (.array .byte), .int], returnType := none }, accessFlags := 0, code := some k2c2 }
def k2c3 : Code := { maxStack := 3, maxLocals := 6, code := prog_33_method_9_code, exceptionTable := #[], attributes := #[] }
def k2m3 : Method := { name := "removeLast", desc := "()V", sig := { parameters := [], returnType := none }, accessFlags := 0, code := some k2c3 }
def k2c4 : Code := { maxStack := 3, maxLocals := 1, code := prog_33_method_10_code, exceptionTable := #[], attributes := #[] }
def k2m4 : Method := { name := "cursor", desc := "()Lcom/example/reverie/reverie/ScalarQuantizer$Cursor;", sig := { parameters := [], returnType := some (.object "com/example/reverie/reverie/ScalarQuantizer$Cursor") }, accessFlags := 0, code := some k2c4 }
def k2c5 : Code := { maxStack := 2, maxLocals := 3, code := prog_33_method_12_code, exceptionTable := #[], attributes := #[] }
def k2m5 : Method := { name := "emptyRanges", desc := "(IF)[F", sig := { parameters := [.int, .float], returnType := some (.array .float) }, accessFlags := 10, code := some k2c5 }
def k2c6 : Code := { maxStack := 4, maxLocals := 2, code := prog_33_method_14_code, exceptionTable := #[], attributes := #[] }
def k2m6 : Method := { name := "scale", desc := "(FF)F", sig := { parameters := [.float, .float], returnType := some .float }, accessFlags := 10, code := some k2c6 }
def k2c7 : Code := { maxStack := 4, maxLocals := 6, code := prog_33_method_15_code, exceptionTable := #[], attributes := #[] }
def k2m7 : Method := { name := "code", desc := "(FFF)I", sig := { parameters := [.float, .float, .float], returnType := some .int }, accessFlags := 10, code := some k2c7 }
def k2c8 : Code := { maxStack := 4, maxLocals := 5, code := prog_33_method_16_code, exceptionTable := #[], attributes := #[] }
def k2m8 : Method := { name := "setRange", desc := "(IFF)V", sig := { parameters := [.int, .float, .float], returnType := none }, accessFlags := 2, code := some k2c8 }
/-- com/example/reverie/reverie/ScalarQuantizer -/
def k2 : Class := { plain "com/example/reverie/reverie/ScalarQuantizer" (some 0) with
  accessFlags := 32
  interfaces := #[]
  cf := some (fileOf pool2 5 #[.nestMembers #[121, 113]] #[{ accessFlags := 0, nameIndex := 13, descriptorIndex := 156, attributes := #[] }, { accessFlags := 2, nameIndex := 13, descriptorIndex := 14, attributes := #[] }, { accessFlags := 0, nameIndex := 165, descriptorIndex := 166, attributes := #[] }, { accessFlags := 0, nameIndex := 169, descriptorIndex := 19, attributes := #[] }, { accessFlags := 0, nameIndex := 170, descriptorIndex := 171, attributes := #[] }, { accessFlags := 10, nameIndex := 8, descriptorIndex := 9, attributes := #[] }, { accessFlags := 10, nameIndex := 145, descriptorIndex := 91, attributes := #[] }, { accessFlags := 10, nameIndex := 101, descriptorIndex := 102, attributes := #[] }, { accessFlags := 2, nameIndex := 97, descriptorIndex := 98, attributes := #[] }] 32 16 #[] #[{ accessFlags := 26, nameIndex := 153, descriptorIndex := 40, attributes := #[] }, { accessFlags := 18, nameIndex := 39, descriptorIndex := 40, attributes := #[] }, { accessFlags := 18, nameIndex := 48, descriptorIndex := 30, attributes := #[] }, { accessFlags := 18, nameIndex := 51, descriptorIndex := 30, attributes := #[] }, { accessFlags := 18, nameIndex := 54, descriptorIndex := 30, attributes := #[] }, { accessFlags := 18, nameIndex := 57, descriptorIndex := 30, attributes := #[] }, { accessFlags := 18, nameIndex := 60, descriptorIndex := 30, attributes := #[] }, { accessFlags := 18, nameIndex := 63, descriptorIndex := 30, attributes := #[] }, { accessFlags := 2, nameIndex := 105, descriptorIndex := 40, attributes := #[] }, { accessFlags := 2, nameIndex := 22, descriptorIndex := 23, attributes := #[] }, { accessFlags := 2, nameIndex := 26, descriptorIndex := 23, attributes := #[] }, { accessFlags := 2, nameIndex := 29, descriptorIndex := 30, attributes := #[] }, { accessFlags := 2, nameIndex := 33, descriptorIndex := 30, attributes := #[] }, { accessFlags := 2, nameIndex := 36, descriptorIndex := 30, attributes := #[] }, { accessFlags := 2, nameIndex := 111, descriptorIndex := 40, attributes := #[] }])
  fields := #[{ name := "LARGEST_CODE", type := .int, accessFlags := 26, slot := 0, constantValue := 0 }, { name := "dimension", type := .int, accessFlags := 18, slot := 0, constantValue := 0 }, { name := "lows", type := (.array .float), accessFlags := 18, slot := 1, constantValue := 0 }, { name := "highs", type := (.array .float), accessFlags := 18, slot := 2, constantValue := 0 }, { name := "scales", type := (.array .float), accessFlags := 18, slot := 3, constantValue := 0 }, { name := "startLows", type := (.array .float), accessFlags := 18, slot := 4, constantValue := 0 }, { name := "startHighs", type := (.array .float), accessFlags := 18, slot := 5, constantValue := 0 }, { name := "startScales", type := (.array .float), accessFlags := 18, slot := 6, constantValue := 0 }, { name := "encodedCount", type := .int, accessFlags := 2, slot := 7, constantValue := 0 }, { name := "changeStarts", type := (.array .int), accessFlags := 2, slot := 8, constantValue := 0 }, { name := "changeDimensions", type := (.array .int), accessFlags := 2, slot := 9, constantValue := 0 }, { name := "changeLows", type := (.array .float), accessFlags := 2, slot := 10, constantValue := 0 }, { name := "changeHighs", type := (.array .float), accessFlags := 2, slot := 11, constantValue := 0 }, { name := "changeScales", type := (.array .float), accessFlags := 2, slot := 12, constantValue := 0 }, { name := "changeCount", type := .int, accessFlags := 2, slot := 13, constantValue := 0 }]
  methods := #[k2m0, k2m1, k2m2, k2m3, k2m4, k2m5, k2m6, k2m7, k2m8]
  instanceTypes := #[.int, (.array .float), (.array .float), (.array .float), (.array .float), (.array .float), (.array .float), .int, (.array .int), (.array .int), (.array .float), (.array .float), (.array .float), .int]
  staticTypes := #[.int]
  resolved := ((Array.replicate 178 none).setIfInBounds 123 (some (.method ⟨12, 0⟩))).setIfInBounds 121 (some (.cls 12))
  statics := none }

def pool3 : Array CpInfo := pool [(2, .class_ 4), (1, u "java/lang/Object"), (0, u "<init>"), (0, u "()V"), (7, .class_ 16), (1, u "java/util/Arrays"), (57, .class_ 76), (1, u "java/util/Arrays$NaturalOrder"), (36, .class_ 115), (1, u "java/util/Arrays$LegacyMergeSort"), (1, u "Z"), (257, .class_ 376), (0, u "java/util/Arrays$ArrayList"), (68, u "$assertionsDisabled"), (269, u "MIN_ARRAY_SORT_GRAN"), (0, u "I"), (2, u "INSERTIONSORT_THRESHOLD"), (120, u "fill"), (15, u "([FF)V"), (118, .class_ 976), (0, u "java/util/Arrays$ArrayItr")] 52

def k3m0 : Method := { name := "<init>", desc := "()V", sig := { parameters := [], returnType := none }, accessFlags := 2, code := none }
def k3c1 : Code := { maxStack := 3, maxLocals := 4, code := jdk_65_method_115_code, exceptionTable := #[], attributes := #[] }
def k3m1 : Method := { name := "fill", desc := "([FF)V", sig := { parameters := [(.array .float), .float], returnType := none }, accessFlags := 9, code := some k3c1 }
/-- java/util/Arrays -/
def k3 : Class := { plain "java/util/Arrays" (some 0) with
  accessFlags := 49
  interfaces := #[]
  cf := some (fileOf pool3 14 #[.nestMembers #[975, 375, 113, 74]] #[{ accessFlags := 2, nameIndex := 5, descriptorIndex := 6, attributes := #[] }, { accessFlags := 9, nameIndex := 840, descriptorIndex := 856, attributes := #[] }] 49 2 #[] #[{ accessFlags := 26, nameIndex := 715, descriptorIndex := 716, attributes := #[] }, { accessFlags := 26, nameIndex := 719, descriptorIndex := 716, attributes := #[] }, { accessFlags := 4120, nameIndex := 445, descriptorIndex := 117, attributes := #[] }])
  fields := #[{ name := "MIN_ARRAY_SORT_GRAN", type := .int, accessFlags := 26, slot := 0, constantValue := 0 }, { name := "INSERTIONSORT_THRESHOLD", type := .int, accessFlags := 26, slot := 1, constantValue := 0 }, { name := "$assertionsDisabled", type := .boolean, accessFlags := 4120, slot := 2, constantValue := 0 }]
  methods := #[k3m0, k3m1]
  instanceTypes := #[]
  staticTypes := #[.int, .int, .boolean]
  resolved := Array.replicate 1029 none
  statics := none }

def pool4 : Array CpInfo := pool [(1, .class_ 2), (0, u "java/lang/Cloneable"), (0, .class_ 4), (0, u "java/lang/Object")] 2

/-- java/lang/Cloneable -/
def k4 : Class := { plain "java/lang/Cloneable" (some 0) with
  accessFlags := 1537
  interfaces := #[]
  cf := some (fileOf pool4 1 #[] #[] 1537 3 #[] #[])
  fields := #[]
  methods := #[]
  instanceTypes := #[]
  staticTypes := #[]
  resolved := Array.replicate 7 none
  statics := none }

def pool5 : Array CpInfo := pool [(1, .class_ 2), (0, u "java/lang/Math"), (1, .class_ 6), (1, u "java/lang/Object"), (0, u "<init>"), (0, u "()V"), (70, .methodref 80 81), (0, .class_ 82), (0, .nameAndType 83 84), (0, u "java/lang/Double"), (0, u "doubleToRawLongBits"), (0, u "(D)J"), (2, .long 9218868437227405312), (1, .long 1074), (1, .long 18446744073709551552), (1, .long 4503599627370495), (1, .long 4503599627370496), (2, .class_ 100), (1, u "java/lang/Math$RandomNumberGeneratorHolder"), (20, u "(JJ)J"), (50, u "negativeZeroFloatBits"), (0, u "J"), (2, u "negativeZeroDoubleBits"), (21, u "max"), (2, u "min"), (33, u "(FF)F"), (9, u "$assertionsDisabled"), (0, u "Z"), (91, u "twoToTheDoubleScaleDown"), (0, u "D"), (4, u "twoToTheDoubleScaleUp"), (9, u "E"), (3, u "PI"), (2, u "TAU"), (2, u "DEGREES_TO_RADIANS"), (0, u "RADIANS_TO_DEGREES"), (17, u "round")] 76

def k5m0 : Method := { name := "<init>", desc := "()V", sig := { parameters := [], returnType := none }, accessFlags := 2, code := none }
def k5c1 : Code := { maxStack := 4, maxLocals := 10, code := jdk_29_method_22_code, exceptionTable := #[], attributes := #[] }
def k5m1 : Method := { name := "round", desc := "(D)J", sig := { parameters := [.double], returnType := some .long }, accessFlags := 9, code := some k5c1 }
def k5c2 : Code := { maxStack := 4, maxLocals := 2, code := jdk_29_method_67_code, exceptionTable := #[], attributes := #[] }
def k5m2 : Method := { name := "max", desc := "(FF)F", sig := { parameters := [.float, .float], returnType := some .float }, accessFlags := 9, code := some k5c2 }
def k5c3 : Code := { maxStack := 4, maxLocals := 4, code := jdk_29_method_70_code, exceptionTable := #[], attributes := #[] }
def k5m3 : Method := { name := "min", desc := "(JJ)J", sig := { parameters := [.long, .long], returnType := some .long }, accessFlags := 9, code := some k5c3 }
def k5c4 : Code := { maxStack := 4, maxLocals := 2, code := jdk_29_method_71_code, exceptionTable := #[], attributes := #[] }
def k5m4 : Method := { name := "min", desc := "(FF)F", sig := { parameters := [.float, .float], returnType := some .float }, accessFlags := 9, code := some k5c4 }
/-- java/lang/Math -/
def k5 : Class := { plain "java/lang/Math" (some 0) with
  accessFlags := 49
  interfaces := #[]
  cf := some (fileOf pool5 1 #[.nestMembers #[98]] #[{ accessFlags := 2, nameIndex := 7, descriptorIndex := 8, attributes := #[] }, { accessFlags := 9, nameIndex := 383, descriptorIndex := 84, attributes := #[] }, { accessFlags := 9, nameIndex := 198, descriptorIndex := 235, attributes := #[] }, { accessFlags := 9, nameIndex := 201, descriptorIndex := 121, attributes := #[] }, { accessFlags := 9, nameIndex := 201, descriptorIndex := 235, attributes := #[] }] 49 4 #[] #[{ accessFlags := 25, nameIndex := 354, descriptorIndex := 339, attributes := #[] }, { accessFlags := 25, nameIndex := 358, descriptorIndex := 339, attributes := #[] }, { accessFlags := 25, nameIndex := 361, descriptorIndex := 339, attributes := #[] }, { accessFlags := 26, nameIndex := 364, descriptorIndex := 339, attributes := #[] }, { accessFlags := 26, nameIndex := 365, descriptorIndex := 339, attributes := #[] }, { accessFlags := 26, nameIndex := 172, descriptorIndex := 173, attributes := #[] }, { accessFlags := 26, nameIndex := 176, descriptorIndex := 173, attributes := #[] }, { accessFlags := 8, nameIndex := 344, descriptorIndex := 339, attributes := #[] }, { accessFlags := 8, nameIndex := 338, descriptorIndex := 339, attributes := #[] }, { accessFlags := 4120, nameIndex := 245, descriptorIndex := 246, attributes := #[] }])
  fields := #[{ name := "E", type := .double, accessFlags := 25, slot := 0, constantValue := 0 }, { name := "PI", type := .double, accessFlags := 25, slot := 1, constantValue := 0 }, { name := "TAU", type := .double, accessFlags := 25, slot := 2, constantValue := 0 }, { name := "DEGREES_TO_RADIANS", type := .double, accessFlags := 26, slot := 3, constantValue := 0 }, { name := "RADIANS_TO_DEGREES", type := .double, accessFlags := 26, slot := 4, constantValue := 0 }, { name := "negativeZeroFloatBits", type := .long, accessFlags := 26, slot := 5, constantValue := 0 }, { name := "negativeZeroDoubleBits", type := .long, accessFlags := 26, slot := 6, constantValue := 0 }, { name := "twoToTheDoubleScaleUp", type := .double, accessFlags := 8, slot := 7, constantValue := 0 }, { name := "twoToTheDoubleScaleDown", type := .double, accessFlags := 8, slot := 8, constantValue := 0 }, { name := "$assertionsDisabled", type := .boolean, accessFlags := 4120, slot := 9, constantValue := 0 }]
  methods := #[k5m0, k5m1, k5m2, k5m3, k5m4]
  instanceTypes := #[]
  staticTypes := #[.double, .double, .double, .double, .double, .long, .long, .double, .double, .boolean]
  resolved := Array.replicate 460 none
  statics := none }

def pool6 : Array CpInfo := pool [(1, .class_ 2), (0, u "java/io/Serializable"), (0, .class_ 4), (0, u "java/lang/Object")] 2

/-- java/io/Serializable -/
def k6 : Class := { plain "java/io/Serializable" (some 0) with
  accessFlags := 1537
  interfaces := #[]
  cf := some (fileOf pool6 1 #[] #[] 1537 3 #[] #[])
  fields := #[]
  methods := #[]
  instanceTypes := #[]
  staticTypes := #[]
  resolved := Array.replicate 7 none
  statics := none }

def pool7 : Array CpInfo := pool [(2, .class_ 4), (1, u "java/lang/Object"), (0, u "<init>"), (0, u "()V"), (1, .class_ 10), (1, u "java/lang/Number"), (2, .class_ 14), (0, u "java/io/Serializable"), (0, u "serialVersionUID"), (0, u "J")] 20

def k7m0 : Method := { name := "<init>", desc := "()V", sig := { parameters := [], returnType := none }, accessFlags := 1, code := none }
/-- java/lang/Number -/
def k7 : Class := { plain "java/lang/Number" (some 0) with
  accessFlags := 1057
  interfaces := #[6]
  cf := some (fileOf pool7 8 #[] #[{ accessFlags := 1, nameIndex := 5, descriptorIndex := 6, attributes := #[] }] 1057 2 #[13] #[{ accessFlags := 26, nameIndex := 15, descriptorIndex := 16, attributes := #[] }])
  fields := #[{ name := "serialVersionUID", type := .long, accessFlags := 26, slot := 0, constantValue := 0 }]
  methods := #[k7m0]
  instanceTypes := #[]
  staticTypes := #[.long]
  resolved := Array.replicate 37 none
  statics := none }

def pool8 : Array CpInfo := pool [(1, .class_ 2), (0, u "java/lang/Comparable"), (0, .class_ 4), (0, u "java/lang/Object")] 7

/-- java/lang/Comparable -/
def k8 : Class := { plain "java/lang/Comparable" (some 0) with
  accessFlags := 1537
  interfaces := #[]
  cf := some (fileOf pool8 1 #[] #[] 1537 3 #[] #[])
  fields := #[]
  methods := #[]
  instanceTypes := #[]
  staticTypes := #[]
  resolved := Array.replicate 12 none
  statics := none }

def pool9 : Array CpInfo := pool [(1, .class_ 2), (0, u "java/lang/constant/Constable"), (0, .class_ 4), (0, u "java/lang/Object")] 6

/-- java/lang/constant/Constable -/
def k9 : Class := { plain "java/lang/constant/Constable" (some 0) with
  accessFlags := 1537
  interfaces := #[]
  cf := some (fileOf pool9 1 #[] #[] 1537 3 #[] #[])
  fields := #[]
  methods := #[]
  instanceTypes := #[]
  staticTypes := #[]
  resolved := Array.replicate 11 none
  statics := none }

def pool10 : Array CpInfo := pool [(1, .class_ 2), (0, u "java/lang/constant/ConstantDesc"), (0, .class_ 4), (0, u "java/lang/Object")] 32

/-- java/lang/constant/ConstantDesc -/
def k10 : Class := { plain "java/lang/constant/ConstantDesc" (some 0) with
  accessFlags := 1537
  interfaces := #[]
  cf := some (fileOf pool10 1 #[] #[] 1537 3 #[] #[])
  fields := #[]
  methods := #[]
  instanceTypes := #[]
  staticTypes := #[]
  resolved := Array.replicate 37 none
  statics := none }

def pool11 : Array CpInfo := pool [(1, .class_ 2), (0, u "java/lang/Double"), (46, u "(D)J"), (64, .class_ 116), (1, u "java/lang/Number"), (3, u "value"), (0, u "D"), (14, u "doubleToRawLongBits"), (36, u "TYPE"), (0, u "Ljava/lang/Class;"), (0, .class_ 176), (0, u "java/lang/Comparable"), (0, .class_ 178), (0, u "java/lang/constant/Constable"), (0, .class_ 180), (0, u "java/lang/constant/ConstantDesc"), (0, u "POSITIVE_INFINITY"), (3, u "NEGATIVE_INFINITY"), (2, u "NaN"), (2, u "MAX_VALUE"), (0, u "MIN_NORMAL"), (0, u "MIN_VALUE"), (2, u "SIZE"), (0, u "I"), (1, u "PRECISION"), (1, u "MAX_EXPONENT"), (1, u "MIN_EXPONENT"), (1, u "BYTES"), (3, u "serialVersionUID"), (0, u "J")] 79

def k11m0 : Method := { name := "doubleToRawLongBits", desc := "(D)J", sig := { parameters := [.double], returnType := some .long }, accessFlags := 265, code := none }
/-- java/lang/Double -/
def k11 : Class := { plain "java/lang/Double" (some 7) with
  accessFlags := 49
  interfaces := #[8, 9, 10]
  cf := some (fileOf pool11 1 #[] #[{ accessFlags := 265, nameIndex := 136, descriptorIndex := 49, attributes := #[] }] 49 114 #[175, 177, 179] #[{ accessFlags := 25, nameIndex := 181, descriptorIndex := 121, attributes := #[] }, { accessFlags := 25, nameIndex := 185, descriptorIndex := 121, attributes := #[] }, { accessFlags := 25, nameIndex := 188, descriptorIndex := 121, attributes := #[] }, { accessFlags := 25, nameIndex := 191, descriptorIndex := 121, attributes := #[] }, { accessFlags := 25, nameIndex := 192, descriptorIndex := 121, attributes := #[] }, { accessFlags := 25, nameIndex := 193, descriptorIndex := 121, attributes := #[] }, { accessFlags := 25, nameIndex := 196, descriptorIndex := 197, attributes := #[] }, { accessFlags := 25, nameIndex := 199, descriptorIndex := 197, attributes := #[] }, { accessFlags := 25, nameIndex := 201, descriptorIndex := 197, attributes := #[] }, { accessFlags := 25, nameIndex := 203, descriptorIndex := 197, attributes := #[] }, { accessFlags := 25, nameIndex := 205, descriptorIndex := 197, attributes := #[] }, { accessFlags := 25, nameIndex := 173, descriptorIndex := 174, attributes := #[] }, { accessFlags := 18, nameIndex := 120, descriptorIndex := 121, attributes := #[] }, { accessFlags := 26, nameIndex := 209, descriptorIndex := 210, attributes := #[] }])
  fields := #[{ name := "POSITIVE_INFINITY", type := .double, accessFlags := 25, slot := 0, constantValue := 0 }, { name := "NEGATIVE_INFINITY", type := .double, accessFlags := 25, slot := 1, constantValue := 0 }, { name := "NaN", type := .double, accessFlags := 25, slot := 2, constantValue := 0 }, { name := "MAX_VALUE", type := .double, accessFlags := 25, slot := 3, constantValue := 0 }, { name := "MIN_NORMAL", type := .double, accessFlags := 25, slot := 4, constantValue := 0 }, { name := "MIN_VALUE", type := .double, accessFlags := 25, slot := 5, constantValue := 0 }, { name := "SIZE", type := .int, accessFlags := 25, slot := 6, constantValue := 0 }, { name := "PRECISION", type := .int, accessFlags := 25, slot := 7, constantValue := 0 }, { name := "MAX_EXPONENT", type := .int, accessFlags := 25, slot := 8, constantValue := 0 }, { name := "MIN_EXPONENT", type := .int, accessFlags := 25, slot := 9, constantValue := 0 }, { name := "BYTES", type := .int, accessFlags := 25, slot := 10, constantValue := 0 }, { name := "TYPE", type := (.object "java/lang/Class"), accessFlags := 25, slot := 11, constantValue := 0 }, { name := "value", type := .double, accessFlags := 18, slot := 0, constantValue := 0 }, { name := "serialVersionUID", type := .long, accessFlags := 26, slot := 12, constantValue := 0 }]
  methods := #[k11m0]
  instanceTypes := #[.double]
  staticTypes := #[.double, .double, .double, .double, .double, .double, .int, .int, .int, .int, .int, (.object "java/lang/Class"), .long]
  resolved := Array.replicate 290 none
  statics := none }

def pool12 : Array CpInfo := pool [(1, .fieldref 2 3), (0, .class_ 4), (0, .nameAndType 5 6), (0, u "com/example/reverie/reverie/ScalarQuantizer$Cursor"), (0, u "this$0"), (0, u "Lcom/example/reverie/reverie/ScalarQuantizer;"), (0, .methodref 8 9), (0, .class_ 10), (0, .nameAndType 11 12), (0, u "java/lang/Object"), (0, u "<init>"), (0, u "()V"), (0, .fieldref 14 15), (0, .class_ 16), (0, .nameAndType 17 18), (0, u "com/example/reverie/reverie/ScalarQuantizer"), (0, u "dimension"), (0, u "I"), (0, .fieldref 2 20), (0, .nameAndType 21 22), (0, u "mins"), (0, u "[F"), (0, .fieldref 2 24), (0, .nameAndType 25 22), (0, u "cursorScales"), (0, .fieldref 14 27), (0, .nameAndType 28 22), (0, u "startLows"), (0, .methodref 30 31), (0, .class_ 32), (0, .nameAndType 33 34), (0, u "java/lang/System"), (0, u "arraycopy"), (0, u "(Ljava/lang/Object;ILjava/lang/Object;II)V"), (0, .fieldref 14 36), (0, .nameAndType 37 22), (0, u "startScales"), (0, .fieldref 2 39), (0, .nameAndType 40 18), (0, u "nextChange"), (3, .fieldref 14 45), (0, .nameAndType 46 18), (0, u "changeCount"), (0, .fieldref 14 48), (0, .nameAndType 49 50), (0, u "changeStarts"), (0, u "[I"), (0, .fieldref 14 52), (0, .nameAndType 53 50), (0, u "changeDimensions"), (0, .fieldref 14 55), (0, .nameAndType 56 22), (0, u "changeLows"), (0, .fieldref 14 58), (0, .nameAndType 59 22), (0, u "changeScales"), (0, .methodref 2 61), (0, .nameAndType 62 63), (0, u "value"), (0, u "(IB)D"), (0, .methodref 65 66), (0, .class_ 67), (0, .nameAndType 68 69), (0, u "java/lang/Byte"), (0, u "toUnsignedInt"), (0, u "(B)I"), (0, u "(Lcom/example/reverie/reverie/ScalarQuantizer;)V"), (5, u "moveTo"), (0, u "(I)V"), (1, u "decode"), (0, u "([BI)[F")] 8

def k12c0 : Code := { maxStack := 5, maxLocals := 2, code := prog_34_method_1_code, exceptionTable := #[], attributes := #[] }
def k12m0 : Method := { name := "<init>", desc := "(Lcom/example/reverie/reverie/ScalarQuantizer;)V", sig := { parameters := [(.object "com/example/reverie/reverie/ScalarQuantizer")], returnType := none }, accessFlags := 2, code := some k12c0 }
def k12c1 : Code := { maxStack := 4, maxLocals := 3, code := prog_34_method_4_code, exceptionTable := #[], attributes := #[] }
def k12m1 : Method := { name := "moveTo", desc := "(I)V", sig := { parameters := [.int], returnType := none }, accessFlags := 0, code := some k12c1 }
def k12c2 : Code := { maxStack := 7, maxLocals := 5, code := prog_34_method_5_code, exceptionTable := #[], attributes := #[] }
def k12m2 : Method := { name := "decode", desc := "([BI)[F", sig := { parameters := [(.array .byte), .int], returnType := some (.array .float) }, accessFlags := 0, code := some k12c2 }
def k12c3 : Code := { maxStack := 4, maxLocals := 3, code := prog_34_method_7_code, exceptionTable := #[], attributes := #[] }
def k12m3 : Method := { name := "value", desc := "(IB)D", sig := { parameters := [.int, .byte], returnType := some .double }, accessFlags := 2, code := some k12c3 }
/-- com/example/reverie/reverie/ScalarQuantizer$Cursor -/
def k12 : Class := { plain "com/example/reverie/reverie/ScalarQuantizer$Cursor" (some 0) with
  accessFlags := 32
  interfaces := #[]
  cf := some (fileOf pool12 2 #[.nestHost 14] #[{ accessFlags := 2, nameIndex := 11, descriptorIndex := 70, attributes := #[] }, { accessFlags := 0, nameIndex := 76, descriptorIndex := 77, attributes := #[] }, { accessFlags := 0, nameIndex := 79, descriptorIndex := 80, attributes := #[] }, { accessFlags := 2, nameIndex := 62, descriptorIndex := 63, attributes := #[] }] 32 8 #[] #[{ accessFlags := 18, nameIndex := 21, descriptorIndex := 22, attributes := #[] }, { accessFlags := 18, nameIndex := 25, descriptorIndex := 22, attributes := #[] }, { accessFlags := 2, nameIndex := 40, descriptorIndex := 18, attributes := #[] }, { accessFlags := 4112, nameIndex := 5, descriptorIndex := 6, attributes := #[] }])
  fields := #[{ name := "mins", type := (.array .float), accessFlags := 18, slot := 0, constantValue := 0 }, { name := "cursorScales", type := (.array .float), accessFlags := 18, slot := 1, constantValue := 0 }, { name := "nextChange", type := .int, accessFlags := 2, slot := 2, constantValue := 0 }, { name := "this$0", type := (.object "com/example/reverie/reverie/ScalarQuantizer"), accessFlags := 4112, slot := 3, constantValue := 0 }]
  methods := #[k12m0, k12m1, k12m2, k12m3]
  instanceTypes := #[(.array .float), (.array .float), .int, (.object "com/example/reverie/reverie/ScalarQuantizer")]
  staticTypes := #[]
  resolved := Array.replicate 89 none
  statics := none }

def pool13 : Array CpInfo := pool [(2, .class_ 4), (1, u "java/lang/Object"), (0, u "<init>"), (0, u "()V"), (1, .class_ 10), (1, u "java/lang/System"), (0, u "allowSecurityManager"), (0, u "I"), (16, u "cons"), (0, u "Ljava/io/Console;"), (77, .class_ 110), (1, u "java/lang/System$CallersHolder"), (43, u "initialErrStream"), (0, u "Ljava/io/PrintStream;"), (19, u "security"), (0, u "Ljava/lang/SecurityManager;"), (31, .class_ 209), (0, u "java/lang/System$1"), (7, u "props"), (0, u "Ljava/util/Properties;"), (2, u "lineSeparator"), (0, u "Ljava/lang/String;"), (96, .class_ 321), (1, u "java/lang/System$LoggerFinder"), (5, .class_ 328), (0, u "java/lang/System$Logger"), (67, u "err"), (2, u "out"), (91, u "notSupportedJnuEncoding"), (15, u "in"), (17, u "initialIn"), (0, u "Ljava/io/InputStream;"), (35, u "bootLayer"), (0, u "Ljava/lang/ModuleLayer;"), (99, .class_ 664), (0, u "java/lang/System$2"), (9, u "NEVER"), (2, u "MAYBE"), (49, u "arraycopy"), (0, u "(Ljava/lang/Object;ILjava/lang/Object;II)V"), (72, .class_ 802), (0, u "java/lang/System$Logger$Level")] 31

def k13m0 : Method := { name := "<init>", desc := "()V", sig := { parameters := [], returnType := none }, accessFlags := 2, code := none }
def k13m1 : Method := { name := "arraycopy", desc := "(Ljava/lang/Object;ILjava/lang/Object;II)V", sig := { parameters := [(.object "java/lang/Object"), .int, (.object "java/lang/Object"), .int, .int], returnType := none }, accessFlags := 265, code := none }
/-- java/lang/System -/
def k13 : Class := { plain "java/lang/System" (some 0) with
  accessFlags := 49
  interfaces := #[]
  cf := some (fileOf pool13 8 #[.nestMembers #[319, 327, 801, 108, 663, 208]] #[{ accessFlags := 2, nameIndex := 5, descriptorIndex := 6, attributes := #[] }, { accessFlags := 265, nameIndex := 727, descriptorIndex := 728, attributes := #[] }] 49 2 #[] #[{ accessFlags := 25, nameIndex := 507, descriptorIndex := 526, attributes := #[] }, { accessFlags := 25, nameIndex := 399, descriptorIndex := 155, attributes := #[] }, { accessFlags := 25, nameIndex := 396, descriptorIndex := 155, attributes := #[] }, { accessFlags := 10, nameIndex := 525, descriptorIndex := 526, attributes := #[] }, { accessFlags := 26, nameIndex := 674, descriptorIndex := 12, attributes := #[] }, { accessFlags := 26, nameIndex := 677, descriptorIndex := 12, attributes := #[] }, { accessFlags := 10, nameIndex := 11, descriptorIndex := 12, attributes := #[] }, { accessFlags := 74, nameIndex := 175, descriptorIndex := 176, attributes := #[] }, { accessFlags := 10, nameIndex := 491, descriptorIndex := 222, attributes := #[] }, { accessFlags := 74, nameIndex := 29, descriptorIndex := 30, attributes := #[] }, { accessFlags := 74, nameIndex := 154, descriptorIndex := 155, attributes := #[] }, { accessFlags := 10, nameIndex := 217, descriptorIndex := 218, attributes := #[] }, { accessFlags := 10, nameIndex := 221, descriptorIndex := 222, attributes := #[] }, { accessFlags := 8, nameIndex := 562, descriptorIndex := 563, attributes := #[] }])
  fields := #[{ name := "in", type := (.object "java/io/InputStream"), accessFlags := 25, slot := 0, constantValue := 0 }, { name := "out", type := (.object "java/io/PrintStream"), accessFlags := 25, slot := 1, constantValue := 0 }, { name := "err", type := (.object "java/io/PrintStream"), accessFlags := 25, slot := 2, constantValue := 0 }, { name := "initialIn", type := (.object "java/io/InputStream"), accessFlags := 10, slot := 3, constantValue := 0 }, { name := "NEVER", type := .int, accessFlags := 26, slot := 4, constantValue := 0 }, { name := "MAYBE", type := .int, accessFlags := 26, slot := 5, constantValue := 0 }, { name := "allowSecurityManager", type := .int, accessFlags := 10, slot := 6, constantValue := 0 }, { name := "security", type := (.object "java/lang/SecurityManager"), accessFlags := 74, slot := 7, constantValue := 0 }, { name := "notSupportedJnuEncoding", type := (.object "java/lang/String"), accessFlags := 10, slot := 8, constantValue := 0 }, { name := "cons", type := (.object "java/io/Console"), accessFlags := 74, slot := 9, constantValue := 0 }, { name := "initialErrStream", type := (.object "java/io/PrintStream"), accessFlags := 74, slot := 10, constantValue := 0 }, { name := "props", type := (.object "java/util/Properties"), accessFlags := 10, slot := 11, constantValue := 0 }, { name := "lineSeparator", type := (.object "java/lang/String"), accessFlags := 10, slot := 12, constantValue := 0 }, { name := "bootLayer", type := (.object "java/lang/ModuleLayer"), accessFlags := 8, slot := 13, constantValue := 0 }]
  methods := #[k13m0, k13m1]
  instanceTypes := #[]
  staticTypes := #[(.object "java/io/InputStream"), (.object "java/io/PrintStream"), (.object "java/io/PrintStream"), (.object "java/io/InputStream"), .int, .int, .int, (.object "java/lang/SecurityManager"), (.object "java/lang/String"), (.object "java/io/Console"), (.object "java/io/PrintStream"), (.object "java/util/Properties"), (.object "java/lang/String"), (.object "java/lang/ModuleLayer")]
  resolved := Array.replicate 834 none
  statics := none }

def pool14 : Array CpInfo := pool [(1, .class_ 2), (0, u "java/lang/Byte"), (41, .class_ 46), (1, u "java/lang/Byte$ByteCache"), (51, .class_ 99), (0, u "java/lang/Number"), (2, u "value"), (0, u "B"), (3, u "(B)I"), (10, u "toUnsignedInt"), (16, u "TYPE"), (0, u "Ljava/lang/Class;"), (0, .class_ 138), (0, u "java/lang/Comparable"), (0, .class_ 140), (0, u "java/lang/constant/Constable"), (0, u "MIN_VALUE"), (2, u "MAX_VALUE"), (3, u "SIZE"), (0, u "I"), (1, u "BYTES"), (1, u "serialVersionUID"), (0, u "J")] 58

def k14c0 : Code := { maxStack := 2, maxLocals := 1, code := jdk_2056_method_24_code, exceptionTable := #[], attributes := #[] }
def k14m0 : Method := { name := "toUnsignedInt", desc := "(B)I", sig := { parameters := [.byte], returnType := some .int }, accessFlags := 9, code := some k14c0 }
/-- java/lang/Byte -/
def k14 : Class := { plain "java/lang/Byte" (some 7) with
  accessFlags := 49
  interfaces := #[8, 9]
  cf := some (fileOf pool14 1 #[.nestMembers #[44]] #[{ accessFlags := 9, nameIndex := 118, descriptorIndex := 107, attributes := #[] }] 49 98 #[137, 139] #[{ accessFlags := 25, nameIndex := 141, descriptorIndex := 103, attributes := #[] }, { accessFlags := 25, nameIndex := 144, descriptorIndex := 103, attributes := #[] }, { accessFlags := 25, nameIndex := 135, descriptorIndex := 136, attributes := #[] }, { accessFlags := 18, nameIndex := 102, descriptorIndex := 103, attributes := #[] }, { accessFlags := 25, nameIndex := 148, descriptorIndex := 149, attributes := #[] }, { accessFlags := 25, nameIndex := 151, descriptorIndex := 149, attributes := #[] }, { accessFlags := 26, nameIndex := 153, descriptorIndex := 154, attributes := #[] }])
  fields := #[{ name := "MIN_VALUE", type := .byte, accessFlags := 25, slot := 0, constantValue := 0 }, { name := "MAX_VALUE", type := .byte, accessFlags := 25, slot := 1, constantValue := 0 }, { name := "TYPE", type := (.object "java/lang/Class"), accessFlags := 25, slot := 2, constantValue := 0 }, { name := "value", type := .byte, accessFlags := 18, slot := 0, constantValue := 0 }, { name := "SIZE", type := .int, accessFlags := 25, slot := 3, constantValue := 0 }, { name := "BYTES", type := .int, accessFlags := 25, slot := 4, constantValue := 0 }, { name := "serialVersionUID", type := .long, accessFlags := 26, slot := 5, constantValue := 0 }]
  methods := #[k14m0]
  instanceTypes := #[.byte]
  staticTypes := #[.byte, .byte, (.object "java/lang/Class"), .int, .int, .long]
  resolved := Array.replicate 213 none
  statics := none }

/-- the primitive byte -/
def k15 : Class := { plain "byte" none with kind := .primitive 'B', accessFlags := 0x411 }
/-- [B -/
def k16 : Class := { plain "[B" (some 0) with kind := .array 15 .byte, interfaces := #[4, 6], accessFlags := 1041 }

/-- the primitive float -/
def k17 : Class := { plain "float" none with kind := .primitive 'F', accessFlags := 0x411 }
/-- [F -/
def k18 : Class := { plain "[F" (some 0) with kind := .array 17 .float, interfaces := #[4, 6], accessFlags := 1041 }

/-- the primitive int -/
def k19 : Class := { plain "int" none with kind := .primitive 'I', accessFlags := 0x411 }
/-- [I -/
def k20 : Class := { plain "[I" (some 0) with kind := .array 19 .int, interfaces := #[4, 6], accessFlags := 1041 }

def heap : Heap := #[]
def classes : Array Class := #[k0, k1, k2, k3, k4, k5, k6, k7, k8, k9, k10, k11, k12, k13, k14, k15, k16, k17, k18, k19, k20]
def interned : List (Array UInt16 × Addr) := []
def slotsUsed : Nat := 0
def theMethod : MethodId := ⟨1, 2⟩
def args0 : Array Value := #[.int 5, .int 6, .int 7, .int 8, .int 9]
def aboutOver (below : List Frame) : State where
  vm := { classes := classes, interned := interned.toArray }
  heap := heap
  slotsUsed := slotsUsed
  threads := #[{ frames := .invoking theMethod args0 :: below }]
def below0 : List Frame := [.native { method := ⟨0, 0⟩, args := #[] }]
def about1 : State := aboutOver below0
def p0 : Program := .bare "" "" ""
def e0 : Env := launch0.env 0 0 0
theorem w_frames : about1.frames = Frame.invoking theMethod args0 :: below0 := rfl
set_option maxRecDepth 65536 in
theorem w_args : argsFit about1.vm theMethod args0 = true := by decide +kernel
set_option maxRecDepth 65536 in
theorem w_heap : heapFits about1 = true := by decide +kernel
set_option maxRecDepth 65536 in
theorem w_runnable : about1.curStatus? = some .runnable := by decide +kernel
set_option maxRecDepth 65536 in
theorem w_alone : about1.alone = true := by decide +kernel
set_option maxRecDepth 65536 in
theorem w_named : about1.methodNamed? x = some theMethod := by decide +kernel
set_option maxRecDepth 65536 in
theorem w_hears : about1.hears theMethod below0 = true := by decide +kernel
set_option maxRecDepth 65536 in
theorem w_ripe : about1.ripe theMethod args0 below0 = true := by decide +kernel
theorem w_running : about1.status = .running := rfl
set_option maxRecDepth 65536 in
theorem w_room : about1.hasRoom e0.platform room_1 = true :=
  launch0.hasRoom_least _ room_1 (by decide +kernel) (by decide +kernel) (by decide +kernel) (by decide +kernel) (by decide +kernel) (by decide +kernel)
theorem allAtoms_all (ts : List Jvm.Cond) (a : Array Jvm.Value) (st : Jvm.State) : (allAtoms ts).before a st = ts.all (fun c => c.before a st) := by
  induction ts with
  | nil => rfl
  | cons c t ih =>
    show (Jvm.Cond.and c (allAtoms t)).before a st = _
    rw [Jvm.Cond.before_and, ih, List.all_cons]
def words1 : List Jvm.Cond := Jvm.Cond.code x code maxLocals ret :: tables_1
/-- a 'code' word, met by the world's own term for the bytes: nothing is compared byte by byte -/
theorem code_word {y : MethodName} {bytes : ByteArray} {mx : Nat} {rt : Option FieldType} {a : Array Value} {s : State} {m : MethodId} {meth : Method} {c : Code} (h1 : s.methodNamed? y = some m) (h2 : s.vm.method? m = some meth) (h3 : meth.code = some c) (h4 : c.code = bytes)
    (h5 : (c.maxLocals == mx && c.exceptionTable.isEmpty && decide (c.maxStack ≤ mostOperands) && decide (meth.sig.returnType = rt) && !meth.locks && decide (parseMethodDescriptor y.desc = some meth.sig)) = true) : (Jvm.Cond.code y bytes mx rt).before a s = true := by
  simp only [Bool.and_eq_true, beq_iff_eq, Bool.not_eq_true', decide_eq_true_eq] at h5
  obtain ⟨⟨⟨⟨⟨g1, g2⟩, g3⟩, g4⟩, g5⟩, g6⟩ := h5
  simp [Cond.before, Cond.holds, Cond.value, h1, h2, h3, h4, g1, g2, g3, g4, g5, g6]
def isCode : Jvm.Cond → Bool
  | .code _ _ _ _ => true
  | _ => false
theorem all_split {L : List Jvm.Cond} {P : Jvm.Cond → Bool} (h1 : L.all (fun c => isCode c || P c) = true) (h2 : ∀ c ∈ L.filter isCode, P c = true) : L.all P = true := by
  refine List.all_eq_true.mpr fun c hc => ?_
  have h := List.all_eq_true.mp h1 c hc
  rcases Bool.eq_false_or_eq_true (isCode c) with hi | hi
  · exact h2 c (List.mem_filter.mpr ⟨hc, hi⟩)
  · simpa [hi] using h
set_option maxRecDepth 65536 in
theorem w_c0 : (Jvm.Cond.code x code maxLocals ret).before args0 about1 = true := code_word (m := ⟨1, 2⟩) (meth := k1m2) (c := k1c2) (by decide +kernel) rfl rfl rfl (by decide +kernel)
set_option maxRecDepth 65536 in
theorem w_c1 : (Jvm.Cond.code ({ cls := "com/example/reverie/reverie/ScalarQuantizerRemoveLastPinLaw", name := "vec", desc := "(I)[F" } : Jvm.MethodName) method_2_code (2 : Nat) (Option.some (Jvm.ClassFile.FieldType.array Jvm.ClassFile.FieldType.float))).before args0 about1 = true := code_word (m := ⟨1, 1⟩) (meth := k1m1) (c := k1c1) (by decide +kernel) rfl rfl rfl (by decide +kernel)
set_option maxRecDepth 65536 in
theorem w_c2 : (Jvm.Cond.code ({ cls := "com/example/reverie/reverie/ScalarQuantizer", name := "<init>", desc := "(I)V" } : Jvm.MethodName) prog_33_method_1_code (2 : Nat) (Option.none : Option Jvm.ClassFile.FieldType)).before args0 about1 = true := code_word (m := ⟨2, 0⟩) (meth := k2m0) (c := k2c0) (by decide +kernel) rfl rfl rfl (by decide +kernel)
set_option maxRecDepth 65536 in
theorem w_c3 : (Jvm.Cond.code ({ cls := "com/example/reverie/reverie/ScalarQuantizer", name := "emptyRanges", desc := "(IF)[F" } : Jvm.MethodName) prog_33_method_12_code (3 : Nat) (Option.some (Jvm.ClassFile.FieldType.array Jvm.ClassFile.FieldType.float))).before args0 about1 = true := code_word (m := ⟨2, 5⟩) (meth := k2m5) (c := k2c5) (by decide +kernel) rfl rfl rfl (by decide +kernel)
set_option maxRecDepth 65536 in
theorem w_c4 : (Jvm.Cond.code ({ cls := "java/util/Arrays", name := "fill", desc := "([FF)V" } : Jvm.MethodName) jdk_65_method_115_code (4 : Nat) (Option.none : Option Jvm.ClassFile.FieldType)).before args0 about1 = true := code_word (m := ⟨3, 1⟩) (meth := k3m1) (c := k3c1) (by decide +kernel) rfl rfl rfl (by decide +kernel)
set_option maxRecDepth 65536 in
theorem w_c5 : (Jvm.Cond.code ({ cls := "com/example/reverie/reverie/ScalarQuantizer", name := "<init>", desc := "(I[F[F[F)V" } : Jvm.MethodName) prog_33_method_2_code (5 : Nat) (Option.none : Option Jvm.ClassFile.FieldType)).before args0 about1 = true := code_word (m := ⟨2, 1⟩) (meth := k2m1) (c := k2c1) (by decide +kernel) rfl rfl rfl (by decide +kernel)
set_option maxRecDepth 65536 in
theorem w_c6 : (Jvm.Cond.code ({ cls := "java/lang/Object", name := "<init>", desc := "()V" } : Jvm.MethodName) object_method_1_code (1 : Nat) (Option.none : Option Jvm.ClassFile.FieldType)).before args0 about1 = true := code_word (m := ⟨0, 0⟩) (meth := k0m0) (c := k0c0) (by decide +kernel) rfl rfl rfl (by decide +kernel)
set_option maxRecDepth 65536 in
theorem w_c7 : (Jvm.Cond.code ({ cls := "com/example/reverie/reverie/ScalarQuantizer", name := "encode", desc := "([F[BI)V" } : Jvm.MethodName) prog_33_method_5_code (6 : Nat) (Option.none : Option Jvm.ClassFile.FieldType)).before args0 about1 = true := code_word (m := ⟨2, 2⟩) (meth := k2m2) (c := k2c2) (by decide +kernel) rfl rfl rfl (by decide +kernel)
set_option maxRecDepth 65536 in
theorem w_c8 : (Jvm.Cond.code ({ cls := "java/lang/Math", name := "min", desc := "(FF)F" } : Jvm.MethodName) jdk_29_method_71_code (2 : Nat) (Option.some Jvm.ClassFile.FieldType.float)).before args0 about1 = true := code_word (m := ⟨5, 4⟩) (meth := k5m4) (c := k5c4) (by decide +kernel) rfl rfl rfl (by decide +kernel)
set_option maxRecDepth 65536 in
theorem w_c9 : (Jvm.Cond.code ({ cls := "java/lang/Math", name := "max", desc := "(FF)F" } : Jvm.MethodName) jdk_29_method_67_code (2 : Nat) (Option.some Jvm.ClassFile.FieldType.float)).before args0 about1 = true := code_word (m := ⟨5, 2⟩) (meth := k5m2) (c := k5c2) (by decide +kernel) rfl rfl rfl (by decide +kernel)
set_option maxRecDepth 65536 in
theorem w_c10 : (Jvm.Cond.code ({ cls := "com/example/reverie/reverie/ScalarQuantizer", name := "setRange", desc := "(IFF)V" } : Jvm.MethodName) prog_33_method_16_code (5 : Nat) (Option.none : Option Jvm.ClassFile.FieldType)).before args0 about1 = true := code_word (m := ⟨2, 8⟩) (meth := k2m8) (c := k2c8) (by decide +kernel) rfl rfl rfl (by decide +kernel)
set_option maxRecDepth 65536 in
theorem w_c11 : (Jvm.Cond.code ({ cls := "com/example/reverie/reverie/ScalarQuantizer", name := "scale", desc := "(FF)F" } : Jvm.MethodName) prog_33_method_14_code (2 : Nat) (Option.some Jvm.ClassFile.FieldType.float)).before args0 about1 = true := code_word (m := ⟨2, 6⟩) (meth := k2m6) (c := k2c6) (by decide +kernel) rfl rfl rfl (by decide +kernel)
set_option maxRecDepth 65536 in
theorem w_c12 : (Jvm.Cond.code ({ cls := "com/example/reverie/reverie/ScalarQuantizer", name := "code", desc := "(FFF)I" } : Jvm.MethodName) prog_33_method_15_code (6 : Nat) (Option.some Jvm.ClassFile.FieldType.int)).before args0 about1 = true := code_word (m := ⟨2, 7⟩) (meth := k2m7) (c := k2c7) (by decide +kernel) rfl rfl rfl (by decide +kernel)
set_option maxRecDepth 65536 in
theorem w_c13 : (Jvm.Cond.code ({ cls := "java/lang/Math", name := "round", desc := "(D)J" } : Jvm.MethodName) jdk_29_method_22_code (10 : Nat) (Option.some Jvm.ClassFile.FieldType.long)).before args0 about1 = true := code_word (m := ⟨5, 1⟩) (meth := k5m1) (c := k5c1) (by decide +kernel) rfl rfl rfl (by decide +kernel)
set_option maxRecDepth 65536 in
theorem w_c14 : (Jvm.Cond.code ({ cls := "java/lang/Math", name := "min", desc := "(JJ)J" } : Jvm.MethodName) jdk_29_method_70_code (4 : Nat) (Option.some Jvm.ClassFile.FieldType.long)).before args0 about1 = true := code_word (m := ⟨5, 3⟩) (meth := k5m3) (c := k5c3) (by decide +kernel) rfl rfl rfl (by decide +kernel)
set_option maxRecDepth 65536 in
theorem w_c15 : (Jvm.Cond.code ({ cls := "com/example/reverie/reverie/ScalarQuantizer", name := "removeLast", desc := "()V" } : Jvm.MethodName) prog_33_method_9_code (6 : Nat) (Option.none : Option Jvm.ClassFile.FieldType)).before args0 about1 = true := code_word (m := ⟨2, 3⟩) (meth := k2m3) (c := k2c3) (by decide +kernel) rfl rfl rfl (by decide +kernel)
set_option maxRecDepth 65536 in
theorem w_c16 : (Jvm.Cond.code ({ cls := "com/example/reverie/reverie/ScalarQuantizer", name := "cursor", desc := "()Lcom/example/reverie/reverie/ScalarQuantizer$Cursor;" } : Jvm.MethodName) prog_33_method_10_code (1 : Nat) (Option.some (Jvm.ClassFile.FieldType.object "com/example/reverie/reverie/ScalarQuantizer$Cursor"))).before args0 about1 = true := code_word (m := ⟨2, 4⟩) (meth := k2m4) (c := k2c4) (by decide +kernel) rfl rfl rfl (by decide +kernel)
set_option maxRecDepth 65536 in
theorem w_c17 : (Jvm.Cond.code ({ cls := "com/example/reverie/reverie/ScalarQuantizer$Cursor", name := "<init>", desc := "(Lcom/example/reverie/reverie/ScalarQuantizer;)V" } : Jvm.MethodName) prog_34_method_1_code (2 : Nat) (Option.none : Option Jvm.ClassFile.FieldType)).before args0 about1 = true := code_word (m := ⟨12, 0⟩) (meth := k12m0) (c := k12c0) (by decide +kernel) rfl rfl rfl (by decide +kernel)
set_option maxRecDepth 65536 in
theorem w_c18 : (Jvm.Cond.code ({ cls := "com/example/reverie/reverie/ScalarQuantizer$Cursor", name := "moveTo", desc := "(I)V" } : Jvm.MethodName) prog_34_method_4_code (3 : Nat) (Option.none : Option Jvm.ClassFile.FieldType)).before args0 about1 = true := code_word (m := ⟨12, 1⟩) (meth := k12m1) (c := k12c1) (by decide +kernel) rfl rfl rfl (by decide +kernel)
set_option maxRecDepth 65536 in
theorem w_c19 : (Jvm.Cond.code ({ cls := "com/example/reverie/reverie/ScalarQuantizer$Cursor", name := "decode", desc := "([BI)[F" } : Jvm.MethodName) prog_34_method_5_code (5 : Nat) (Option.some (Jvm.ClassFile.FieldType.array Jvm.ClassFile.FieldType.float))).before args0 about1 = true := code_word (m := ⟨12, 2⟩) (meth := k12m2) (c := k12c2) (by decide +kernel) rfl rfl rfl (by decide +kernel)
set_option maxRecDepth 65536 in
theorem w_c20 : (Jvm.Cond.code ({ cls := "com/example/reverie/reverie/ScalarQuantizer$Cursor", name := "value", desc := "(IB)D" } : Jvm.MethodName) prog_34_method_7_code (3 : Nat) (Option.some Jvm.ClassFile.FieldType.double)).before args0 about1 = true := code_word (m := ⟨12, 3⟩) (meth := k12m3) (c := k12c3) (by decide +kernel) rfl rfl rfl (by decide +kernel)
set_option maxRecDepth 65536 in
theorem w_c21 : (Jvm.Cond.code ({ cls := "java/lang/Byte", name := "toUnsignedInt", desc := "(B)I" } : Jvm.MethodName) jdk_2056_method_24_code (1 : Nat) (Option.some Jvm.ClassFile.FieldType.int)).before args0 about1 = true := code_word (m := ⟨14, 0⟩) (meth := k14m0) (c := k14c0) (by decide +kernel) rfl rfl rfl (by decide +kernel)
def codes1 : List Jvm.Cond := [Jvm.Cond.code x code maxLocals ret, Jvm.Cond.code ({ cls := "com/example/reverie/reverie/ScalarQuantizerRemoveLastPinLaw", name := "vec", desc := "(I)[F" } : Jvm.MethodName) method_2_code (2 : Nat) (Option.some (Jvm.ClassFile.FieldType.array Jvm.ClassFile.FieldType.float)), Jvm.Cond.code ({ cls := "com/example/reverie/reverie/ScalarQuantizer", name := "<init>", desc := "(I)V" } : Jvm.MethodName) prog_33_method_1_code (2 : Nat) (Option.none : Option Jvm.ClassFile.FieldType), Jvm.Cond.code ({ cls := "com/example/reverie/reverie/ScalarQuantizer", name := "emptyRanges", desc := "(IF)[F" } : Jvm.MethodName) prog_33_method_12_code (3 : Nat) (Option.some (Jvm.ClassFile.FieldType.array Jvm.ClassFile.FieldType.float)), Jvm.Cond.code ({ cls := "java/util/Arrays", name := "fill", desc := "([FF)V" } : Jvm.MethodName) jdk_65_method_115_code (4 : Nat) (Option.none : Option Jvm.ClassFile.FieldType), Jvm.Cond.code ({ cls := "com/example/reverie/reverie/ScalarQuantizer", name := "<init>", desc := "(I[F[F[F)V" } : Jvm.MethodName) prog_33_method_2_code (5 : Nat) (Option.none : Option Jvm.ClassFile.FieldType), Jvm.Cond.code ({ cls := "java/lang/Object", name := "<init>", desc := "()V" } : Jvm.MethodName) object_method_1_code (1 : Nat) (Option.none : Option Jvm.ClassFile.FieldType), Jvm.Cond.code ({ cls := "com/example/reverie/reverie/ScalarQuantizer", name := "encode", desc := "([F[BI)V" } : Jvm.MethodName) prog_33_method_5_code (6 : Nat) (Option.none : Option Jvm.ClassFile.FieldType), Jvm.Cond.code ({ cls := "java/lang/Math", name := "min", desc := "(FF)F" } : Jvm.MethodName) jdk_29_method_71_code (2 : Nat) (Option.some Jvm.ClassFile.FieldType.float), Jvm.Cond.code ({ cls := "java/lang/Math", name := "max", desc := "(FF)F" } : Jvm.MethodName) jdk_29_method_67_code (2 : Nat) (Option.some Jvm.ClassFile.FieldType.float), Jvm.Cond.code ({ cls := "com/example/reverie/reverie/ScalarQuantizer", name := "setRange", desc := "(IFF)V" } : Jvm.MethodName) prog_33_method_16_code (5 : Nat) (Option.none : Option Jvm.ClassFile.FieldType), Jvm.Cond.code ({ cls := "com/example/reverie/reverie/ScalarQuantizer", name := "scale", desc := "(FF)F" } : Jvm.MethodName) prog_33_method_14_code (2 : Nat) (Option.some Jvm.ClassFile.FieldType.float), Jvm.Cond.code ({ cls := "com/example/reverie/reverie/ScalarQuantizer", name := "code", desc := "(FFF)I" } : Jvm.MethodName) prog_33_method_15_code (6 : Nat) (Option.some Jvm.ClassFile.FieldType.int), Jvm.Cond.code ({ cls := "java/lang/Math", name := "round", desc := "(D)J" } : Jvm.MethodName) jdk_29_method_22_code (10 : Nat) (Option.some Jvm.ClassFile.FieldType.long), Jvm.Cond.code ({ cls := "java/lang/Math", name := "min", desc := "(JJ)J" } : Jvm.MethodName) jdk_29_method_70_code (4 : Nat) (Option.some Jvm.ClassFile.FieldType.long), Jvm.Cond.code ({ cls := "com/example/reverie/reverie/ScalarQuantizer", name := "removeLast", desc := "()V" } : Jvm.MethodName) prog_33_method_9_code (6 : Nat) (Option.none : Option Jvm.ClassFile.FieldType), Jvm.Cond.code ({ cls := "com/example/reverie/reverie/ScalarQuantizer", name := "cursor", desc := "()Lcom/example/reverie/reverie/ScalarQuantizer$Cursor;" } : Jvm.MethodName) prog_33_method_10_code (1 : Nat) (Option.some (Jvm.ClassFile.FieldType.object "com/example/reverie/reverie/ScalarQuantizer$Cursor")), Jvm.Cond.code ({ cls := "com/example/reverie/reverie/ScalarQuantizer$Cursor", name := "<init>", desc := "(Lcom/example/reverie/reverie/ScalarQuantizer;)V" } : Jvm.MethodName) prog_34_method_1_code (2 : Nat) (Option.none : Option Jvm.ClassFile.FieldType), Jvm.Cond.code ({ cls := "com/example/reverie/reverie/ScalarQuantizer$Cursor", name := "moveTo", desc := "(I)V" } : Jvm.MethodName) prog_34_method_4_code (3 : Nat) (Option.none : Option Jvm.ClassFile.FieldType), Jvm.Cond.code ({ cls := "com/example/reverie/reverie/ScalarQuantizer$Cursor", name := "decode", desc := "([BI)[F" } : Jvm.MethodName) prog_34_method_5_code (5 : Nat) (Option.some (Jvm.ClassFile.FieldType.array Jvm.ClassFile.FieldType.float)), Jvm.Cond.code ({ cls := "com/example/reverie/reverie/ScalarQuantizer$Cursor", name := "value", desc := "(IB)D" } : Jvm.MethodName) prog_34_method_7_code (3 : Nat) (Option.some Jvm.ClassFile.FieldType.double), Jvm.Cond.code ({ cls := "java/lang/Byte", name := "toUnsignedInt", desc := "(B)I" } : Jvm.MethodName) jdk_2056_method_24_code (1 : Nat) (Option.some Jvm.ClassFile.FieldType.int)]
set_option maxRecDepth 65536 in
theorem codes_eq : words1.filter isCode = codes1 := rfl
theorem w_codes : ∀ c ∈ words1.filter isCode, c.before args0 about1 = true := by
  rw [codes_eq]
  intro c hc
  simp only [codes1, List.mem_cons, List.not_mem_nil, or_false] at hc
  rcases hc with rfl | rfl | rfl | rfl | rfl | rfl | rfl | rfl | rfl | rfl | rfl | rfl | rfl | rfl | rfl | rfl | rfl | rfl | rfl | rfl | rfl | rfl
  · exact w_c0
  · exact w_c1
  · exact w_c2
  · exact w_c3
  · exact w_c4
  · exact w_c5
  · exact w_c6
  · exact w_c7
  · exact w_c8
  · exact w_c9
  · exact w_c10
  · exact w_c11
  · exact w_c12
  · exact w_c13
  · exact w_c14
  · exact w_c15
  · exact w_c16
  · exact w_c17
  · exact w_c18
  · exact w_c19
  · exact w_c20
  · exact w_c21
set_option maxRecDepth 65536 in
theorem w_t1 : (words1.take 24).all (fun c => isCode c || c.before args0 about1) = true := by decide +kernel
set_option maxRecDepth 65536 in
theorem w_t2 : ((words1.drop 24).take 24).all (fun c => isCode c || c.before args0 about1) = true := by decide +kernel
set_option maxRecDepth 65536 in
theorem w_t3 : (((words1.drop 24).drop 24).take 24).all (fun c => isCode c || c.before args0 about1) = true := by decide +kernel
set_option maxRecDepth 65536 in
theorem w_t4 : ((((words1.drop 24).drop 24).drop 24).take 24).all (fun c => isCode c || c.before args0 about1) = true := by decide +kernel
set_option maxRecDepth 65536 in
theorem w_t5 : (((((words1.drop 24).drop 24).drop 24).drop 24).take 24).all (fun c => isCode c || c.before args0 about1) = true := by decide +kernel
set_option maxRecDepth 65536 in
theorem w_t6 : ((((((words1.drop 24).drop 24).drop 24).drop 24).drop 24).take 24).all (fun c => isCode c || c.before args0 about1) = true := by decide +kernel
set_option maxRecDepth 65536 in
theorem w_t7 : ((((((words1.drop 24).drop 24).drop 24).drop 24).drop 24).drop 24).all (fun c => isCode c || c.before args0 about1) = true := by decide +kernel
theorem w_tables : (allAtoms (Jvm.Cond.code x code maxLocals ret :: tables_1)).before args0 about1 = true := by
  rw [allAtoms_all]
  show words1.all (fun c => c.before args0 about1) = true
  refine all_split ?_ w_codes
  rw [← List.take_append_drop 24 words1, List.all_append, w_t1, ← List.take_append_drop 24 (words1.drop 24), List.all_append, w_t2, ← List.take_append_drop 24 ((words1.drop 24).drop 24), List.all_append, w_t3, ← List.take_append_drop 24 (((words1.drop 24).drop 24).drop 24), List.all_append, w_t4, ← List.take_append_drop 24 ((((words1.drop 24).drop 24).drop 24).drop 24), List.all_append, w_t5, ← List.take_append_drop 24 (((((words1.drop 24).drop 24).drop 24).drop 24).drop 24), List.all_append, w_t6, w_t7]
  rfl
set_option maxRecDepth 65536 in
theorem w_case : (Jvm.Cond.and given_1 narrow_1).before args0 about1 = true := by decide +kernel
theorem w_applies : (headSpec (Jvm.Cond.code x code maxLocals ret :: tables_1) room_1).applies x e0.platform about1 = true :=
  (Spec.applies_iff w_frames).mpr ⟨w_running, w_runnable, w_alone, w_named, w_hears, w_ripe, w_room, w_tables⟩
theorem atStart : AtStart classFile x code maxLocals ret World_1 tables_1 room_1 Calls_1 rest_1 Pre_1 launch0 p0 e0 about1 theMethod args0 below0 :=
  ⟨lists_1, trivial, launch0.admits_env _ _ _, launch0.least_env, fairChoices_fair.cas, fairChoices_fair.clock, w_frames, w_args, w_heap, w_applies, trivial, trivial, w_case⟩
end start1
theorem witness_1 : WitnessClaimed_1 := ⟨start1.p0, start1.e0, start1.about1, start1.theMethod, start1.args0, start1.below0, start1.atStart⟩
end Jvm.Pilot.@@N@@
