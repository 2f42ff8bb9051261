import JvmDerived
import JvmDerived.Pilot.@@N@@Statement
import JvmDerived.Pilot.@@N@@Code
set_option linter.unusedVariables false
set_option linter.unusedSimpArgs false
namespace Jvm.RoadKit
open Sem ClassFile Op Lib Jvm.Stand Jvm.Free Jvm.LawKit
section New
variable {p : Program} {l : Launch} {e : Env} {R : Room} {s : State} {m : MethodId} {args : Array Value} {below : List Frame} {meth : Method} {c : Code} {T : State} {locs : List Loc} {cells slots : Nat}
theorem retI (X : Stand p l e R s m args below meth c T locs cells slots) (hx : p.tables.exec = Jvm.exec) {pc : Nat} {Ls : Array Slot} {z : Int32} {rest : List Value} (hret : meth.sig.returnType = some .int) (hd : decode c.code pc = .ok (.ireturn, 1)) {fs : List Frame}
    (hl : ∀ (f : JFrame) (acts : List Action), f.method = m → f.locked = none → f.entered = [] → (doReturn e (T.setTop f) acts (some (.int z))).1 = T.setFrames fs) : Steps p.tables e below (T.setTop (mkF m pc Ls (.int z :: rest))) (T.setFrames fs) := by
  have hm' : T.vm.method? m = some meth := X.method'
  have hn : narrow .int (.int z) = .int z := rfl
  show Steps p.tables e below (T.setTop { method := m, pc := pc, locals := Ls, stack := _ :: rest, locked := none }) _
  jvm_step X.here [X.here.top, hx, hd, hm', hret, hn]
  first | (intro acts; rw [hl _ acts rfl rfl rfl]) | rw [hl _ _ rfl rfl rfl]
  exact Steps.refl _
end New
end Jvm.RoadKit
namespace Jvm.Pilot.@@N@@
open Jvm Jvm.ClassFile Sem Op Lib Jvm.Free Jvm.Stand Jvm.LawKit Jvm.RoadKit Bundle Jvm.Pilot.@@N@@.Jvm.D
/-- what is left of a walk: from the frame f of T the run comes to its end, where Qe holds -/
def own_Rest (p : Program) (e : Env) (below : List Frame) (Qe : Outcome → State → Prop) (T : State) (f : JFrame) : Prop :=
  ∃ s₂ o, Steps p.tables e below (T.setTop f) s₂ ∧ s₂.status = .running ∧ Ended s₂ below o ∧ Qe o s₂
abbrev own_S (p : Program) (e : Env) (below : List Frame) (T : State) (f : JFrame) (t : State) : Prop := Steps p.tables e below (T.setTop f) t
theorem own_by {p : Program} {e : Env} {below : List Frame} {Qe : Outcome → State → Prop} {T T' : State} {f f' : JFrame}
    (h : ∀ t, Steps p.tables e below (T'.setTop f') t → Steps p.tables e below (T.setTop f) t) (k : own_Rest p e below Qe T' f') : own_Rest p e below Qe T f := by
  obtain ⟨s₂, o, h1, h2⟩ := k
  exact ⟨s₂, o, h _ h1, h2⟩
theorem own_at {p : Program} {e : Env} {below : List Frame} {Qe : Outcome → State → Prop} {T : State} {f f' : JFrame}
    (h : ∀ {t}, Steps p.tables e below (T.setTop f') t → Steps p.tables e below (T.setTop f) t) (k : own_Rest p e below Qe T f') :
    ∃ s₂ o, Steps p.tables e below (T.setTop f) s₂ ∧ s₂.status = .running ∧ Ended s₂ below o ∧ Qe o s₂ := by
  obtain ⟨s₂, o, h1, h2⟩ := k
  exact ⟨s₂, o, h h1, h2⟩
theorem own_c255 (x : Int32) : ¬ (x &&& (255 : Int32)).toUInt32.toUInt16.toUInt32.toInt32 < 0 ∧ ¬ (255 : Int32) < (x &&& (255 : Int32)).toUInt32.toUInt16.toUInt32.toInt32 := by
  have h1 := c_mask x 255 8 (by decide) (by decide)
  have h2 := c_i2c (x &&& (255 : Int32))
  simp only [Int32.lt_iff_toInt_lt, Int32.reduceToInt]
  omega
theorem own_narc {z : Int32} (h : ¬ z < 0 ∧ ¬ (255 : Int32) < z) : nar .char z = z := by
  have h2 := c_i2c z
  obtain ⟨h3, h4⟩ := h
  simp only [Int32.lt_iff_toInt_lt, Int32.reduceToInt] at h3 h4
  have e : (nar .char z).toInt = z.toInt := by
    show z.toUInt32.toUInt16.toUInt32.toInt32.toInt = z.toInt
    omega
  exact Int32.toInt_inj.mp e
theorem own_nrb {z : Int32} (h : z = 0 ∨ z = 1) : narrow .boolean (.int z) = .int z := by rcases h with rfl | rfl <;> rfl
theorem own_ftb {z : Int32} (h : z = 0 ∨ z = 1) : fits .boolean (.int z) = true := by rcases h with rfl | rfl <;> rfl
theorem own_eqi {t : Term} {n : Int32} {args : Array Value} {Z : State} (h : (Jvm.Cond.eq t (.int n)).value args Z none Z [] = some true) : t.eval args Z none [] Z = some (.int n) := by
  obtain ⟨x, y, h1, h2, h3, -⟩ := cmp_v (Or.inl h)
  have e : y = .int n := (Option.some.inj h2).symm
  subst e
  cases x <;> simp [Kin, Value.isRef] at h3
  rename_i z
  have : z = n := by simpa [Cond.value, h1, Term.eval] using h
  rw [h1, this]
theorem own_fld {t : Term} {n : Int32} {args : Array Value} {Z : State} {a : Addr} {C f d : String} (ev : t.eval args Z none [] Z = some (.ref a)) (h : (Jvm.Cond.eq (.field t C f d) (.int n)).value args Z none Z [] = some true) : Fld Z Z.heap a C f d (.int n) :=
  Fld.start ((fld_at ev).symm.trans (own_eqi h))
theorem own_nb {z : Int32} (h : z = 0 ∨ z = 1) : nar .boolean z = z := by rcases h with rfl | rfl <;> rfl
abbrev own_AJWJWJW (x0 : Int64) (x2 : Int64) (x4 : Int64) : Array Slot := #[.val (.long x0), .second, .val (.long x2), .second, .val (.long x4), .second]
abbrev own_AJWJWUU (x0 : Int64) (x2 : Int64) : Array Slot := #[.val (.long x0), .second, .val (.long x2), .second, .unset, .unset]
abbrev own_AJWJWUUU (x0 : Int64) (x2 : Int64) : Array Slot := #[.val (.long x0), .second, .val (.long x2), .second, .unset, .unset, .unset]
abbrev own_AJWJWJWU (x0 : Int64) (x2 : Int64) (x4 : Int64) : Array Slot := #[.val (.long x0), .second, .val (.long x2), .second, .val (.long x4), .second, .unset]
abbrev own_AJWJWJWI (x0 : Int64) (x2 : Int64) (x4 : Int64) (x6 : Int32) : Array Slot := #[.val (.long x0), .second, .val (.long x2), .second, .val (.long x4), .second, .val (.int x6)]
abbrev own_AJWJWJWIUUUUUU (x0 : Int64) (x2 : Int64) (x4 : Int64) (x6 : Int32) : Array Slot := #[.val (.long x0), .second, .val (.long x2), .second, .val (.long x4), .second, .val (.int x6), .unset, .unset, .unset, .unset, .unset, .unset]
abbrev own_AJWJWJWIIUUUUU (x0 : Int64) (x2 : Int64) (x4 : Int64) (x6 : Int32) (x7 : Int32) : Array Slot := #[.val (.long x0), .second, .val (.long x2), .second, .val (.long x4), .second, .val (.int x6), .val (.int x7), .unset, .unset, .unset, .unset, .unset]
abbrev own_AJWJWJWIIJWUUU (x0 : Int64) (x2 : Int64) (x4 : Int64) (x6 : Int32) (x7 : Int32) (x8 : Int64) : Array Slot := #[.val (.long x0), .second, .val (.long x2), .second, .val (.long x4), .second, .val (.int x6), .val (.int x7), .val (.long x8), .second, .unset, .unset, .unset]
abbrev own_AJWJWJWIIUUIUU (x0 : Int64) (x2 : Int64) (x4 : Int64) (x6 : Int32) (x7 : Int32) (x10 : Int32) : Array Slot := #[.val (.long x0), .second, .val (.long x2), .second, .val (.long x4), .second, .val (.int x6), .val (.int x7), .unset, .unset, .val (.int x10), .unset, .unset]
abbrev own_AJWJWJWIIUUIJW (x0 : Int64) (x2 : Int64) (x4 : Int64) (x6 : Int32) (x7 : Int32) (x10 : Int32) (x11 : Int64) : Array Slot := #[.val (.long x0), .second, .val (.long x2), .second, .val (.long x4), .second, .val (.int x6), .val (.int x7), .unset, .unset, .val (.int x10), .val (.long x11), .second]
abbrev own_AJWJWJWIIJWIJW (x0 : Int64) (x2 : Int64) (x4 : Int64) (x6 : Int32) (x7 : Int32) (x8 : Int64) (x10 : Int32) (x11 : Int64) : Array Slot := #[.val (.long x0), .second, .val (.long x2), .second, .val (.long x4), .second, .val (.int x6), .val (.int x7), .val (.long x8), .second, .val (.int x10), .val (.long x11), .second]
def own_reach (t r e : Int64) : Int32 := if lcmpW r ((-9223372036854775808 : Int64) + e) < (0 : Int32) then (0 : Int32) else if (0 : Int32) < lcmpW t (r - e) then (0 : Int32) else (1 : Int32)
def own_ref (t r : Int64) : Int32 := (((((((own_reach t r (3600000 : Int64) + own_reach t r ((6 : Int64) * (3600000 : Int64))) + own_reach t r ((24 : Int64) * (3600000 : Int64))) + own_reach t r ((72 : Int64) * (3600000 : Int64))) + own_reach t r ((168 : Int64) * (3600000 : Int64))) + own_reach t r ((336 : Int64) * (3600000 : Int64))) + own_reach t r ((672 : Int64) * (3600000 : Int64))) + own_reach t r ((2160 : Int64) * (3600000 : Int64)))
def own_dif (t r : Int64) : Int64 := if lcmpW t r < (0 : Int32) then r - t else (0 : Int64)
def own_age (t r : Int64) : Int64 := if lcmpW (own_dif t r) (0 : Int64) < (0 : Int32) then (9223372036854775807 : Int64) else own_dif t r
def own_cnt (a : Int64) : Int32 := (if lcmpW a (3600000 : Int64) < (0 : Int32) then (0 : Int32) else (if lcmpW a (21600000 : Int64) < (0 : Int32) then (1 : Int32) else (if lcmpW a (86400000 : Int64) < (0 : Int32) then (2 : Int32) else (if lcmpW a (259200000 : Int64) < (0 : Int32) then (3 : Int32) else (if lcmpW a (604800000 : Int64) < (0 : Int32) then (4 : Int32) else (if lcmpW a (1209600000 : Int64) < (0 : Int32) then (5 : Int32) else (if lcmpW a (2419200000 : Int64) < (0 : Int32) then (6 : Int32) else (if lcmpW a (7776000000 : Int64) < (0 : Int32) then (7 : Int32) else (8 : Int32)))))))))
theorem own_reach_eq (t r e : Int64) (h : 0 ≤ e.toInt) (d : Int) (hd : e.toInt = d) : own_reach t r e = if r.toInt - t.toInt < d then 0 else 1 := by
  subst hd
  unfold own_reach
  simp only [lw_lt, lw_gt, Int64.lt_iff_toInt_lt]
  have c1 := c_ladd (-9223372036854775808 : Int64) e
  have c2 := c_lsub r e
  have r1 := rng64 t; have r2 := rng64 r; have r3 := rng64 e; have r4 := rng64 ((-9223372036854775808 : Int64) + e); have r5 := rng64 (r - e)
  have m : ((-9223372036854775808 : Int64)).toInt = -9223372036854775808 := by decide
  rw [m] at c1
  repeat' split
  all_goals first | rfl | omega
theorem own_age_eq (t r : Int64) : (own_age t r).toInt = if r.toInt - t.toInt < 0 then 0 else if 9223372036854775807 < r.toInt - t.toInt then 9223372036854775807 else r.toInt - t.toInt := by
  unfold own_age own_dif
  simp only [lw_lt, Int64.lt_iff_toInt_lt]
  have c2 := c_lsub r t
  have r1 := rng64 t; have r2 := rng64 r; have r5 := rng64 (r - t)
  have z : (0 : Int64).toInt = 0 := by decide
  have mx : (9223372036854775807 : Int64).toInt = 9223372036854775807 := by decide
  by_cases q : t.toInt < r.toInt
  · simp only [if_pos q, z]
    by_cases q2 : (r - t).toInt < 0
    · rw [if_pos q2, mx]; repeat' split
      all_goals omega
    · rw [if_neg q2]; repeat' split
      all_goals omega
  · simp only [if_neg q, z]
    rw [if_neg (by omega), z]; repeat' split
    all_goals omega
theorem own_cnt_eq (a : Int64) (d : Int) (h : a.toInt = d) : own_cnt a = if d < 3600000 then 0 else if d < 21600000 then 1 else if d < 86400000 then 2 else if d < 259200000 then 3 else if d < 604800000 then 4 else if d < 1209600000 then 5 else if d < 2419200000 then 6 else if d < 7776000000 then 7 else 8 := by
  subst h
  unfold own_cnt
  simp only [lw_lt, Int64.lt_iff_toInt_lt]
  rfl
theorem own_law (t r : Int64) : own_cnt (own_age t r) = own_ref t r := by
  have a := own_age_eq t r
  rw [own_cnt_eq _ _ rfl]
  unfold own_ref
  rw [own_reach_eq t r (3600000 : Int64) (by decide) 3600000 (by decide)]
  rw [own_reach_eq t r ((6 : Int64) * (3600000 : Int64)) (by decide) 21600000 (by decide)]
  rw [own_reach_eq t r ((24 : Int64) * (3600000 : Int64)) (by decide) 86400000 (by decide)]
  rw [own_reach_eq t r ((72 : Int64) * (3600000 : Int64)) (by decide) 259200000 (by decide)]
  rw [own_reach_eq t r ((168 : Int64) * (3600000 : Int64)) (by decide) 604800000 (by decide)]
  rw [own_reach_eq t r ((336 : Int64) * (3600000 : Int64)) (by decide) 1209600000 (by decide)]
  rw [own_reach_eq t r ((672 : Int64) * (3600000 : Int64)) (by decide) 2419200000 (by decide)]
  rw [own_reach_eq t r ((2160 : Int64) * (3600000 : Int64)) (by decide) 7776000000 (by decide)]
  generalize (own_age t r).toInt = A at a ⊢
  have r1 := rng64 t; have r2 := rng64 r
  generalize r.toInt - t.toInt = D at a ⊢
  by_cases h0 : D < 3600000
  · have x0 : A < 3600000 := by split at a <;> (try split at a) <;> omega
    have y0 : D < 3600000 := by split at a <;> (try split at a) <;> omega
    have x1 : A < 21600000 := by split at a <;> (try split at a) <;> omega
    have y1 : D < 21600000 := by split at a <;> (try split at a) <;> omega
    have x2 : A < 86400000 := by split at a <;> (try split at a) <;> omega
    have y2 : D < 86400000 := by split at a <;> (try split at a) <;> omega
    have x3 : A < 259200000 := by split at a <;> (try split at a) <;> omega
    have y3 : D < 259200000 := by split at a <;> (try split at a) <;> omega
    have x4 : A < 604800000 := by split at a <;> (try split at a) <;> omega
    have y4 : D < 604800000 := by split at a <;> (try split at a) <;> omega
    have x5 : A < 1209600000 := by split at a <;> (try split at a) <;> omega
    have y5 : D < 1209600000 := by split at a <;> (try split at a) <;> omega
    have x6 : A < 2419200000 := by split at a <;> (try split at a) <;> omega
    have y6 : D < 2419200000 := by split at a <;> (try split at a) <;> omega
    have x7 : A < 7776000000 := by split at a <;> (try split at a) <;> omega
    have y7 : D < 7776000000 := by split at a <;> (try split at a) <;> omega
    simp only [x0, y0, x1, y1, x2, y2, x3, y3, x4, y4, x5, y5, x6, y6, x7, y7, if_true, if_false]
    first | rfl | decide
  · skip
    by_cases h1 : D < 21600000
    · have x0 : ¬ (A < 3600000) := by split at a <;> (try split at a) <;> omega
      have y0 : ¬ (D < 3600000) := by split at a <;> (try split at a) <;> omega
      have x1 : A < 21600000 := by split at a <;> (try split at a) <;> omega
      have y1 : D < 21600000 := by split at a <;> (try split at a) <;> omega
      have x2 : A < 86400000 := by split at a <;> (try split at a) <;> omega
      have y2 : D < 86400000 := by split at a <;> (try split at a) <;> omega
      have x3 : A < 259200000 := by split at a <;> (try split at a) <;> omega
      have y3 : D < 259200000 := by split at a <;> (try split at a) <;> omega
      have x4 : A < 604800000 := by split at a <;> (try split at a) <;> omega
      have y4 : D < 604800000 := by split at a <;> (try split at a) <;> omega
      have x5 : A < 1209600000 := by split at a <;> (try split at a) <;> omega
      have y5 : D < 1209600000 := by split at a <;> (try split at a) <;> omega
      have x6 : A < 2419200000 := by split at a <;> (try split at a) <;> omega
      have y6 : D < 2419200000 := by split at a <;> (try split at a) <;> omega
      have x7 : A < 7776000000 := by split at a <;> (try split at a) <;> omega
      have y7 : D < 7776000000 := by split at a <;> (try split at a) <;> omega
      simp only [x0, y0, x1, y1, x2, y2, x3, y3, x4, y4, x5, y5, x6, y6, x7, y7, if_true, if_false]
      first | rfl | decide
    · skip
      by_cases h2 : D < 86400000
      · have x0 : ¬ (A < 3600000) := by split at a <;> (try split at a) <;> omega
        have y0 : ¬ (D < 3600000) := by split at a <;> (try split at a) <;> omega
        have x1 : ¬ (A < 21600000) := by split at a <;> (try split at a) <;> omega
        have y1 : ¬ (D < 21600000) := by split at a <;> (try split at a) <;> omega
        have x2 : A < 86400000 := by split at a <;> (try split at a) <;> omega
        have y2 : D < 86400000 := by split at a <;> (try split at a) <;> omega
        have x3 : A < 259200000 := by split at a <;> (try split at a) <;> omega
        have y3 : D < 259200000 := by split at a <;> (try split at a) <;> omega
        have x4 : A < 604800000 := by split at a <;> (try split at a) <;> omega
        have y4 : D < 604800000 := by split at a <;> (try split at a) <;> omega
        have x5 : A < 1209600000 := by split at a <;> (try split at a) <;> omega
        have y5 : D < 1209600000 := by split at a <;> (try split at a) <;> omega
        have x6 : A < 2419200000 := by split at a <;> (try split at a) <;> omega
        have y6 : D < 2419200000 := by split at a <;> (try split at a) <;> omega
        have x7 : A < 7776000000 := by split at a <;> (try split at a) <;> omega
        have y7 : D < 7776000000 := by split at a <;> (try split at a) <;> omega
        simp only [x0, y0, x1, y1, x2, y2, x3, y3, x4, y4, x5, y5, x6, y6, x7, y7, if_true, if_false]
        first | rfl | decide
      · skip
        by_cases h3 : D < 259200000
        · have x0 : ¬ (A < 3600000) := by split at a <;> (try split at a) <;> omega
          have y0 : ¬ (D < 3600000) := by split at a <;> (try split at a) <;> omega
          have x1 : ¬ (A < 21600000) := by split at a <;> (try split at a) <;> omega
          have y1 : ¬ (D < 21600000) := by split at a <;> (try split at a) <;> omega
          have x2 : ¬ (A < 86400000) := by split at a <;> (try split at a) <;> omega
          have y2 : ¬ (D < 86400000) := by split at a <;> (try split at a) <;> omega
          have x3 : A < 259200000 := by split at a <;> (try split at a) <;> omega
          have y3 : D < 259200000 := by split at a <;> (try split at a) <;> omega
          have x4 : A < 604800000 := by split at a <;> (try split at a) <;> omega
          have y4 : D < 604800000 := by split at a <;> (try split at a) <;> omega
          have x5 : A < 1209600000 := by split at a <;> (try split at a) <;> omega
          have y5 : D < 1209600000 := by split at a <;> (try split at a) <;> omega
          have x6 : A < 2419200000 := by split at a <;> (try split at a) <;> omega
          have y6 : D < 2419200000 := by split at a <;> (try split at a) <;> omega
          have x7 : A < 7776000000 := by split at a <;> (try split at a) <;> omega
          have y7 : D < 7776000000 := by split at a <;> (try split at a) <;> omega
          simp only [x0, y0, x1, y1, x2, y2, x3, y3, x4, y4, x5, y5, x6, y6, x7, y7, if_true, if_false]
          first | rfl | decide
        · skip
          by_cases h4 : D < 604800000
          · have x0 : ¬ (A < 3600000) := by split at a <;> (try split at a) <;> omega
            have y0 : ¬ (D < 3600000) := by split at a <;> (try split at a) <;> omega
            have x1 : ¬ (A < 21600000) := by split at a <;> (try split at a) <;> omega
            have y1 : ¬ (D < 21600000) := by split at a <;> (try split at a) <;> omega
            have x2 : ¬ (A < 86400000) := by split at a <;> (try split at a) <;> omega
            have y2 : ¬ (D < 86400000) := by split at a <;> (try split at a) <;> omega
            have x3 : ¬ (A < 259200000) := by split at a <;> (try split at a) <;> omega
            have y3 : ¬ (D < 259200000) := by split at a <;> (try split at a) <;> omega
            have x4 : A < 604800000 := by split at a <;> (try split at a) <;> omega
            have y4 : D < 604800000 := by split at a <;> (try split at a) <;> omega
            have x5 : A < 1209600000 := by split at a <;> (try split at a) <;> omega
            have y5 : D < 1209600000 := by split at a <;> (try split at a) <;> omega
            have x6 : A < 2419200000 := by split at a <;> (try split at a) <;> omega
            have y6 : D < 2419200000 := by split at a <;> (try split at a) <;> omega
            have x7 : A < 7776000000 := by split at a <;> (try split at a) <;> omega
            have y7 : D < 7776000000 := by split at a <;> (try split at a) <;> omega
            simp only [x0, y0, x1, y1, x2, y2, x3, y3, x4, y4, x5, y5, x6, y6, x7, y7, if_true, if_false]
            first | rfl | decide
          · skip
            by_cases h5 : D < 1209600000
            · have x0 : ¬ (A < 3600000) := by split at a <;> (try split at a) <;> omega
              have y0 : ¬ (D < 3600000) := by split at a <;> (try split at a) <;> omega
              have x1 : ¬ (A < 21600000) := by split at a <;> (try split at a) <;> omega
              have y1 : ¬ (D < 21600000) := by split at a <;> (try split at a) <;> omega
              have x2 : ¬ (A < 86400000) := by split at a <;> (try split at a) <;> omega
              have y2 : ¬ (D < 86400000) := by split at a <;> (try split at a) <;> omega
              have x3 : ¬ (A < 259200000) := by split at a <;> (try split at a) <;> omega
              have y3 : ¬ (D < 259200000) := by split at a <;> (try split at a) <;> omega
              have x4 : ¬ (A < 604800000) := by split at a <;> (try split at a) <;> omega
              have y4 : ¬ (D < 604800000) := by split at a <;> (try split at a) <;> omega
              have x5 : A < 1209600000 := by split at a <;> (try split at a) <;> omega
              have y5 : D < 1209600000 := by split at a <;> (try split at a) <;> omega
              have x6 : A < 2419200000 := by split at a <;> (try split at a) <;> omega
              have y6 : D < 2419200000 := by split at a <;> (try split at a) <;> omega
              have x7 : A < 7776000000 := by split at a <;> (try split at a) <;> omega
              have y7 : D < 7776000000 := by split at a <;> (try split at a) <;> omega
              simp only [x0, y0, x1, y1, x2, y2, x3, y3, x4, y4, x5, y5, x6, y6, x7, y7, if_true, if_false]
              first | rfl | decide
            · skip
              by_cases h6 : D < 2419200000
              · have x0 : ¬ (A < 3600000) := by split at a <;> (try split at a) <;> omega
                have y0 : ¬ (D < 3600000) := by split at a <;> (try split at a) <;> omega
                have x1 : ¬ (A < 21600000) := by split at a <;> (try split at a) <;> omega
                have y1 : ¬ (D < 21600000) := by split at a <;> (try split at a) <;> omega
                have x2 : ¬ (A < 86400000) := by split at a <;> (try split at a) <;> omega
                have y2 : ¬ (D < 86400000) := by split at a <;> (try split at a) <;> omega
                have x3 : ¬ (A < 259200000) := by split at a <;> (try split at a) <;> omega
                have y3 : ¬ (D < 259200000) := by split at a <;> (try split at a) <;> omega
                have x4 : ¬ (A < 604800000) := by split at a <;> (try split at a) <;> omega
                have y4 : ¬ (D < 604800000) := by split at a <;> (try split at a) <;> omega
                have x5 : ¬ (A < 1209600000) := by split at a <;> (try split at a) <;> omega
                have y5 : ¬ (D < 1209600000) := by split at a <;> (try split at a) <;> omega
                have x6 : A < 2419200000 := by split at a <;> (try split at a) <;> omega
                have y6 : D < 2419200000 := by split at a <;> (try split at a) <;> omega
                have x7 : A < 7776000000 := by split at a <;> (try split at a) <;> omega
                have y7 : D < 7776000000 := by split at a <;> (try split at a) <;> omega
                simp only [x0, y0, x1, y1, x2, y2, x3, y3, x4, y4, x5, y5, x6, y6, x7, y7, if_true, if_false]
                first | rfl | decide
              · skip
                by_cases h7 : D < 7776000000
                · have x0 : ¬ (A < 3600000) := by split at a <;> (try split at a) <;> omega
                  have y0 : ¬ (D < 3600000) := by split at a <;> (try split at a) <;> omega
                  have x1 : ¬ (A < 21600000) := by split at a <;> (try split at a) <;> omega
                  have y1 : ¬ (D < 21600000) := by split at a <;> (try split at a) <;> omega
                  have x2 : ¬ (A < 86400000) := by split at a <;> (try split at a) <;> omega
                  have y2 : ¬ (D < 86400000) := by split at a <;> (try split at a) <;> omega
                  have x3 : ¬ (A < 259200000) := by split at a <;> (try split at a) <;> omega
                  have y3 : ¬ (D < 259200000) := by split at a <;> (try split at a) <;> omega
                  have x4 : ¬ (A < 604800000) := by split at a <;> (try split at a) <;> omega
                  have y4 : ¬ (D < 604800000) := by split at a <;> (try split at a) <;> omega
                  have x5 : ¬ (A < 1209600000) := by split at a <;> (try split at a) <;> omega
                  have y5 : ¬ (D < 1209600000) := by split at a <;> (try split at a) <;> omega
                  have x6 : ¬ (A < 2419200000) := by split at a <;> (try split at a) <;> omega
                  have y6 : ¬ (D < 2419200000) := by split at a <;> (try split at a) <;> omega
                  have x7 : A < 7776000000 := by split at a <;> (try split at a) <;> omega
                  have y7 : D < 7776000000 := by split at a <;> (try split at a) <;> omega
                  simp only [x0, y0, x1, y1, x2, y2, x3, y3, x4, y4, x5, y5, x6, y6, x7, y7, if_true, if_false]
                  first | rfl | decide
                · skip
                  have x0 : ¬ (A < 3600000) := by split at a <;> (try split at a) <;> omega
                  have y0 : ¬ (D < 3600000) := by split at a <;> (try split at a) <;> omega
                  have x1 : ¬ (A < 21600000) := by split at a <;> (try split at a) <;> omega
                  have y1 : ¬ (D < 21600000) := by split at a <;> (try split at a) <;> omega
                  have x2 : ¬ (A < 86400000) := by split at a <;> (try split at a) <;> omega
                  have y2 : ¬ (D < 86400000) := by split at a <;> (try split at a) <;> omega
                  have x3 : ¬ (A < 259200000) := by split at a <;> (try split at a) <;> omega
                  have y3 : ¬ (D < 259200000) := by split at a <;> (try split at a) <;> omega
                  have x4 : ¬ (A < 604800000) := by split at a <;> (try split at a) <;> omega
                  have y4 : ¬ (D < 604800000) := by split at a <;> (try split at a) <;> omega
                  have x5 : ¬ (A < 1209600000) := by split at a <;> (try split at a) <;> omega
                  have y5 : ¬ (D < 1209600000) := by split at a <;> (try split at a) <;> omega
                  have x6 : ¬ (A < 2419200000) := by split at a <;> (try split at a) <;> omega
                  have y6 : ¬ (D < 2419200000) := by split at a <;> (try split at a) <;> omega
                  have x7 : ¬ (A < 7776000000) := by split at a <;> (try split at a) <;> omega
                  have y7 : ¬ (D < 7776000000) := by split at a <;> (try split at a) <;> omega
                  simp only [x0, y0, x1, y1, x2, y2, x3, y3, x4, y4, x5, y5, x6, y6, x7, y7, if_true, if_false]
                  first | rfl | decide
theorem own_eql {t : Term} {n : Int64} {args : Array Value} {Z : State} (h : (Jvm.Cond.eq t (.long n)).value args Z none Z [] = some true) : t.eval args Z none [] Z = some (.long n) := by
  obtain ⟨x, y, h1, h2, h3, -⟩ := cmp_v (Or.inl h)
  have e : y = .long n := (Option.some.inj h2).symm
  subst e
  cases x <;> simp [Kin, Value.isRef] at h3
  rename_i z
  have : z = n := by simpa [Cond.value, h1, Term.eval] using h
  rw [h1, this]
theorem own_len {t : Term} {n : Nat} {args : Array Value} {Z : State} {a : Addr} {cl : Cell} {ty : FieldType} (ev : t.eval args Z none [] Z = some (.ref a)) (A : Arr Z Z.heap a cl ty) (hn : n < 2 ^ 31) (h : (Term.length t).eval args Z none [] Z = some (.int n.toInt32)) : cl.slots.size = n := by
  obtain ⟨b, cell, e1, e2, e3, e4⟩ := Lib.length_spec h
  cases ev.symm.trans e1
  have q : cell = cl := Option.some.inj ((Lib.arrayAt_spec e2).1.symm.trans A.1)
  subst q
  have e5 := congrArg Int32.toInt (Value.int.inj e4)
  rw [len_toInt e3, len_toInt hn] at e5
  omega
theorem d4_0 : decode method_3_code 0 = .ok (.lload_n 2, 1) := by decide +kernel
theorem d4_1 : decode method_3_code 1 = .ok (.ldc2_w 25, 3) := by decide +kernel
theorem d4_4 : decode method_3_code 4 = .ok (.lload 4, 2) := by decide +kernel
theorem d4_6 : decode method_3_code 6 = .ok (.ladd, 1) := by decide +kernel
theorem d4_7 : decode method_3_code 7 = .ok (.lcmp, 1) := by decide +kernel
theorem d4_8 : decode method_3_code 8 = .ok (.ifCond .lt 14, 3) := by decide +kernel
theorem d4_11 : decode method_3_code 11 = .ok (.lload_n 0, 1) := by decide +kernel
theorem d4_12 : decode method_3_code 12 = .ok (.lload_n 2, 1) := by decide +kernel
theorem d4_13 : decode method_3_code 13 = .ok (.lload 4, 2) := by decide +kernel
theorem d4_15 : decode method_3_code 15 = .ok (.lsub, 1) := by decide +kernel
theorem d4_16 : decode method_3_code 16 = .ok (.lcmp, 1) := by decide +kernel
theorem d4_17 : decode method_3_code 17 = .ok (.ifCond .gt 5, 3) := by decide +kernel
theorem d4_20 : decode method_3_code 20 = .ok (.iconst 1, 1) := by decide +kernel
theorem d4_21 : decode method_3_code 21 = .ok (.ireturn, 1) := by decide +kernel
theorem d4_22 : decode method_3_code 22 = .ok (.iconst 0, 1) := by decide +kernel
theorem d4_23 : decode method_3_code 23 = .ok (.ireturn, 1) := by decide +kernel
theorem pn_4 : plainFor (⟨"com/example/reverie/reverie/FusedScoreBucketPinLaw", "reaches", "(JJJ)I"⟩ : MethodName) = true := by first | exact plainFor_of_name (by first | (simp [plainName, overriddenIn]; done) | decide +kernel) | decide +kernel | exact Jvm.Free.JP.mathPlain rfl (by decide +kernel)
theorem ef_4 (m : MethodId) (q0 : Int64) (q1 : Int64) (q2 : Int64) : entryFrame m #[(.long q0), (.long q1), (.long q2)] 6 = mkF m 0 #[.val (.long q0), .second, .val (.long q1), .second, .val (.long q2), .second] [] := by first | (simp [entryFrame, mkF, argsToLocals, Value.category]; done) | rfl
def Q4 (Z : State) (q0 : Int64) (q1 : Int64) (q2 : Int64) (h0 : Heap) (n0 : Nat) (v : Option Value) (h : Heap) (L : List Loc) : Prop := v = some (.int (own_reach q0 q1 q2)) ∧ Fr n0 L ∧ h = h0
set_option maxRecDepth 65536 in
set_option maxHeartbeats 40000000 in
theorem rm4 (l : Launch) (Z : State) (a0 : Array Value) (hw : ∀ d ∈ tables_1, d.before a0 Z = true) (ws : List Jvm.Cond) (q0 : Int64) (q1 : Int64) (q2 : Int64) (h0 : Heap) (n0 : Nat) (Z0 : n0 ≤ h0.size) :
    MetFree l (⟨"com/example/reverie/reverie/FusedScoreBucketPinLaw", "reaches", "(JJJ)I"⟩ : MethodName) (head1 (Jvm.Cond.code (⟨"com/example/reverie/reverie/FusedScoreBucketPinLaw", "reaches", "(JJJ)I"⟩ : MethodName) method_3_code 6 (some .int) :: ws) ({ frames := 0, cells := 0, slots := 0, locals := 0 } : Room)) (fun a U => a = #[(.long q0), (.long q1), (.long q2)] ∧ Z.Warmed39 U.vm ∧ U.heap = h0) (fun _ _ _ _ _ => True) (fun _ U o U' => ∃ v L, o = .returned v ∧ Q4 Z q0 q1 q2 h0 n0 v U'.heap L ∧ FrameEnd U o U' L ({ frames := 0, cells := 0, slots := 0, locals := 0 } : Room).cells ({ frames := 0, cells := 0, slots := 0, locals := 0 } : Room).slots) := by
  refine MetFree.of_bodySF pn_4 hisR ?_
  intro p e s m args below meth c s₁ Bd hml0 hP hK
  obtain ⟨rfl, hZ, hh⟩ := hP
  have hx := Bd.exec
  have hby := Bd.bytes
  have hml : c.maxLocals = 6 := hml0
  have hown : s.vm.findClass "com/example/reverie/reverie/FusedScoreBucketPinLaw" = some m.cls := findClass_of_methodNamed Bd.named
  have hnm := (name_of_methodNamed Bd.named Bd.method).1
  have X0 : Stand p l e ({ frames := 0, cells := 0, slots := 0, locals := 0 } : Room) s m #[(.long q0), (.long q1), (.long q2)] below meth c s₁ [] 0 0 := Stand.of_body Bd
  have e0 : s₁.heap = h0 := by rw [← hh, Bd.state]; rfl
  have N0 := Fr.nil n0
  refine own_at (castTop (ef_4 m q0 q1 q2)) ?_
  have sg8 : ∀ t, own_S p e below s₁ (mkF m 8 (own_AJWJWJW q0 q1 q2) [(.int (lcmpW q1 ((-9223372036854775808 : Int64) + q2)))]) t → own_S p e below s₁ (mkF m 0 (own_AJWJWJW q0 q1 q2) []) t := by
    intro t k
    show own_S p e below s₁ (mkF m 0 (own_AJWJWJW q0 q1 q2) []) _
    refine XS.lloadN X0.here hx rfl (hb hby d4_0) rfl ?_
    show own_S p e below s₁ (mkF m 1 (own_AJWJWJW q0 q1 q2) [(.long q1)]) _
    refine X0.ldc2Long hx hown (mvT hZ (hw _ (List.mem_of_getElem? (i := 17) rfl))) (g := (mkF m 1 (own_AJWJWJW q0 q1 q2) [(.long q1)])) rfl (hb hby d4_1) _ ?_
    show own_S p e below s₁ (mkF m 4 (own_AJWJWJW q0 q1 q2) [(.long (-9223372036854775808 : Int64)), (.long q1)]) _
    refine XS.lload X0.here hx rfl (hb hby d4_4) rfl ?_
    show own_S p e below s₁ (mkF m 6 (own_AJWJWJW q0 q1 q2) [(.long q2), (.long (-9223372036854775808 : Int64)), (.long q1)]) _
    refine XS.ladd X0.here hx rfl (hb hby d4_6) rfl ?_
    show own_S p e below s₁ (mkF m 7 (own_AJWJWJW q0 q1 q2) [(.long ((-9223372036854775808 : Int64) + q2)), (.long q1)]) _
    refine XS.lcmp X0.here hx rfl (hb hby d4_7) rfl ?_
    exact k
  refine own_by sg8 ?_
  by_cases hc8 : (lcmpW q1 ((-9223372036854775808 : Int64) + q2)) < (0 : Int32)
  · have sg23 : ∀ t, own_S p e below s₁ (mkF m 23 (own_AJWJWJW q0 q1 q2) [(.int (0 : Int32))]) t → own_S p e below s₁ (mkF m 8 (own_AJWJWJW q0 q1 q2) [(.int (lcmpW q1 ((-9223372036854775808 : Int64) + q2)))]) t := by
      intro t k
      show own_S p e below s₁ (mkF m 8 (own_AJWJWJW q0 q1 q2) [(.int (lcmpW q1 ((-9223372036854775808 : Int64) + q2)))]) _
      refine XS.ifYes X0.here hx rfl (pc0 := 8) (pc' := 22) rfl (hb hby d4_8) rfl ((if0 _ _).trans (tlt hc8).1) (by decide) (by decide) ?_
      show own_S p e below s₁ (mkF m 22 (own_AJWJWJW q0 q1 q2) []) _
      refine XS.iconst X0.here hx rfl (hb hby d4_22) ?_
      exact k
    refine own_by sg23 ?_
    obtain ⟨fs, hr, hrun, hended, hW, hsame⟩ := X0.leave (v := some (.int (0 : Int32))) (fun h => by rw [Bd.returns] at h; cases h)
    refine ⟨_, _, ?_, hrun, hended, _, _, rfl, ?_, ⟨_, rfl⟩, hW, hsame.mono (by decide) (by decide)⟩
    · exact retI X0 hx Bd.returns (hb hby d4_23) hr
    · show Q4 Z q0 q1 q2 h0 n0 _ s₁.heap _
      rw [e0]
      exact ⟨by unfold own_reach; rw [if_pos hc8], N0, rfl⟩
  · have sg17 : ∀ t, own_S p e below s₁ (mkF m 17 (own_AJWJWJW q0 q1 q2) [(.int (lcmpW q0 (q1 - q2)))]) t → own_S p e below s₁ (mkF m 8 (own_AJWJWJW q0 q1 q2) [(.int (lcmpW q1 ((-9223372036854775808 : Int64) + q2)))]) t := by
      intro t k
      show own_S p e below s₁ (mkF m 8 (own_AJWJWJW q0 q1 q2) [(.int (lcmpW q1 ((-9223372036854775808 : Int64) + q2)))]) _
      refine XS.ifNo X0.here hx rfl (hb hby d4_8) rfl ((if0 _ _).trans (flt hc8).1) ?_
      show own_S p e below s₁ (mkF m 11 (own_AJWJWJW q0 q1 q2) []) _
      refine XS.lloadN X0.here hx rfl (hb hby d4_11) rfl ?_
      show own_S p e below s₁ (mkF m 12 (own_AJWJWJW q0 q1 q2) [(.long q0)]) _
      refine XS.lloadN X0.here hx rfl (hb hby d4_12) rfl ?_
      show own_S p e below s₁ (mkF m 13 (own_AJWJWJW q0 q1 q2) [(.long q1), (.long q0)]) _
      refine XS.lload X0.here hx rfl (hb hby d4_13) rfl ?_
      show own_S p e below s₁ (mkF m 15 (own_AJWJWJW q0 q1 q2) [(.long q2), (.long q1), (.long q0)]) _
      refine XS.lsub X0.here hx rfl (hb hby d4_15) rfl ?_
      show own_S p e below s₁ (mkF m 16 (own_AJWJWJW q0 q1 q2) [(.long (q1 - q2)), (.long q0)]) _
      refine XS.lcmp X0.here hx rfl (hb hby d4_16) rfl ?_
      exact k
    refine own_by sg17 ?_
    by_cases hc17 : (0 : Int32) < (lcmpW q0 (q1 - q2))
    · have sg23 : ∀ t, own_S p e below s₁ (mkF m 23 (own_AJWJWJW q0 q1 q2) [(.int (0 : Int32))]) t → own_S p e below s₁ (mkF m 17 (own_AJWJWJW q0 q1 q2) [(.int (lcmpW q0 (q1 - q2)))]) t := by
        intro t k
        show own_S p e below s₁ (mkF m 17 (own_AJWJWJW q0 q1 q2) [(.int (lcmpW q0 (q1 - q2)))]) _
        refine XS.ifYes X0.here hx rfl (pc0 := 17) (pc' := 22) rfl (hb hby d4_17) rfl ((if0 _ _).trans (tlt hc17).2.2.1) (by decide) (by decide) ?_
        show own_S p e below s₁ (mkF m 22 (own_AJWJWJW q0 q1 q2) []) _
        refine XS.iconst X0.here hx rfl (hb hby d4_22) ?_
        exact k
      refine own_by sg23 ?_
      obtain ⟨fs, hr, hrun, hended, hW, hsame⟩ := X0.leave (v := some (.int (0 : Int32))) (fun h => by rw [Bd.returns] at h; cases h)
      refine ⟨_, _, ?_, hrun, hended, _, _, rfl, ?_, ⟨_, rfl⟩, hW, hsame.mono (by decide) (by decide)⟩
      · exact retI X0 hx Bd.returns (hb hby d4_23) hr
      · show Q4 Z q0 q1 q2 h0 n0 _ s₁.heap _
        rw [e0]
        exact ⟨by unfold own_reach; rw [if_neg hc8, if_pos hc17], N0, rfl⟩
    · have sg21 : ∀ t, own_S p e below s₁ (mkF m 21 (own_AJWJWJW q0 q1 q2) [(.int (1 : Int32))]) t → own_S p e below s₁ (mkF m 17 (own_AJWJWJW q0 q1 q2) [(.int (lcmpW q0 (q1 - q2)))]) t := by
        intro t k
        show own_S p e below s₁ (mkF m 17 (own_AJWJWJW q0 q1 q2) [(.int (lcmpW q0 (q1 - q2)))]) _
        refine XS.ifNo X0.here hx rfl (hb hby d4_17) rfl ((if0 _ _).trans (flt hc17).2.2.1) ?_
        show own_S p e below s₁ (mkF m 20 (own_AJWJWJW q0 q1 q2) []) _
        refine XS.iconst X0.here hx rfl (hb hby d4_20) ?_
        exact k
      refine own_by sg21 ?_
      obtain ⟨fs, hr, hrun, hended, hW, hsame⟩ := X0.leave (v := some (.int (1 : Int32))) (fun h => by rw [Bd.returns] at h; cases h)
      refine ⟨_, _, ?_, hrun, hended, _, _, rfl, ?_, ⟨_, rfl⟩, hW, hsame.mono (by decide) (by decide)⟩
      · exact retI X0 hx Bd.returns (hb hby d4_21) hr
      · show Q4 Z q0 q1 q2 h0 n0 _ s₁.heap _
        rw [e0]
        exact ⟨by unfold own_reach; rw [if_neg hc8, if_neg hc17], N0, rfl⟩
theorem d1_0 : decode method_2_code 0 = .ok (.iload_n 0, 1) := by decide +kernel
theorem d1_1 : decode method_2_code 1 = .ok (.ifCond .ne 5, 3) := by decide +kernel
theorem d1_4 : decode method_2_code 4 = .ok (.lconst 0, 1) := by decide +kernel
theorem d1_5 : decode method_2_code 5 = .ok (.lreturn, 1) := by decide +kernel
theorem d1_6 : decode method_2_code 6 = .ok (.iload_n 0, 1) := by decide +kernel
theorem d1_7 : decode method_2_code 7 = .ok (.iconst 1, 1) := by decide +kernel
theorem d1_8 : decode method_2_code 8 = .ok (.if_icmp .ne 7, 3) := by decide +kernel
theorem d1_11 : decode method_2_code 11 = .ok (.ldc2_w 7, 3) := by decide +kernel
theorem d1_14 : decode method_2_code 14 = .ok (.lreturn, 1) := by decide +kernel
theorem d1_15 : decode method_2_code 15 = .ok (.iload_n 0, 1) := by decide +kernel
theorem d1_16 : decode method_2_code 16 = .ok (.iconst 2, 1) := by decide +kernel
theorem d1_17 : decode method_2_code 17 = .ok (.if_icmp .ne 7, 3) := by decide +kernel
theorem d1_20 : decode method_2_code 20 = .ok (.ldc2_w 9, 3) := by decide +kernel
theorem d1_23 : decode method_2_code 23 = .ok (.lreturn, 1) := by decide +kernel
theorem d1_24 : decode method_2_code 24 = .ok (.iload_n 0, 1) := by decide +kernel
theorem d1_25 : decode method_2_code 25 = .ok (.iconst 3, 1) := by decide +kernel
theorem d1_26 : decode method_2_code 26 = .ok (.if_icmp .ne 7, 3) := by decide +kernel
theorem d1_29 : decode method_2_code 29 = .ok (.ldc2_w 11, 3) := by decide +kernel
theorem d1_32 : decode method_2_code 32 = .ok (.lreturn, 1) := by decide +kernel
theorem d1_33 : decode method_2_code 33 = .ok (.iload_n 0, 1) := by decide +kernel
theorem d1_34 : decode method_2_code 34 = .ok (.iconst 4, 1) := by decide +kernel
theorem d1_35 : decode method_2_code 35 = .ok (.if_icmp .ne 7, 3) := by decide +kernel
theorem d1_38 : decode method_2_code 38 = .ok (.ldc2_w 13, 3) := by decide +kernel
theorem d1_41 : decode method_2_code 41 = .ok (.lreturn, 1) := by decide +kernel
theorem d1_42 : decode method_2_code 42 = .ok (.iload_n 0, 1) := by decide +kernel
theorem d1_43 : decode method_2_code 43 = .ok (.iconst 5, 1) := by decide +kernel
theorem d1_44 : decode method_2_code 44 = .ok (.if_icmp .ne 7, 3) := by decide +kernel
theorem d1_47 : decode method_2_code 47 = .ok (.ldc2_w 15, 3) := by decide +kernel
theorem d1_50 : decode method_2_code 50 = .ok (.lreturn, 1) := by decide +kernel
theorem d1_51 : decode method_2_code 51 = .ok (.iload_n 0, 1) := by decide +kernel
theorem d1_52 : decode method_2_code 52 = .ok (.bipush 6, 2) := by decide +kernel
theorem d1_54 : decode method_2_code 54 = .ok (.if_icmp .ne 7, 3) := by decide +kernel
theorem d1_57 : decode method_2_code 57 = .ok (.ldc2_w 17, 3) := by decide +kernel
theorem d1_60 : decode method_2_code 60 = .ok (.lreturn, 1) := by decide +kernel
theorem d1_61 : decode method_2_code 61 = .ok (.iload_n 0, 1) := by decide +kernel
theorem d1_62 : decode method_2_code 62 = .ok (.bipush 7, 2) := by decide +kernel
theorem d1_64 : decode method_2_code 64 = .ok (.if_icmp .ne 7, 3) := by decide +kernel
theorem d1_67 : decode method_2_code 67 = .ok (.ldc2_w 19, 3) := by decide +kernel
theorem d1_70 : decode method_2_code 70 = .ok (.lreturn, 1) := by decide +kernel
theorem d1_71 : decode method_2_code 71 = .ok (.ldc2_w 21, 3) := by decide +kernel
theorem d1_74 : decode method_2_code 74 = .ok (.lreturn, 1) := by decide +kernel
theorem pn_1 : plainFor (⟨"com/example/reverie/reverie/FusedScoreBucketPinLaw", "edge", "(I)J"⟩ : MethodName) = true := by first | exact plainFor_of_name (by first | (simp [plainName, overriddenIn]; done) | decide +kernel) | decide +kernel | exact Jvm.Free.JP.mathPlain rfl (by decide +kernel)
theorem ef_1 (m : MethodId) (p0 : Int32) : entryFrame m #[(.int p0)] 1 = mkF m 0 #[.val (.int p0)] [] := by first | (simp [entryFrame, mkF, argsToLocals, Value.category]; done) | rfl
def Q1 (Z : State) (p0 : Int32) (h0 : Heap) (n0 : Nat) (v : Option Value) (h : Heap) (L : List Loc) : Prop := ∃ z, v = some (.long z) ∧ Fr n0 L ∧ h = h0
set_option maxRecDepth 65536 in
set_option maxHeartbeats 40000000 in
theorem rm1 (l : Launch) (Z : State) (a0 : Array Value) (hw : ∀ d ∈ tables_1, d.before a0 Z = true) (ws : List Jvm.Cond) (p0 : Int32) (h0 : Heap) (n0 : Nat) (Z0 : n0 ≤ h0.size) :
    MetFree l (⟨"com/example/reverie/reverie/FusedScoreBucketPinLaw", "edge", "(I)J"⟩ : MethodName) (head1 (Jvm.Cond.code (⟨"com/example/reverie/reverie/FusedScoreBucketPinLaw", "edge", "(I)J"⟩ : MethodName) method_2_code 1 (some .long) :: ws) ({ frames := 0, cells := 0, slots := 0, locals := 0 } : Room)) (fun a U => a = #[(.int p0)] ∧ Z.Warmed39 U.vm ∧ U.heap = h0) (fun _ _ _ _ _ => True) (fun _ U o U' => ∃ v L, o = .returned v ∧ Q1 Z p0 h0 n0 v U'.heap L ∧ FrameEnd U o U' L ({ frames := 0, cells := 0, slots := 0, locals := 0 } : Room).cells ({ frames := 0, cells := 0, slots := 0, locals := 0 } : Room).slots) := by
  refine MetFree.of_bodySF pn_1 hisR ?_
  intro p e s m args below meth c s₁ Bd hml0 hP hK
  obtain ⟨rfl, hZ, hh⟩ := hP
  have hx := Bd.exec
  have hby := Bd.bytes
  have hml : c.maxLocals = 1 := hml0
  have hown : s.vm.findClass "com/example/reverie/reverie/FusedScoreBucketPinLaw" = some m.cls := findClass_of_methodNamed Bd.named
  have hnm := (name_of_methodNamed Bd.named Bd.method).1
  have X0 : Stand p l e ({ frames := 0, cells := 0, slots := 0, locals := 0 } : Room) s m #[(.int p0)] below meth c s₁ [] 0 0 := Stand.of_body Bd
  have e0 : s₁.heap = h0 := by rw [← hh, Bd.state]; rfl
  have N0 := Fr.nil n0
  refine own_at (castTop (ef_1 m p0)) ?_
  have sg1 : ∀ t, own_S p e below s₁ (mkF m 1 #[.val (.int p0)] [(.int p0)]) t → own_S p e below s₁ (mkF m 0 #[.val (.int p0)] []) t := by
    intro t k
    show own_S p e below s₁ (mkF m 0 #[.val (.int p0)] []) _
    refine XS.iloadN X0.here hx rfl (hb hby d1_0) rfl ?_
    exact k
  refine own_by sg1 ?_
  by_cases hc1 : p0 = (0 : Int32)
  · have sg5 : ∀ t, own_S p e below s₁ (mkF m 5 #[.val (.int p0)] [(.long (0 : Int64))]) t → own_S p e below s₁ (mkF m 1 #[.val (.int p0)] [(.int p0)]) t := by
      intro t k
      show own_S p e below s₁ (mkF m 1 #[.val (.int p0)] [(.int p0)]) _
      refine XS.ifNo X0.here hx rfl (hb hby d1_1) rfl ((if0 _ _).trans (teq hc1).2) ?_
      show own_S p e below s₁ (mkF m 4 #[.val (.int p0)] []) _
      refine XS.lconst X0.here hx rfl (hb hby d1_4) ?_
      exact k
    refine own_by sg5 ?_
    obtain ⟨fs, hr, hrun, hended, hW, hsame⟩ := X0.leave (v := some (.long (0 : Int64))) (fun h => by rw [Bd.returns] at h; cases h)
    refine ⟨_, _, ?_, hrun, hended, _, _, rfl, ?_, ⟨_, rfl⟩, hW, hsame.mono (by decide) (by decide)⟩
    · exact X0.lreturnOut hx Bd.returns (hb hby d1_5) hr
    · show Q1 Z p0 h0 n0 _ s₁.heap _
      rw [e0]
      exact ⟨_, rfl, N0, rfl⟩
  · have sg8 : ∀ t, own_S p e below s₁ (mkF m 8 #[.val (.int p0)] [(.int (1 : Int32)), (.int p0)]) t → own_S p e below s₁ (mkF m 1 #[.val (.int p0)] [(.int p0)]) t := by
      intro t k
      show own_S p e below s₁ (mkF m 1 #[.val (.int p0)] [(.int p0)]) _
      refine XS.ifYes X0.here hx rfl (pc0 := 1) (pc' := 6) rfl (hb hby d1_1) rfl ((if0 _ _).trans (feq hc1).2) (by decide) (by decide) ?_
      show own_S p e below s₁ (mkF m 6 #[.val (.int p0)] []) _
      refine XS.iloadN X0.here hx rfl (hb hby d1_6) rfl ?_
      show own_S p e below s₁ (mkF m 7 #[.val (.int p0)] [(.int p0)]) _
      refine XS.iconst X0.here hx rfl (hb hby d1_7) ?_
      exact k
    refine own_by sg8 ?_
    by_cases hc8 : p0 = (1 : Int32)
    · have sg14 : ∀ t, own_S p e below s₁ (mkF m 14 #[.val (.int p0)] [(.long (3600000 : Int64))]) t → own_S p e below s₁ (mkF m 8 #[.val (.int p0)] [(.int (1 : Int32)), (.int p0)]) t := by
        intro t k
        show own_S p e below s₁ (mkF m 8 #[.val (.int p0)] [(.int (1 : Int32)), (.int p0)]) _
        refine XS.icmpNo X0.here hx rfl (hb hby d1_8) rfl (teq hc8).2 ?_
        show own_S p e below s₁ (mkF m 11 #[.val (.int p0)] []) _
        refine X0.ldc2Long hx hown (mvT hZ (hw _ (List.mem_of_getElem? (i := 13) rfl))) (g := (mkF m 11 #[.val (.int p0)] [])) rfl (hb hby d1_11) _ ?_
        exact k
      refine own_by sg14 ?_
      obtain ⟨fs, hr, hrun, hended, hW, hsame⟩ := X0.leave (v := some (.long (3600000 : Int64))) (fun h => by rw [Bd.returns] at h; cases h)
      refine ⟨_, _, ?_, hrun, hended, _, _, rfl, ?_, ⟨_, rfl⟩, hW, hsame.mono (by decide) (by decide)⟩
      · exact X0.lreturnOut hx Bd.returns (hb hby d1_14) hr
      · show Q1 Z p0 h0 n0 _ s₁.heap _
        rw [e0]
        exact ⟨_, rfl, N0, rfl⟩
    · have sg17 : ∀ t, own_S p e below s₁ (mkF m 17 #[.val (.int p0)] [(.int (2 : Int32)), (.int p0)]) t → own_S p e below s₁ (mkF m 8 #[.val (.int p0)] [(.int (1 : Int32)), (.int p0)]) t := by
        intro t k
        show own_S p e below s₁ (mkF m 8 #[.val (.int p0)] [(.int (1 : Int32)), (.int p0)]) _
        refine XS.icmpYes X0.here hx rfl (pc0 := 8) (pc' := 15) rfl (hb hby d1_8) rfl (feq hc8).2 (by decide) (by decide) ?_
        show own_S p e below s₁ (mkF m 15 #[.val (.int p0)] []) _
        refine XS.iloadN X0.here hx rfl (hb hby d1_15) rfl ?_
        show own_S p e below s₁ (mkF m 16 #[.val (.int p0)] [(.int p0)]) _
        refine XS.iconst X0.here hx rfl (hb hby d1_16) ?_
        exact k
      refine own_by sg17 ?_
      by_cases hc17 : p0 = (2 : Int32)
      · have sg23 : ∀ t, own_S p e below s₁ (mkF m 23 #[.val (.int p0)] [(.long (21600000 : Int64))]) t → own_S p e below s₁ (mkF m 17 #[.val (.int p0)] [(.int (2 : Int32)), (.int p0)]) t := by
          intro t k
          show own_S p e below s₁ (mkF m 17 #[.val (.int p0)] [(.int (2 : Int32)), (.int p0)]) _
          refine XS.icmpNo X0.here hx rfl (hb hby d1_17) rfl (teq hc17).2 ?_
          show own_S p e below s₁ (mkF m 20 #[.val (.int p0)] []) _
          refine X0.ldc2Long hx hown (mvT hZ (hw _ (List.mem_of_getElem? (i := 27) rfl))) (g := (mkF m 20 #[.val (.int p0)] [])) rfl (hb hby d1_20) _ ?_
          exact k
        refine own_by sg23 ?_
        obtain ⟨fs, hr, hrun, hended, hW, hsame⟩ := X0.leave (v := some (.long (21600000 : Int64))) (fun h => by rw [Bd.returns] at h; cases h)
        refine ⟨_, _, ?_, hrun, hended, _, _, rfl, ?_, ⟨_, rfl⟩, hW, hsame.mono (by decide) (by decide)⟩
        · exact X0.lreturnOut hx Bd.returns (hb hby d1_23) hr
        · show Q1 Z p0 h0 n0 _ s₁.heap _
          rw [e0]
          exact ⟨_, rfl, N0, rfl⟩
      · have sg26 : ∀ t, own_S p e below s₁ (mkF m 26 #[.val (.int p0)] [(.int (3 : Int32)), (.int p0)]) t → own_S p e below s₁ (mkF m 17 #[.val (.int p0)] [(.int (2 : Int32)), (.int p0)]) t := by
          intro t k
          show own_S p e below s₁ (mkF m 17 #[.val (.int p0)] [(.int (2 : Int32)), (.int p0)]) _
          refine XS.icmpYes X0.here hx rfl (pc0 := 17) (pc' := 24) rfl (hb hby d1_17) rfl (feq hc17).2 (by decide) (by decide) ?_
          show own_S p e below s₁ (mkF m 24 #[.val (.int p0)] []) _
          refine XS.iloadN X0.here hx rfl (hb hby d1_24) rfl ?_
          show own_S p e below s₁ (mkF m 25 #[.val (.int p0)] [(.int p0)]) _
          refine XS.iconst X0.here hx rfl (hb hby d1_25) ?_
          exact k
        refine own_by sg26 ?_
        by_cases hc26 : p0 = (3 : Int32)
        · have sg32 : ∀ t, own_S p e below s₁ (mkF m 32 #[.val (.int p0)] [(.long (86400000 : Int64))]) t → own_S p e below s₁ (mkF m 26 #[.val (.int p0)] [(.int (3 : Int32)), (.int p0)]) t := by
            intro t k
            show own_S p e below s₁ (mkF m 26 #[.val (.int p0)] [(.int (3 : Int32)), (.int p0)]) _
            refine XS.icmpNo X0.here hx rfl (hb hby d1_26) rfl (teq hc26).2 ?_
            show own_S p e below s₁ (mkF m 29 #[.val (.int p0)] []) _
            refine X0.ldc2Long hx hown (mvT hZ (hw _ (List.mem_of_getElem? (i := 26) rfl))) (g := (mkF m 29 #[.val (.int p0)] [])) rfl (hb hby d1_29) _ ?_
            exact k
          refine own_by sg32 ?_
          obtain ⟨fs, hr, hrun, hended, hW, hsame⟩ := X0.leave (v := some (.long (86400000 : Int64))) (fun h => by rw [Bd.returns] at h; cases h)
          refine ⟨_, _, ?_, hrun, hended, _, _, rfl, ?_, ⟨_, rfl⟩, hW, hsame.mono (by decide) (by decide)⟩
          · exact X0.lreturnOut hx Bd.returns (hb hby d1_32) hr
          · show Q1 Z p0 h0 n0 _ s₁.heap _
            rw [e0]
            exact ⟨_, rfl, N0, rfl⟩
        · have sg35 : ∀ t, own_S p e below s₁ (mkF m 35 #[.val (.int p0)] [(.int (4 : Int32)), (.int p0)]) t → own_S p e below s₁ (mkF m 26 #[.val (.int p0)] [(.int (3 : Int32)), (.int p0)]) t := by
            intro t k
            show own_S p e below s₁ (mkF m 26 #[.val (.int p0)] [(.int (3 : Int32)), (.int p0)]) _
            refine XS.icmpYes X0.here hx rfl (pc0 := 26) (pc' := 33) rfl (hb hby d1_26) rfl (feq hc26).2 (by decide) (by decide) ?_
            show own_S p e below s₁ (mkF m 33 #[.val (.int p0)] []) _
            refine XS.iloadN X0.here hx rfl (hb hby d1_33) rfl ?_
            show own_S p e below s₁ (mkF m 34 #[.val (.int p0)] [(.int p0)]) _
            refine XS.iconst X0.here hx rfl (hb hby d1_34) ?_
            exact k
          refine own_by sg35 ?_
          by_cases hc35 : p0 = (4 : Int32)
          · have sg41 : ∀ t, own_S p e below s₁ (mkF m 41 #[.val (.int p0)] [(.long (259200000 : Int64))]) t → own_S p e below s₁ (mkF m 35 #[.val (.int p0)] [(.int (4 : Int32)), (.int p0)]) t := by
              intro t k
              show own_S p e below s₁ (mkF m 35 #[.val (.int p0)] [(.int (4 : Int32)), (.int p0)]) _
              refine XS.icmpNo X0.here hx rfl (hb hby d1_35) rfl (teq hc35).2 ?_
              show own_S p e below s₁ (mkF m 38 #[.val (.int p0)] []) _
              refine X0.ldc2Long hx hown (mvT hZ (hw _ (List.mem_of_getElem? (i := 25) rfl))) (g := (mkF m 38 #[.val (.int p0)] [])) rfl (hb hby d1_38) _ ?_
              exact k
            refine own_by sg41 ?_
            obtain ⟨fs, hr, hrun, hended, hW, hsame⟩ := X0.leave (v := some (.long (259200000 : Int64))) (fun h => by rw [Bd.returns] at h; cases h)
            refine ⟨_, _, ?_, hrun, hended, _, _, rfl, ?_, ⟨_, rfl⟩, hW, hsame.mono (by decide) (by decide)⟩
            · exact X0.lreturnOut hx Bd.returns (hb hby d1_41) hr
            · show Q1 Z p0 h0 n0 _ s₁.heap _
              rw [e0]
              exact ⟨_, rfl, N0, rfl⟩
          · have sg44 : ∀ t, own_S p e below s₁ (mkF m 44 #[.val (.int p0)] [(.int (5 : Int32)), (.int p0)]) t → own_S p e below s₁ (mkF m 35 #[.val (.int p0)] [(.int (4 : Int32)), (.int p0)]) t := by
              intro t k
              show own_S p e below s₁ (mkF m 35 #[.val (.int p0)] [(.int (4 : Int32)), (.int p0)]) _
              refine XS.icmpYes X0.here hx rfl (pc0 := 35) (pc' := 42) rfl (hb hby d1_35) rfl (feq hc35).2 (by decide) (by decide) ?_
              show own_S p e below s₁ (mkF m 42 #[.val (.int p0)] []) _
              refine XS.iloadN X0.here hx rfl (hb hby d1_42) rfl ?_
              show own_S p e below s₁ (mkF m 43 #[.val (.int p0)] [(.int p0)]) _
              refine XS.iconst X0.here hx rfl (hb hby d1_43) ?_
              exact k
            refine own_by sg44 ?_
            by_cases hc44 : p0 = (5 : Int32)
            · have sg50 : ∀ t, own_S p e below s₁ (mkF m 50 #[.val (.int p0)] [(.long (604800000 : Int64))]) t → own_S p e below s₁ (mkF m 44 #[.val (.int p0)] [(.int (5 : Int32)), (.int p0)]) t := by
                intro t k
                show own_S p e below s₁ (mkF m 44 #[.val (.int p0)] [(.int (5 : Int32)), (.int p0)]) _
                refine XS.icmpNo X0.here hx rfl (hb hby d1_44) rfl (teq hc44).2 ?_
                show own_S p e below s₁ (mkF m 47 #[.val (.int p0)] []) _
                refine X0.ldc2Long hx hown (mvT hZ (hw _ (List.mem_of_getElem? (i := 31) rfl))) (g := (mkF m 47 #[.val (.int p0)] [])) rfl (hb hby d1_47) _ ?_
                exact k
              refine own_by sg50 ?_
              obtain ⟨fs, hr, hrun, hended, hW, hsame⟩ := X0.leave (v := some (.long (604800000 : Int64))) (fun h => by rw [Bd.returns] at h; cases h)
              refine ⟨_, _, ?_, hrun, hended, _, _, rfl, ?_, ⟨_, rfl⟩, hW, hsame.mono (by decide) (by decide)⟩
              · exact X0.lreturnOut hx Bd.returns (hb hby d1_50) hr
              · show Q1 Z p0 h0 n0 _ s₁.heap _
                rw [e0]
                exact ⟨_, rfl, N0, rfl⟩
            · have sg54 : ∀ t, own_S p e below s₁ (mkF m 54 #[.val (.int p0)] [(.int (6 : Int32)), (.int p0)]) t → own_S p e below s₁ (mkF m 44 #[.val (.int p0)] [(.int (5 : Int32)), (.int p0)]) t := by
                intro t k
                show own_S p e below s₁ (mkF m 44 #[.val (.int p0)] [(.int (5 : Int32)), (.int p0)]) _
                refine XS.icmpYes X0.here hx rfl (pc0 := 44) (pc' := 51) rfl (hb hby d1_44) rfl (feq hc44).2 (by decide) (by decide) ?_
                show own_S p e below s₁ (mkF m 51 #[.val (.int p0)] []) _
                refine XS.iloadN X0.here hx rfl (hb hby d1_51) rfl ?_
                show own_S p e below s₁ (mkF m 52 #[.val (.int p0)] [(.int p0)]) _
                refine XS.bipush X0.here hx rfl (hb hby d1_52) ?_
                exact k
              refine own_by sg54 ?_
              by_cases hc54 : p0 = (6 : Int32)
              · have sg60 : ∀ t, own_S p e below s₁ (mkF m 60 #[.val (.int p0)] [(.long (1209600000 : Int64))]) t → own_S p e below s₁ (mkF m 54 #[.val (.int p0)] [(.int (6 : Int32)), (.int p0)]) t := by
                  intro t k
                  show own_S p e below s₁ (mkF m 54 #[.val (.int p0)] [(.int (6 : Int32)), (.int p0)]) _
                  refine XS.icmpNo X0.here hx rfl (hb hby d1_54) rfl (teq hc54).2 ?_
                  show own_S p e below s₁ (mkF m 57 #[.val (.int p0)] []) _
                  refine X0.ldc2Long hx hown (mvT hZ (hw _ (List.mem_of_getElem? (i := 28) rfl))) (g := (mkF m 57 #[.val (.int p0)] [])) rfl (hb hby d1_57) _ ?_
                  exact k
                refine own_by sg60 ?_
                obtain ⟨fs, hr, hrun, hended, hW, hsame⟩ := X0.leave (v := some (.long (1209600000 : Int64))) (fun h => by rw [Bd.returns] at h; cases h)
                refine ⟨_, _, ?_, hrun, hended, _, _, rfl, ?_, ⟨_, rfl⟩, hW, hsame.mono (by decide) (by decide)⟩
                · exact X0.lreturnOut hx Bd.returns (hb hby d1_60) hr
                · show Q1 Z p0 h0 n0 _ s₁.heap _
                  rw [e0]
                  exact ⟨_, rfl, N0, rfl⟩
              · have sg64 : ∀ t, own_S p e below s₁ (mkF m 64 #[.val (.int p0)] [(.int (7 : Int32)), (.int p0)]) t → own_S p e below s₁ (mkF m 54 #[.val (.int p0)] [(.int (6 : Int32)), (.int p0)]) t := by
                  intro t k
                  show own_S p e below s₁ (mkF m 54 #[.val (.int p0)] [(.int (6 : Int32)), (.int p0)]) _
                  refine XS.icmpYes X0.here hx rfl (pc0 := 54) (pc' := 61) rfl (hb hby d1_54) rfl (feq hc54).2 (by decide) (by decide) ?_
                  show own_S p e below s₁ (mkF m 61 #[.val (.int p0)] []) _
                  refine XS.iloadN X0.here hx rfl (hb hby d1_61) rfl ?_
                  show own_S p e below s₁ (mkF m 62 #[.val (.int p0)] [(.int p0)]) _
                  refine XS.bipush X0.here hx rfl (hb hby d1_62) ?_
                  exact k
                refine own_by sg64 ?_
                by_cases hc64 : p0 = (7 : Int32)
                · have sg70 : ∀ t, own_S p e below s₁ (mkF m 70 #[.val (.int p0)] [(.long (2419200000 : Int64))]) t → own_S p e below s₁ (mkF m 64 #[.val (.int p0)] [(.int (7 : Int32)), (.int p0)]) t := by
                    intro t k
                    show own_S p e below s₁ (mkF m 64 #[.val (.int p0)] [(.int (7 : Int32)), (.int p0)]) _
                    refine XS.icmpNo X0.here hx rfl (hb hby d1_64) rfl (teq hc64).2 ?_
                    show own_S p e below s₁ (mkF m 67 #[.val (.int p0)] []) _
                    refine X0.ldc2Long hx hown (mvT hZ (hw _ (List.mem_of_getElem? (i := 29) rfl))) (g := (mkF m 67 #[.val (.int p0)] [])) rfl (hb hby d1_67) _ ?_
                    exact k
                  refine own_by sg70 ?_
                  obtain ⟨fs, hr, hrun, hended, hW, hsame⟩ := X0.leave (v := some (.long (2419200000 : Int64))) (fun h => by rw [Bd.returns] at h; cases h)
                  refine ⟨_, _, ?_, hrun, hended, _, _, rfl, ?_, ⟨_, rfl⟩, hW, hsame.mono (by decide) (by decide)⟩
                  · exact X0.lreturnOut hx Bd.returns (hb hby d1_70) hr
                  · show Q1 Z p0 h0 n0 _ s₁.heap _
                    rw [e0]
                    exact ⟨_, rfl, N0, rfl⟩
                · have sg74 : ∀ t, own_S p e below s₁ (mkF m 74 #[.val (.int p0)] [(.long (7776000000 : Int64))]) t → own_S p e below s₁ (mkF m 64 #[.val (.int p0)] [(.int (7 : Int32)), (.int p0)]) t := by
                    intro t k
                    show own_S p e below s₁ (mkF m 64 #[.val (.int p0)] [(.int (7 : Int32)), (.int p0)]) _
                    refine XS.icmpYes X0.here hx rfl (pc0 := 64) (pc' := 71) rfl (hb hby d1_64) rfl (feq hc64).2 (by decide) (by decide) ?_
                    show own_S p e below s₁ (mkF m 71 #[.val (.int p0)] []) _
                    refine X0.ldc2Long hx hown (mvT hZ (hw _ (List.mem_of_getElem? (i := 30) rfl))) (g := (mkF m 71 #[.val (.int p0)] [])) rfl (hb hby d1_71) _ ?_
                    exact k
                  refine own_by sg74 ?_
                  obtain ⟨fs, hr, hrun, hended, hW, hsame⟩ := X0.leave (v := some (.long (7776000000 : Int64))) (fun h => by rw [Bd.returns] at h; cases h)
                  refine ⟨_, _, ?_, hrun, hended, _, _, rfl, ?_, ⟨_, rfl⟩, hW, hsame.mono (by decide) (by decide)⟩
                  · exact X0.lreturnOut hx Bd.returns (hb hby d1_74) hr
                  · show Q1 Z p0 h0 n0 _ s₁.heap _
                    rw [e0]
                    exact ⟨_, rfl, N0, rfl⟩
theorem d3_0 : decode method_4_code 0 = .ok (.ldc2_w 7, 3) := by decide +kernel
theorem d3_3 : decode method_4_code 3 = .ok (.lstore 4, 2) := by decide +kernel
theorem d3_5 : decode method_4_code 5 = .ok (.lload_n 0, 1) := by decide +kernel
theorem d3_6 : decode method_4_code 6 = .ok (.lload_n 2, 1) := by decide +kernel
theorem d3_7 : decode method_4_code 7 = .ok (.lload 4, 2) := by decide +kernel
theorem d3_9 : decode method_4_code 9 = .ok (.invokestatic 27, 3) := by decide +kernel
theorem d3_12 : decode method_4_code 12 = .ok (.lload_n 0, 1) := by decide +kernel
theorem d3_13 : decode method_4_code 13 = .ok (.lload_n 2, 1) := by decide +kernel
theorem d3_14 : decode method_4_code 14 = .ok (.ldc2_w 33, 3) := by decide +kernel
theorem d3_17 : decode method_4_code 17 = .ok (.lload 4, 2) := by decide +kernel
theorem d3_19 : decode method_4_code 19 = .ok (.lmul, 1) := by decide +kernel
theorem d3_20 : decode method_4_code 20 = .ok (.invokestatic 27, 3) := by decide +kernel
theorem d3_23 : decode method_4_code 23 = .ok (.iadd, 1) := by decide +kernel
theorem d3_24 : decode method_4_code 24 = .ok (.lload_n 0, 1) := by decide +kernel
theorem d3_25 : decode method_4_code 25 = .ok (.lload_n 2, 1) := by decide +kernel
theorem d3_26 : decode method_4_code 26 = .ok (.ldc2_w 35, 3) := by decide +kernel
theorem d3_29 : decode method_4_code 29 = .ok (.lload 4, 2) := by decide +kernel
theorem d3_31 : decode method_4_code 31 = .ok (.lmul, 1) := by decide +kernel
theorem d3_32 : decode method_4_code 32 = .ok (.invokestatic 27, 3) := by decide +kernel
theorem d3_35 : decode method_4_code 35 = .ok (.iadd, 1) := by decide +kernel
theorem d3_36 : decode method_4_code 36 = .ok (.lload_n 0, 1) := by decide +kernel
theorem d3_37 : decode method_4_code 37 = .ok (.lload_n 2, 1) := by decide +kernel
theorem d3_38 : decode method_4_code 38 = .ok (.ldc2_w 37, 3) := by decide +kernel
theorem d3_41 : decode method_4_code 41 = .ok (.lload 4, 2) := by decide +kernel
theorem d3_43 : decode method_4_code 43 = .ok (.lmul, 1) := by decide +kernel
theorem d3_44 : decode method_4_code 44 = .ok (.invokestatic 27, 3) := by decide +kernel
theorem d3_47 : decode method_4_code 47 = .ok (.iadd, 1) := by decide +kernel
theorem d3_48 : decode method_4_code 48 = .ok (.lload_n 0, 1) := by decide +kernel
theorem d3_49 : decode method_4_code 49 = .ok (.lload_n 2, 1) := by decide +kernel
theorem d3_50 : decode method_4_code 50 = .ok (.ldc2_w 39, 3) := by decide +kernel
theorem d3_53 : decode method_4_code 53 = .ok (.lload 4, 2) := by decide +kernel
theorem d3_55 : decode method_4_code 55 = .ok (.lmul, 1) := by decide +kernel
theorem d3_56 : decode method_4_code 56 = .ok (.invokestatic 27, 3) := by decide +kernel
theorem d3_59 : decode method_4_code 59 = .ok (.iadd, 1) := by decide +kernel
theorem d3_60 : decode method_4_code 60 = .ok (.lload_n 0, 1) := by decide +kernel
theorem d3_61 : decode method_4_code 61 = .ok (.lload_n 2, 1) := by decide +kernel
theorem d3_62 : decode method_4_code 62 = .ok (.ldc2_w 41, 3) := by decide +kernel
theorem d3_65 : decode method_4_code 65 = .ok (.lload 4, 2) := by decide +kernel
theorem d3_67 : decode method_4_code 67 = .ok (.lmul, 1) := by decide +kernel
theorem d3_68 : decode method_4_code 68 = .ok (.invokestatic 27, 3) := by decide +kernel
theorem d3_71 : decode method_4_code 71 = .ok (.iadd, 1) := by decide +kernel
theorem d3_72 : decode method_4_code 72 = .ok (.lload_n 0, 1) := by decide +kernel
theorem d3_73 : decode method_4_code 73 = .ok (.lload_n 2, 1) := by decide +kernel
theorem d3_74 : decode method_4_code 74 = .ok (.ldc2_w 43, 3) := by decide +kernel
theorem d3_77 : decode method_4_code 77 = .ok (.lload 4, 2) := by decide +kernel
theorem d3_79 : decode method_4_code 79 = .ok (.lmul, 1) := by decide +kernel
theorem d3_80 : decode method_4_code 80 = .ok (.invokestatic 27, 3) := by decide +kernel
theorem d3_83 : decode method_4_code 83 = .ok (.iadd, 1) := by decide +kernel
theorem d3_84 : decode method_4_code 84 = .ok (.lload_n 0, 1) := by decide +kernel
theorem d3_85 : decode method_4_code 85 = .ok (.lload_n 2, 1) := by decide +kernel
theorem d3_86 : decode method_4_code 86 = .ok (.ldc2_w 45, 3) := by decide +kernel
theorem d3_89 : decode method_4_code 89 = .ok (.lload 4, 2) := by decide +kernel
theorem d3_91 : decode method_4_code 91 = .ok (.lmul, 1) := by decide +kernel
theorem d3_92 : decode method_4_code 92 = .ok (.invokestatic 27, 3) := by decide +kernel
theorem d3_95 : decode method_4_code 95 = .ok (.iadd, 1) := by decide +kernel
theorem d3_96 : decode method_4_code 96 = .ok (.ireturn, 1) := by decide +kernel
theorem pn_3 : plainFor (⟨"com/example/reverie/reverie/FusedScoreBucketPinLaw", "ref", "(JJ)I"⟩ : MethodName) = true := by first | exact plainFor_of_name (by first | (simp [plainName, overriddenIn]; done) | decide +kernel) | decide +kernel | exact Jvm.Free.JP.mathPlain rfl (by decide +kernel)
theorem pd_3_0 : parseMethodDescriptor "(JJJ)I" = some ⟨[.long, .long, .long], some .int⟩ := by decide +kernel
theorem ef_3 (m : MethodId) (q0 : Int64) (q1 : Int64) : entryFrame m #[(.long q0), (.long q1)] 6 = mkF m 0 #[.val (.long q0), .second, .val (.long q1), .second, .unset, .unset] [] := by first | (simp [entryFrame, mkF, argsToLocals, Value.category]; done) | rfl
def Q3 (Z : State) (q0 : Int64) (q1 : Int64) (h0 : Heap) (n0 : Nat) (v : Option Value) (h : Heap) (L : List Loc) : Prop := v = some (.int (own_ref q0 q1)) ∧ Fr n0 L ∧ h = h0
set_option maxRecDepth 65536 in
set_option maxHeartbeats 40000000 in
theorem rm3 (l : Launch) (Z : State) (a0 : Array Value) (hw : ∀ d ∈ tables_1, d.before a0 Z = true) (ws : List Jvm.Cond) (q0 : Int64) (q1 : Int64) (h0 : Heap) (n0 : Nat) (Z0 : n0 ≤ h0.size) :
    MetFree l (⟨"com/example/reverie/reverie/FusedScoreBucketPinLaw", "ref", "(JJ)I"⟩ : MethodName) (head1 (Jvm.Cond.code (⟨"com/example/reverie/reverie/FusedScoreBucketPinLaw", "ref", "(JJ)I"⟩ : MethodName) method_4_code 6 (some .int) :: ws) ({ frames := 1, cells := 0, slots := 0, locals := 18 } : Room)) (fun a U => a = #[(.long q0), (.long q1)] ∧ Z.Warmed39 U.vm ∧ U.heap = h0) (fun _ _ _ _ _ => True) (fun _ U o U' => ∃ v L, o = .returned v ∧ Q3 Z q0 q1 h0 n0 v U'.heap L ∧ FrameEnd U o U' L ({ frames := 1, cells := 0, slots := 0, locals := 18 } : Room).cells ({ frames := 1, cells := 0, slots := 0, locals := 18 } : Room).slots) := by
  refine MetFree.of_bodySF pn_3 hisR ?_
  intro p e s m args below meth c s₁ Bd hml0 hP hK
  obtain ⟨rfl, hZ, hh⟩ := hP
  have hx := Bd.exec
  have hby := Bd.bytes
  have hml : c.maxLocals = 6 := hml0
  have hown : s.vm.findClass "com/example/reverie/reverie/FusedScoreBucketPinLaw" = some m.cls := findClass_of_methodNamed Bd.named
  have hnm := (name_of_methodNamed Bd.named Bd.method).1
  have X0 : Stand p l e ({ frames := 1, cells := 0, slots := 0, locals := 18 } : Room) s m #[(.long q0), (.long q1)] below meth c s₁ [] 0 0 := Stand.of_body Bd
  have e0 : s₁.heap = h0 := by rw [← hh, Bd.state]; rfl
  have N0 := Fr.nil n0
  refine own_at (castTop (ef_3 m q0 q1)) ?_
  have sg9 : ∀ t, own_S p e below s₁ (mkF m 9 (own_AJWJWJW q0 q1 (3600000 : Int64)) [(.long (3600000 : Int64)), (.long q1), (.long q0)]) t → own_S p e below s₁ (mkF m 0 (own_AJWJWUU q0 q1) []) t := by
    intro t k
    show own_S p e below s₁ (mkF m 0 (own_AJWJWUU q0 q1) []) _
    refine X0.ldc2Long hx hown (mvT hZ (hw _ (List.mem_of_getElem? (i := 13) rfl))) (g := (mkF m 0 (own_AJWJWUU q0 q1) [])) rfl (hb hby d3_0) _ ?_
    show own_S p e below s₁ (mkF m 3 (own_AJWJWUU q0 q1) [(.long (3600000 : Int64))]) _
    refine XS.lstore X0.here hx rfl (hb hby d3_3) rfl (l' := (own_AJWJWJW q0 q1 (3600000 : Int64))) rfl ?_
    show own_S p e below s₁ (mkF m 5 (own_AJWJWJW q0 q1 (3600000 : Int64)) []) _
    refine XS.lloadN X0.here hx rfl (hb hby d3_5) rfl ?_
    show own_S p e below s₁ (mkF m 6 (own_AJWJWJW q0 q1 (3600000 : Int64)) [(.long q0)]) _
    refine XS.lloadN X0.here hx rfl (hb hby d3_6) rfl ?_
    show own_S p e below s₁ (mkF m 7 (own_AJWJWJW q0 q1 (3600000 : Int64)) [(.long q1), (.long q0)]) _
    refine XS.lload X0.here hx rfl (hb hby d3_7) rfl ?_
    exact k
  refine own_by sg9 ?_
  obtain ⟨_, _, ⟨T9, L9, k9, n9⟩, -, X9, ⟨Lc9, hQ9, l9, y9, z9⟩, st9⟩ := Jvm.LawKit.callS X0 hx (y := (⟨"com/example/reverie/reverie/FusedScoreBucketPinLaw", "reaches", "(JJJ)I"⟩ : MethodName)) hown (mvT hZ (hw _ (List.mem_of_getElem? (i := 14) rfl))) (mvT hZ (hw _ (List.mem_of_getElem? (i := 15) rfl))) (mvT hZ (hw _ (List.mem_of_getElem? (i := 2) rfl))) (mvT hZ (hw _ (List.mem_of_getElem? (i := 16) rfl))) (by decide) (backOf (W := 0) (rm4 l Z a0 hw [] q0 q1 (3600000 : Int64) h0 n0 Z0) hZ (hw _ (List.mem_of_getElem? (i := 16) rfl)) (hw _ (List.mem_of_getElem? (i := 2) rfl)) (by decide) (by decide)) (g := (mkF m 9 (own_AJWJWJW q0 q1 (3600000 : Int64)) [(.long (3600000 : Int64)), (.long q1), (.long q0)])) rfl (by rw [hml]; rfl) (argsL := [(.long q0), (.long q1), (.long (3600000 : Int64))]) (rest := []) (lenOf pd_3_0 rfl) rfl (by show 2 * 0 + _ ≤ _; exact Nat.le_of_eq rfl) (hb hby d3_9) (fun _ _ => ⟨rfl, e0, (by decide : 0 + 0 ≤ _), (by decide : 0 + 0 ≤ _)⟩)
  dsimp only [Pt.U, Pt.locs, Pt.cells, Pt.slots] at X9 l9 y9 z9 st9 hQ9
  subst l9 y9 z9
  obtain ⟨rfl, N9q, hq9⟩ := hQ9
  have N9 := Fr.app N0 N9q
  obtain ⟨c9, hc9⟩ : ∃ z : Int32, z = (own_reach q0 q1 (3600000 : Int64)) := ⟨_, rfl⟩
  rw [← hc9] at st9
  refine own_by st9 ?_
  have sg20 : ∀ t, own_S p e below T9 (mkF m 20 (own_AJWJWJW q0 q1 (3600000 : Int64)) [(.long ((6 : Int64) * (3600000 : Int64))), (.long q1), (.long q0), (.int c9)]) t → own_S p e below T9 (mkF m 12 (own_AJWJWJW q0 q1 (3600000 : Int64)) [(.int c9)]) t := by
    intro t k
    show own_S p e below T9 (mkF m 12 (own_AJWJWJW q0 q1 (3600000 : Int64)) [(.int c9)]) _
    refine XS.lloadN X9.here hx rfl (hb hby d3_12) rfl ?_
    show own_S p e below T9 (mkF m 13 (own_AJWJWJW q0 q1 (3600000 : Int64)) [(.long q0), (.int c9)]) _
    refine XS.lloadN X9.here hx rfl (hb hby d3_13) rfl ?_
    show own_S p e below T9 (mkF m 14 (own_AJWJWJW q0 q1 (3600000 : Int64)) [(.long q1), (.long q0), (.int c9)]) _
    refine X9.ldc2Long hx hown (mvT hZ (hw _ (List.mem_of_getElem? (i := 18) rfl))) (g := (mkF m 14 (own_AJWJWJW q0 q1 (3600000 : Int64)) [(.long q1), (.long q0), (.int c9)])) rfl (hb hby d3_14) _ ?_
    show own_S p e below T9 (mkF m 17 (own_AJWJWJW q0 q1 (3600000 : Int64)) [(.long (6 : Int64)), (.long q1), (.long q0), (.int c9)]) _
    refine XS.lload X9.here hx rfl (hb hby d3_17) rfl ?_
    show own_S p e below T9 (mkF m 19 (own_AJWJWJW q0 q1 (3600000 : Int64)) [(.long (3600000 : Int64)), (.long (6 : Int64)), (.long q1), (.long q0), (.int c9)]) _
    refine XS.lmul X9.here hx rfl (hb hby d3_19) rfl ?_
    exact k
  refine own_by sg20 ?_
  obtain ⟨_, _, ⟨T20, L20, k20, n20⟩, -, X20, ⟨Lc20, hQ20, l20, y20, z20⟩, st20⟩ := Jvm.LawKit.callS X9 hx (y := (⟨"com/example/reverie/reverie/FusedScoreBucketPinLaw", "reaches", "(JJJ)I"⟩ : MethodName)) hown (mvT hZ (hw _ (List.mem_of_getElem? (i := 14) rfl))) (mvT hZ (hw _ (List.mem_of_getElem? (i := 15) rfl))) (mvT hZ (hw _ (List.mem_of_getElem? (i := 2) rfl))) (mvT hZ (hw _ (List.mem_of_getElem? (i := 16) rfl))) (by decide) (backOf (W := 1) (rm4 l Z a0 hw [] q0 q1 ((6 : Int64) * (3600000 : Int64)) h0 n0 Z0) hZ (hw _ (List.mem_of_getElem? (i := 16) rfl)) (hw _ (List.mem_of_getElem? (i := 2) rfl)) (by decide) (by decide)) (g := (mkF m 20 (own_AJWJWJW q0 q1 (3600000 : Int64)) [(.long ((6 : Int64) * (3600000 : Int64))), (.long q1), (.long q0), (.int c9)])) rfl (by rw [hml]; rfl) (argsL := [(.long q0), (.long q1), (.long ((6 : Int64) * (3600000 : Int64)))]) (rest := [(.int c9)]) (lenOf pd_3_0 rfl) rfl (by show 2 * 0 + _ ≤ _; exact Nat.le_of_eq rfl) (hb hby d3_20) (fun _ _ => ⟨rfl, hq9, (by decide : 0 + 0 ≤ _), (by decide : 0 + 0 ≤ _)⟩)
  dsimp only [Pt.U, Pt.locs, Pt.cells, Pt.slots] at X20 l20 y20 z20 st20 hQ20
  subst l20 y20 z20
  obtain ⟨rfl, N20q, hq20⟩ := hQ20
  have N20 := Fr.app N9 N20q
  obtain ⟨c20, hc20⟩ : ∃ z : Int32, z = (own_reach q0 q1 ((6 : Int64) * (3600000 : Int64))) := ⟨_, rfl⟩
  rw [← hc20] at st20
  refine own_by st20 ?_
  have sg32 : ∀ t, own_S p e below T20 (mkF m 32 (own_AJWJWJW q0 q1 (3600000 : Int64)) [(.long ((24 : Int64) * (3600000 : Int64))), (.long q1), (.long q0), (.int (c9 + c20))]) t → own_S p e below T20 (mkF m 23 (own_AJWJWJW q0 q1 (3600000 : Int64)) [(.int c20), (.int c9)]) t := by
    intro t k
    show own_S p e below T20 (mkF m 23 (own_AJWJWJW q0 q1 (3600000 : Int64)) [(.int c20), (.int c9)]) _
    refine XS.iadd X20.here hx rfl (hb hby d3_23) rfl ?_
    show own_S p e below T20 (mkF m 24 (own_AJWJWJW q0 q1 (3600000 : Int64)) [(.int (c9 + c20))]) _
    refine XS.lloadN X20.here hx rfl (hb hby d3_24) rfl ?_
    show own_S p e below T20 (mkF m 25 (own_AJWJWJW q0 q1 (3600000 : Int64)) [(.long q0), (.int (c9 + c20))]) _
    refine XS.lloadN X20.here hx rfl (hb hby d3_25) rfl ?_
    show own_S p e below T20 (mkF m 26 (own_AJWJWJW q0 q1 (3600000 : Int64)) [(.long q1), (.long q0), (.int (c9 + c20))]) _
    refine X20.ldc2Long hx hown (mvT hZ (hw _ (List.mem_of_getElem? (i := 19) rfl))) (g := (mkF m 26 (own_AJWJWJW q0 q1 (3600000 : Int64)) [(.long q1), (.long q0), (.int (c9 + c20))])) rfl (hb hby d3_26) _ ?_
    show own_S p e below T20 (mkF m 29 (own_AJWJWJW q0 q1 (3600000 : Int64)) [(.long (24 : Int64)), (.long q1), (.long q0), (.int (c9 + c20))]) _
    refine XS.lload X20.here hx rfl (hb hby d3_29) rfl ?_
    show own_S p e below T20 (mkF m 31 (own_AJWJWJW q0 q1 (3600000 : Int64)) [(.long (3600000 : Int64)), (.long (24 : Int64)), (.long q1), (.long q0), (.int (c9 + c20))]) _
    refine XS.lmul X20.here hx rfl (hb hby d3_31) rfl ?_
    exact k
  refine own_by sg32 ?_
  obtain ⟨_, _, ⟨T32, L32, k32, n32⟩, -, X32, ⟨Lc32, hQ32, l32, y32, z32⟩, st32⟩ := Jvm.LawKit.callS X20 hx (y := (⟨"com/example/reverie/reverie/FusedScoreBucketPinLaw", "reaches", "(JJJ)I"⟩ : MethodName)) hown (mvT hZ (hw _ (List.mem_of_getElem? (i := 14) rfl))) (mvT hZ (hw _ (List.mem_of_getElem? (i := 15) rfl))) (mvT hZ (hw _ (List.mem_of_getElem? (i := 2) rfl))) (mvT hZ (hw _ (List.mem_of_getElem? (i := 16) rfl))) (by decide) (backOf (W := 1) (rm4 l Z a0 hw [] q0 q1 ((24 : Int64) * (3600000 : Int64)) h0 n0 Z0) hZ (hw _ (List.mem_of_getElem? (i := 16) rfl)) (hw _ (List.mem_of_getElem? (i := 2) rfl)) (by decide) (by decide)) (g := (mkF m 32 (own_AJWJWJW q0 q1 (3600000 : Int64)) [(.long ((24 : Int64) * (3600000 : Int64))), (.long q1), (.long q0), (.int (c9 + c20))])) rfl (by rw [hml]; rfl) (argsL := [(.long q0), (.long q1), (.long ((24 : Int64) * (3600000 : Int64)))]) (rest := [(.int (c9 + c20))]) (lenOf pd_3_0 rfl) rfl (by show 2 * 0 + _ ≤ _; exact Nat.le_of_eq rfl) (hb hby d3_32) (fun _ _ => ⟨rfl, hq20, (by decide : 0 + 0 ≤ _), (by decide : 0 + 0 ≤ _)⟩)
  dsimp only [Pt.U, Pt.locs, Pt.cells, Pt.slots] at X32 l32 y32 z32 st32 hQ32
  subst l32 y32 z32
  obtain ⟨rfl, N32q, hq32⟩ := hQ32
  have N32 := Fr.app N20 N32q
  obtain ⟨c32, hc32⟩ : ∃ z : Int32, z = (own_reach q0 q1 ((24 : Int64) * (3600000 : Int64))) := ⟨_, rfl⟩
  rw [← hc32] at st32
  refine own_by st32 ?_
  have sg44 : ∀ t, own_S p e below T32 (mkF m 44 (own_AJWJWJW q0 q1 (3600000 : Int64)) [(.long ((72 : Int64) * (3600000 : Int64))), (.long q1), (.long q0), (.int ((c9 + c20) + c32))]) t → own_S p e below T32 (mkF m 35 (own_AJWJWJW q0 q1 (3600000 : Int64)) [(.int c32), (.int (c9 + c20))]) t := by
    intro t k
    show own_S p e below T32 (mkF m 35 (own_AJWJWJW q0 q1 (3600000 : Int64)) [(.int c32), (.int (c9 + c20))]) _
    refine XS.iadd X32.here hx rfl (hb hby d3_35) rfl ?_
    show own_S p e below T32 (mkF m 36 (own_AJWJWJW q0 q1 (3600000 : Int64)) [(.int ((c9 + c20) + c32))]) _
    refine XS.lloadN X32.here hx rfl (hb hby d3_36) rfl ?_
    show own_S p e below T32 (mkF m 37 (own_AJWJWJW q0 q1 (3600000 : Int64)) [(.long q0), (.int ((c9 + c20) + c32))]) _
    refine XS.lloadN X32.here hx rfl (hb hby d3_37) rfl ?_
    show own_S p e below T32 (mkF m 38 (own_AJWJWJW q0 q1 (3600000 : Int64)) [(.long q1), (.long q0), (.int ((c9 + c20) + c32))]) _
    refine X32.ldc2Long hx hown (mvT hZ (hw _ (List.mem_of_getElem? (i := 20) rfl))) (g := (mkF m 38 (own_AJWJWJW q0 q1 (3600000 : Int64)) [(.long q1), (.long q0), (.int ((c9 + c20) + c32))])) rfl (hb hby d3_38) _ ?_
    show own_S p e below T32 (mkF m 41 (own_AJWJWJW q0 q1 (3600000 : Int64)) [(.long (72 : Int64)), (.long q1), (.long q0), (.int ((c9 + c20) + c32))]) _
    refine XS.lload X32.here hx rfl (hb hby d3_41) rfl ?_
    show own_S p e below T32 (mkF m 43 (own_AJWJWJW q0 q1 (3600000 : Int64)) [(.long (3600000 : Int64)), (.long (72 : Int64)), (.long q1), (.long q0), (.int ((c9 + c20) + c32))]) _
    refine XS.lmul X32.here hx rfl (hb hby d3_43) rfl ?_
    exact k
  refine own_by sg44 ?_
  obtain ⟨_, _, ⟨T44, L44, k44, n44⟩, -, X44, ⟨Lc44, hQ44, l44, y44, z44⟩, st44⟩ := Jvm.LawKit.callS X32 hx (y := (⟨"com/example/reverie/reverie/FusedScoreBucketPinLaw", "reaches", "(JJJ)I"⟩ : MethodName)) hown (mvT hZ (hw _ (List.mem_of_getElem? (i := 14) rfl))) (mvT hZ (hw _ (List.mem_of_getElem? (i := 15) rfl))) (mvT hZ (hw _ (List.mem_of_getElem? (i := 2) rfl))) (mvT hZ (hw _ (List.mem_of_getElem? (i := 16) rfl))) (by decide) (backOf (W := 1) (rm4 l Z a0 hw [] q0 q1 ((72 : Int64) * (3600000 : Int64)) h0 n0 Z0) hZ (hw _ (List.mem_of_getElem? (i := 16) rfl)) (hw _ (List.mem_of_getElem? (i := 2) rfl)) (by decide) (by decide)) (g := (mkF m 44 (own_AJWJWJW q0 q1 (3600000 : Int64)) [(.long ((72 : Int64) * (3600000 : Int64))), (.long q1), (.long q0), (.int ((c9 + c20) + c32))])) rfl (by rw [hml]; rfl) (argsL := [(.long q0), (.long q1), (.long ((72 : Int64) * (3600000 : Int64)))]) (rest := [(.int ((c9 + c20) + c32))]) (lenOf pd_3_0 rfl) rfl (by show 2 * 0 + _ ≤ _; exact Nat.le_of_eq rfl) (hb hby d3_44) (fun _ _ => ⟨rfl, hq32, (by decide : 0 + 0 ≤ _), (by decide : 0 + 0 ≤ _)⟩)
  dsimp only [Pt.U, Pt.locs, Pt.cells, Pt.slots] at X44 l44 y44 z44 st44 hQ44
  subst l44 y44 z44
  obtain ⟨rfl, N44q, hq44⟩ := hQ44
  have N44 := Fr.app N32 N44q
  obtain ⟨c44, hc44⟩ : ∃ z : Int32, z = (own_reach q0 q1 ((72 : Int64) * (3600000 : Int64))) := ⟨_, rfl⟩
  rw [← hc44] at st44
  refine own_by st44 ?_
  have sg56 : ∀ t, own_S p e below T44 (mkF m 56 (own_AJWJWJW q0 q1 (3600000 : Int64)) [(.long ((168 : Int64) * (3600000 : Int64))), (.long q1), (.long q0), (.int (((c9 + c20) + c32) + c44))]) t → own_S p e below T44 (mkF m 47 (own_AJWJWJW q0 q1 (3600000 : Int64)) [(.int c44), (.int ((c9 + c20) + c32))]) t := by
    intro t k
    show own_S p e below T44 (mkF m 47 (own_AJWJWJW q0 q1 (3600000 : Int64)) [(.int c44), (.int ((c9 + c20) + c32))]) _
    refine XS.iadd X44.here hx rfl (hb hby d3_47) rfl ?_
    show own_S p e below T44 (mkF m 48 (own_AJWJWJW q0 q1 (3600000 : Int64)) [(.int (((c9 + c20) + c32) + c44))]) _
    refine XS.lloadN X44.here hx rfl (hb hby d3_48) rfl ?_
    show own_S p e below T44 (mkF m 49 (own_AJWJWJW q0 q1 (3600000 : Int64)) [(.long q0), (.int (((c9 + c20) + c32) + c44))]) _
    refine XS.lloadN X44.here hx rfl (hb hby d3_49) rfl ?_
    show own_S p e below T44 (mkF m 50 (own_AJWJWJW q0 q1 (3600000 : Int64)) [(.long q1), (.long q0), (.int (((c9 + c20) + c32) + c44))]) _
    refine X44.ldc2Long hx hown (mvT hZ (hw _ (List.mem_of_getElem? (i := 21) rfl))) (g := (mkF m 50 (own_AJWJWJW q0 q1 (3600000 : Int64)) [(.long q1), (.long q0), (.int (((c9 + c20) + c32) + c44))])) rfl (hb hby d3_50) _ ?_
    show own_S p e below T44 (mkF m 53 (own_AJWJWJW q0 q1 (3600000 : Int64)) [(.long (168 : Int64)), (.long q1), (.long q0), (.int (((c9 + c20) + c32) + c44))]) _
    refine XS.lload X44.here hx rfl (hb hby d3_53) rfl ?_
    show own_S p e below T44 (mkF m 55 (own_AJWJWJW q0 q1 (3600000 : Int64)) [(.long (3600000 : Int64)), (.long (168 : Int64)), (.long q1), (.long q0), (.int (((c9 + c20) + c32) + c44))]) _
    refine XS.lmul X44.here hx rfl (hb hby d3_55) rfl ?_
    exact k
  refine own_by sg56 ?_
  obtain ⟨_, _, ⟨T56, L56, k56, n56⟩, -, X56, ⟨Lc56, hQ56, l56, y56, z56⟩, st56⟩ := Jvm.LawKit.callS X44 hx (y := (⟨"com/example/reverie/reverie/FusedScoreBucketPinLaw", "reaches", "(JJJ)I"⟩ : MethodName)) hown (mvT hZ (hw _ (List.mem_of_getElem? (i := 14) rfl))) (mvT hZ (hw _ (List.mem_of_getElem? (i := 15) rfl))) (mvT hZ (hw _ (List.mem_of_getElem? (i := 2) rfl))) (mvT hZ (hw _ (List.mem_of_getElem? (i := 16) rfl))) (by decide) (backOf (W := 1) (rm4 l Z a0 hw [] q0 q1 ((168 : Int64) * (3600000 : Int64)) h0 n0 Z0) hZ (hw _ (List.mem_of_getElem? (i := 16) rfl)) (hw _ (List.mem_of_getElem? (i := 2) rfl)) (by decide) (by decide)) (g := (mkF m 56 (own_AJWJWJW q0 q1 (3600000 : Int64)) [(.long ((168 : Int64) * (3600000 : Int64))), (.long q1), (.long q0), (.int (((c9 + c20) + c32) + c44))])) rfl (by rw [hml]; rfl) (argsL := [(.long q0), (.long q1), (.long ((168 : Int64) * (3600000 : Int64)))]) (rest := [(.int (((c9 + c20) + c32) + c44))]) (lenOf pd_3_0 rfl) rfl (by show 2 * 0 + _ ≤ _; exact Nat.le_of_eq rfl) (hb hby d3_56) (fun _ _ => ⟨rfl, hq44, (by decide : 0 + 0 ≤ _), (by decide : 0 + 0 ≤ _)⟩)
  dsimp only [Pt.U, Pt.locs, Pt.cells, Pt.slots] at X56 l56 y56 z56 st56 hQ56
  subst l56 y56 z56
  obtain ⟨rfl, N56q, hq56⟩ := hQ56
  have N56 := Fr.app N44 N56q
  obtain ⟨c56, hc56⟩ : ∃ z : Int32, z = (own_reach q0 q1 ((168 : Int64) * (3600000 : Int64))) := ⟨_, rfl⟩
  rw [← hc56] at st56
  refine own_by st56 ?_
  have sg68 : ∀ t, own_S p e below T56 (mkF m 68 (own_AJWJWJW q0 q1 (3600000 : Int64)) [(.long ((336 : Int64) * (3600000 : Int64))), (.long q1), (.long q0), (.int ((((c9 + c20) + c32) + c44) + c56))]) t → own_S p e below T56 (mkF m 59 (own_AJWJWJW q0 q1 (3600000 : Int64)) [(.int c56), (.int (((c9 + c20) + c32) + c44))]) t := by
    intro t k
    show own_S p e below T56 (mkF m 59 (own_AJWJWJW q0 q1 (3600000 : Int64)) [(.int c56), (.int (((c9 + c20) + c32) + c44))]) _
    refine XS.iadd X56.here hx rfl (hb hby d3_59) rfl ?_
    show own_S p e below T56 (mkF m 60 (own_AJWJWJW q0 q1 (3600000 : Int64)) [(.int ((((c9 + c20) + c32) + c44) + c56))]) _
    refine XS.lloadN X56.here hx rfl (hb hby d3_60) rfl ?_
    show own_S p e below T56 (mkF m 61 (own_AJWJWJW q0 q1 (3600000 : Int64)) [(.long q0), (.int ((((c9 + c20) + c32) + c44) + c56))]) _
    refine XS.lloadN X56.here hx rfl (hb hby d3_61) rfl ?_
    show own_S p e below T56 (mkF m 62 (own_AJWJWJW q0 q1 (3600000 : Int64)) [(.long q1), (.long q0), (.int ((((c9 + c20) + c32) + c44) + c56))]) _
    refine X56.ldc2Long hx hown (mvT hZ (hw _ (List.mem_of_getElem? (i := 22) rfl))) (g := (mkF m 62 (own_AJWJWJW q0 q1 (3600000 : Int64)) [(.long q1), (.long q0), (.int ((((c9 + c20) + c32) + c44) + c56))])) rfl (hb hby d3_62) _ ?_
    show own_S p e below T56 (mkF m 65 (own_AJWJWJW q0 q1 (3600000 : Int64)) [(.long (336 : Int64)), (.long q1), (.long q0), (.int ((((c9 + c20) + c32) + c44) + c56))]) _
    refine XS.lload X56.here hx rfl (hb hby d3_65) rfl ?_
    show own_S p e below T56 (mkF m 67 (own_AJWJWJW q0 q1 (3600000 : Int64)) [(.long (3600000 : Int64)), (.long (336 : Int64)), (.long q1), (.long q0), (.int ((((c9 + c20) + c32) + c44) + c56))]) _
    refine XS.lmul X56.here hx rfl (hb hby d3_67) rfl ?_
    exact k
  refine own_by sg68 ?_
  obtain ⟨_, _, ⟨T68, L68, k68, n68⟩, -, X68, ⟨Lc68, hQ68, l68, y68, z68⟩, st68⟩ := Jvm.LawKit.callS X56 hx (y := (⟨"com/example/reverie/reverie/FusedScoreBucketPinLaw", "reaches", "(JJJ)I"⟩ : MethodName)) hown (mvT hZ (hw _ (List.mem_of_getElem? (i := 14) rfl))) (mvT hZ (hw _ (List.mem_of_getElem? (i := 15) rfl))) (mvT hZ (hw _ (List.mem_of_getElem? (i := 2) rfl))) (mvT hZ (hw _ (List.mem_of_getElem? (i := 16) rfl))) (by decide) (backOf (W := 1) (rm4 l Z a0 hw [] q0 q1 ((336 : Int64) * (3600000 : Int64)) h0 n0 Z0) hZ (hw _ (List.mem_of_getElem? (i := 16) rfl)) (hw _ (List.mem_of_getElem? (i := 2) rfl)) (by decide) (by decide)) (g := (mkF m 68 (own_AJWJWJW q0 q1 (3600000 : Int64)) [(.long ((336 : Int64) * (3600000 : Int64))), (.long q1), (.long q0), (.int ((((c9 + c20) + c32) + c44) + c56))])) rfl (by rw [hml]; rfl) (argsL := [(.long q0), (.long q1), (.long ((336 : Int64) * (3600000 : Int64)))]) (rest := [(.int ((((c9 + c20) + c32) + c44) + c56))]) (lenOf pd_3_0 rfl) rfl (by show 2 * 0 + _ ≤ _; exact Nat.le_of_eq rfl) (hb hby d3_68) (fun _ _ => ⟨rfl, hq56, (by decide : 0 + 0 ≤ _), (by decide : 0 + 0 ≤ _)⟩)
  dsimp only [Pt.U, Pt.locs, Pt.cells, Pt.slots] at X68 l68 y68 z68 st68 hQ68
  subst l68 y68 z68
  obtain ⟨rfl, N68q, hq68⟩ := hQ68
  have N68 := Fr.app N56 N68q
  obtain ⟨c68, hc68⟩ : ∃ z : Int32, z = (own_reach q0 q1 ((336 : Int64) * (3600000 : Int64))) := ⟨_, rfl⟩
  rw [← hc68] at st68
  refine own_by st68 ?_
  have sg80 : ∀ t, own_S p e below T68 (mkF m 80 (own_AJWJWJW q0 q1 (3600000 : Int64)) [(.long ((672 : Int64) * (3600000 : Int64))), (.long q1), (.long q0), (.int (((((c9 + c20) + c32) + c44) + c56) + c68))]) t → own_S p e below T68 (mkF m 71 (own_AJWJWJW q0 q1 (3600000 : Int64)) [(.int c68), (.int ((((c9 + c20) + c32) + c44) + c56))]) t := by
    intro t k
    show own_S p e below T68 (mkF m 71 (own_AJWJWJW q0 q1 (3600000 : Int64)) [(.int c68), (.int ((((c9 + c20) + c32) + c44) + c56))]) _
    refine XS.iadd X68.here hx rfl (hb hby d3_71) rfl ?_
    show own_S p e below T68 (mkF m 72 (own_AJWJWJW q0 q1 (3600000 : Int64)) [(.int (((((c9 + c20) + c32) + c44) + c56) + c68))]) _
    refine XS.lloadN X68.here hx rfl (hb hby d3_72) rfl ?_
    show own_S p e below T68 (mkF m 73 (own_AJWJWJW q0 q1 (3600000 : Int64)) [(.long q0), (.int (((((c9 + c20) + c32) + c44) + c56) + c68))]) _
    refine XS.lloadN X68.here hx rfl (hb hby d3_73) rfl ?_
    show own_S p e below T68 (mkF m 74 (own_AJWJWJW q0 q1 (3600000 : Int64)) [(.long q1), (.long q0), (.int (((((c9 + c20) + c32) + c44) + c56) + c68))]) _
    refine X68.ldc2Long hx hown (mvT hZ (hw _ (List.mem_of_getElem? (i := 23) rfl))) (g := (mkF m 74 (own_AJWJWJW q0 q1 (3600000 : Int64)) [(.long q1), (.long q0), (.int (((((c9 + c20) + c32) + c44) + c56) + c68))])) rfl (hb hby d3_74) _ ?_
    show own_S p e below T68 (mkF m 77 (own_AJWJWJW q0 q1 (3600000 : Int64)) [(.long (672 : Int64)), (.long q1), (.long q0), (.int (((((c9 + c20) + c32) + c44) + c56) + c68))]) _
    refine XS.lload X68.here hx rfl (hb hby d3_77) rfl ?_
    show own_S p e below T68 (mkF m 79 (own_AJWJWJW q0 q1 (3600000 : Int64)) [(.long (3600000 : Int64)), (.long (672 : Int64)), (.long q1), (.long q0), (.int (((((c9 + c20) + c32) + c44) + c56) + c68))]) _
    refine XS.lmul X68.here hx rfl (hb hby d3_79) rfl ?_
    exact k
  refine own_by sg80 ?_
  obtain ⟨_, _, ⟨T80, L80, k80, n80⟩, -, X80, ⟨Lc80, hQ80, l80, y80, z80⟩, st80⟩ := Jvm.LawKit.callS X68 hx (y := (⟨"com/example/reverie/reverie/FusedScoreBucketPinLaw", "reaches", "(JJJ)I"⟩ : MethodName)) hown (mvT hZ (hw _ (List.mem_of_getElem? (i := 14) rfl))) (mvT hZ (hw _ (List.mem_of_getElem? (i := 15) rfl))) (mvT hZ (hw _ (List.mem_of_getElem? (i := 2) rfl))) (mvT hZ (hw _ (List.mem_of_getElem? (i := 16) rfl))) (by decide) (backOf (W := 1) (rm4 l Z a0 hw [] q0 q1 ((672 : Int64) * (3600000 : Int64)) h0 n0 Z0) hZ (hw _ (List.mem_of_getElem? (i := 16) rfl)) (hw _ (List.mem_of_getElem? (i := 2) rfl)) (by decide) (by decide)) (g := (mkF m 80 (own_AJWJWJW q0 q1 (3600000 : Int64)) [(.long ((672 : Int64) * (3600000 : Int64))), (.long q1), (.long q0), (.int (((((c9 + c20) + c32) + c44) + c56) + c68))])) rfl (by rw [hml]; rfl) (argsL := [(.long q0), (.long q1), (.long ((672 : Int64) * (3600000 : Int64)))]) (rest := [(.int (((((c9 + c20) + c32) + c44) + c56) + c68))]) (lenOf pd_3_0 rfl) rfl (by show 2 * 0 + _ ≤ _; exact Nat.le_of_eq rfl) (hb hby d3_80) (fun _ _ => ⟨rfl, hq68, (by decide : 0 + 0 ≤ _), (by decide : 0 + 0 ≤ _)⟩)
  dsimp only [Pt.U, Pt.locs, Pt.cells, Pt.slots] at X80 l80 y80 z80 st80 hQ80
  subst l80 y80 z80
  obtain ⟨rfl, N80q, hq80⟩ := hQ80
  have N80 := Fr.app N68 N80q
  obtain ⟨c80, hc80⟩ : ∃ z : Int32, z = (own_reach q0 q1 ((672 : Int64) * (3600000 : Int64))) := ⟨_, rfl⟩
  rw [← hc80] at st80
  refine own_by st80 ?_
  have sg92 : ∀ t, own_S p e below T80 (mkF m 92 (own_AJWJWJW q0 q1 (3600000 : Int64)) [(.long ((2160 : Int64) * (3600000 : Int64))), (.long q1), (.long q0), (.int ((((((c9 + c20) + c32) + c44) + c56) + c68) + c80))]) t → own_S p e below T80 (mkF m 83 (own_AJWJWJW q0 q1 (3600000 : Int64)) [(.int c80), (.int (((((c9 + c20) + c32) + c44) + c56) + c68))]) t := by
    intro t k
    show own_S p e below T80 (mkF m 83 (own_AJWJWJW q0 q1 (3600000 : Int64)) [(.int c80), (.int (((((c9 + c20) + c32) + c44) + c56) + c68))]) _
    refine XS.iadd X80.here hx rfl (hb hby d3_83) rfl ?_
    show own_S p e below T80 (mkF m 84 (own_AJWJWJW q0 q1 (3600000 : Int64)) [(.int ((((((c9 + c20) + c32) + c44) + c56) + c68) + c80))]) _
    refine XS.lloadN X80.here hx rfl (hb hby d3_84) rfl ?_
    show own_S p e below T80 (mkF m 85 (own_AJWJWJW q0 q1 (3600000 : Int64)) [(.long q0), (.int ((((((c9 + c20) + c32) + c44) + c56) + c68) + c80))]) _
    refine XS.lloadN X80.here hx rfl (hb hby d3_85) rfl ?_
    show own_S p e below T80 (mkF m 86 (own_AJWJWJW q0 q1 (3600000 : Int64)) [(.long q1), (.long q0), (.int ((((((c9 + c20) + c32) + c44) + c56) + c68) + c80))]) _
    refine X80.ldc2Long hx hown (mvT hZ (hw _ (List.mem_of_getElem? (i := 24) rfl))) (g := (mkF m 86 (own_AJWJWJW q0 q1 (3600000 : Int64)) [(.long q1), (.long q0), (.int ((((((c9 + c20) + c32) + c44) + c56) + c68) + c80))])) rfl (hb hby d3_86) _ ?_
    show own_S p e below T80 (mkF m 89 (own_AJWJWJW q0 q1 (3600000 : Int64)) [(.long (2160 : Int64)), (.long q1), (.long q0), (.int ((((((c9 + c20) + c32) + c44) + c56) + c68) + c80))]) _
    refine XS.lload X80.here hx rfl (hb hby d3_89) rfl ?_
    show own_S p e below T80 (mkF m 91 (own_AJWJWJW q0 q1 (3600000 : Int64)) [(.long (3600000 : Int64)), (.long (2160 : Int64)), (.long q1), (.long q0), (.int ((((((c9 + c20) + c32) + c44) + c56) + c68) + c80))]) _
    refine XS.lmul X80.here hx rfl (hb hby d3_91) rfl ?_
    exact k
  refine own_by sg92 ?_
  obtain ⟨_, _, ⟨T92, L92, k92, n92⟩, -, X92, ⟨Lc92, hQ92, l92, y92, z92⟩, st92⟩ := Jvm.LawKit.callS X80 hx (y := (⟨"com/example/reverie/reverie/FusedScoreBucketPinLaw", "reaches", "(JJJ)I"⟩ : MethodName)) hown (mvT hZ (hw _ (List.mem_of_getElem? (i := 14) rfl))) (mvT hZ (hw _ (List.mem_of_getElem? (i := 15) rfl))) (mvT hZ (hw _ (List.mem_of_getElem? (i := 2) rfl))) (mvT hZ (hw _ (List.mem_of_getElem? (i := 16) rfl))) (by decide) (backOf (W := 1) (rm4 l Z a0 hw [] q0 q1 ((2160 : Int64) * (3600000 : Int64)) h0 n0 Z0) hZ (hw _ (List.mem_of_getElem? (i := 16) rfl)) (hw _ (List.mem_of_getElem? (i := 2) rfl)) (by decide) (by decide)) (g := (mkF m 92 (own_AJWJWJW q0 q1 (3600000 : Int64)) [(.long ((2160 : Int64) * (3600000 : Int64))), (.long q1), (.long q0), (.int ((((((c9 + c20) + c32) + c44) + c56) + c68) + c80))])) rfl (by rw [hml]; rfl) (argsL := [(.long q0), (.long q1), (.long ((2160 : Int64) * (3600000 : Int64)))]) (rest := [(.int ((((((c9 + c20) + c32) + c44) + c56) + c68) + c80))]) (lenOf pd_3_0 rfl) rfl (by show 2 * 0 + _ ≤ _; exact Nat.le_of_eq rfl) (hb hby d3_92) (fun _ _ => ⟨rfl, hq80, (by decide : 0 + 0 ≤ _), (by decide : 0 + 0 ≤ _)⟩)
  dsimp only [Pt.U, Pt.locs, Pt.cells, Pt.slots] at X92 l92 y92 z92 st92 hQ92
  subst l92 y92 z92
  obtain ⟨rfl, N92q, hq92⟩ := hQ92
  have N92 := Fr.app N80 N92q
  obtain ⟨c92, hc92⟩ : ∃ z : Int32, z = (own_reach q0 q1 ((2160 : Int64) * (3600000 : Int64))) := ⟨_, rfl⟩
  rw [← hc92] at st92
  refine own_by st92 ?_
  have sg96 : ∀ t, own_S p e below T92 (mkF m 96 (own_AJWJWJW q0 q1 (3600000 : Int64)) [(.int (((((((c9 + c20) + c32) + c44) + c56) + c68) + c80) + c92))]) t → own_S p e below T92 (mkF m 95 (own_AJWJWJW q0 q1 (3600000 : Int64)) [(.int c92), (.int ((((((c9 + c20) + c32) + c44) + c56) + c68) + c80))]) t := by
    intro t k
    show own_S p e below T92 (mkF m 95 (own_AJWJWJW q0 q1 (3600000 : Int64)) [(.int c92), (.int ((((((c9 + c20) + c32) + c44) + c56) + c68) + c80))]) _
    refine XS.iadd X92.here hx rfl (hb hby d3_95) rfl ?_
    exact k
  refine own_by sg96 ?_
  obtain ⟨fs, hr, hrun, hended, hW, hsame⟩ := X92.leave (v := some (.int (((((((c9 + c20) + c32) + c44) + c56) + c68) + c80) + c92))) (fun h => by rw [Bd.returns] at h; cases h)
  refine ⟨_, _, ?_, hrun, hended, _, _, rfl, ?_, ⟨_, rfl⟩, hW, hsame.mono (by decide) (by decide)⟩
  · exact retI X92 hx Bd.returns (hb hby d3_96) hr
  · show Q3 Z q0 q1 h0 n0 _ T92.heap _
    rw [hq92]
    exact ⟨by rw [hc9, hc20, hc32, hc44, hc56, hc68, hc80, hc92]; rfl, N92, rfl⟩
theorem d2_0 : decode prog_14_method_2_code 0 = .ok (.lload_n 0, 1) := by decide +kernel
theorem d2_1 : decode prog_14_method_2_code 1 = .ok (.lload_n 2, 1) := by decide +kernel
theorem d2_2 : decode prog_14_method_2_code 2 = .ok (.lcmp, 1) := by decide +kernel
theorem d2_3 : decode prog_14_method_2_code 3 = .ok (.ifCond .lt 7, 3) := by decide +kernel
theorem d2_6 : decode prog_14_method_2_code 6 = .ok (.lconst 0, 1) := by decide +kernel
theorem d2_7 : decode prog_14_method_2_code 7 = .ok (.goto 6, 3) := by decide +kernel
theorem d2_10 : decode prog_14_method_2_code 10 = .ok (.lload_n 2, 1) := by decide +kernel
theorem d2_11 : decode prog_14_method_2_code 11 = .ok (.lload_n 0, 1) := by decide +kernel
theorem d2_12 : decode prog_14_method_2_code 12 = .ok (.lsub, 1) := by decide +kernel
theorem d2_13 : decode prog_14_method_2_code 13 = .ok (.lstore 4, 2) := by decide +kernel
theorem d2_15 : decode prog_14_method_2_code 15 = .ok (.lload 4, 2) := by decide +kernel
theorem d2_17 : decode prog_14_method_2_code 17 = .ok (.lconst 0, 1) := by decide +kernel
theorem d2_18 : decode prog_14_method_2_code 18 = .ok (.lcmp, 1) := by decide +kernel
theorem d2_19 : decode prog_14_method_2_code 19 = .ok (.ifCond .ge 8, 3) := by decide +kernel
theorem d2_22 : decode prog_14_method_2_code 22 = .ok (.ldc2_w 9, 3) := by decide +kernel
theorem d2_25 : decode prog_14_method_2_code 25 = .ok (.lstore 4, 2) := by decide +kernel
theorem d2_27 : decode prog_14_method_2_code 27 = .ok (.iconst 0, 1) := by decide +kernel
theorem d2_28 : decode prog_14_method_2_code 28 = .ok (.istore 6, 2) := by decide +kernel
theorem d2_30 : decode prog_14_method_2_code 30 = .ok (.iload 6, 2) := by decide +kernel
theorem d2_32 : decode prog_14_method_2_code 32 = .ok (.getstatic 11, 3) := by decide +kernel
theorem d2_35 : decode prog_14_method_2_code 35 = .ok (.arraylength, 1) := by decide +kernel
theorem d2_36 : decode prog_14_method_2_code 36 = .ok (.if_icmp .ge 21, 3) := by decide +kernel
theorem d2_39 : decode prog_14_method_2_code 39 = .ok (.lload 4, 2) := by decide +kernel
theorem d2_41 : decode prog_14_method_2_code 41 = .ok (.getstatic 11, 3) := by decide +kernel
theorem d2_44 : decode prog_14_method_2_code 44 = .ok (.iload 6, 2) := by decide +kernel
theorem d2_46 : decode prog_14_method_2_code 46 = .ok (.laload, 1) := by decide +kernel
theorem d2_47 : decode prog_14_method_2_code 47 = .ok (.lcmp, 1) := by decide +kernel
theorem d2_48 : decode prog_14_method_2_code 48 = .ok (.ifCond .lt 9, 3) := by decide +kernel
theorem d2_51 : decode prog_14_method_2_code 51 = .ok (.iinc 6 1, 3) := by decide +kernel
theorem d2_54 : decode prog_14_method_2_code 54 = .ok (.goto (-24), 3) := by decide +kernel
theorem d2_57 : decode prog_14_method_2_code 57 = .ok (.iload 6, 2) := by decide +kernel
theorem d2_59 : decode prog_14_method_2_code 59 = .ok (.ireturn, 1) := by decide +kernel
theorem pn_2 : plainFor (⟨"com/example/reverie/reverie/FusedScore", "bucket", "(JJ)I"⟩ : MethodName) = true := by first | exact plainFor_of_name (by first | (simp [plainName, overriddenIn]; done) | decide +kernel) | decide +kernel | exact Jvm.Free.JP.mathPlain rfl (by decide +kernel)
theorem ef_2 (m : MethodId) (q0 : Int64) (q1 : Int64) : entryFrame m #[(.long q0), (.long q1)] 7 = mkF m 0 #[.val (.long q0), .second, .val (.long q1), .second, .unset, .unset, .unset] [] := by first | (simp [entryFrame, mkF, argsToLocals, Value.category]; done) | rfl
def Q2 (Z : State) (q0 : Int64) (q1 : Int64) (wBUCKET_EDGES : Addr) (cl : Cell) (h0 : Heap) (n0 : Nat) (v : Option Value) (h : Heap) (L : List Loc) : Prop := v = some (.int (own_cnt (own_age q0 q1))) ∧ Fr n0 L ∧ h = h0
set_option maxRecDepth 65536 in
set_option maxHeartbeats 40000000 in
theorem rm2 (l : Launch) (Z : State) (a0 : Array Value) (hw : ∀ d ∈ tables_1, d.before a0 Z = true) (ws : List Jvm.Cond) (q0 : Int64) (q1 : Int64) (wBUCKET_EDGES : Addr) (cl : Cell) (h0 : Heap) (n0 : Nat) (Z0 : n0 ≤ h0.size) (S_E : Sta Z h0 "com/example/reverie/reverie/FusedScore" "BUCKET_EDGES" "[J" (.ref wBUCKET_EDGES)) (Ar : Arr Z h0 wBUCKET_EDGES cl .long) (hsz : cl.slots.size = 8) (hat0 : cl.slots[0]? = some (.long (3600000 : Int64))) (hat1 : cl.slots[1]? = some (.long (21600000 : Int64))) (hat2 : cl.slots[2]? = some (.long (86400000 : Int64))) (hat3 : cl.slots[3]? = some (.long (259200000 : Int64))) (hat4 : cl.slots[4]? = some (.long (604800000 : Int64))) (hat5 : cl.slots[5]? = some (.long (1209600000 : Int64))) (hat6 : cl.slots[6]? = some (.long (2419200000 : Int64))) (hat7 : cl.slots[7]? = some (.long (7776000000 : Int64))) :
    MetFree l (⟨"com/example/reverie/reverie/FusedScore", "bucket", "(JJ)I"⟩ : MethodName) (head1 (Jvm.Cond.code (⟨"com/example/reverie/reverie/FusedScore", "bucket", "(JJ)I"⟩ : MethodName) prog_14_method_2_code 7 (some .int) :: ws) ({ frames := 0, cells := 0, slots := 0, locals := 0 } : Room)) (fun a U => a = #[(.long q0), (.long q1)] ∧ Z.Warmed39 U.vm ∧ U.heap = h0) (fun _ _ _ _ _ => True) (fun _ U o U' => ∃ v L, o = .returned v ∧ Q2 Z q0 q1 wBUCKET_EDGES cl h0 n0 v U'.heap L ∧ FrameEnd U o U' L ({ frames := 0, cells := 0, slots := 0, locals := 0 } : Room).cells ({ frames := 0, cells := 0, slots := 0, locals := 0 } : Room).slots) := by
  refine MetFree.of_bodySF pn_2 hisR ?_
  intro p e s m args below meth c s₁ Bd hml0 hP hK
  obtain ⟨rfl, hZ, hh⟩ := hP
  have hx := Bd.exec
  have hby := Bd.bytes
  have hml : c.maxLocals = 7 := hml0
  have hown : s.vm.findClass "com/example/reverie/reverie/FusedScore" = some m.cls := findClass_of_methodNamed Bd.named
  have hnm := (name_of_methodNamed Bd.named Bd.method).1
  have X0 : Stand p l e ({ frames := 0, cells := 0, slots := 0, locals := 0 } : Room) s m #[(.long q0), (.long q1)] below meth c s₁ [] 0 0 := Stand.of_body Bd
  have e0 : s₁.heap = h0 := by rw [← hh, Bd.state]; rfl
  have N0 := Fr.nil n0
  refine own_at (castTop (ef_2 m q0 q1)) ?_
  obtain ⟨r0_s0, hr0_s0⟩ : ∃ z : Int64, z = (if (lcmpW q0 q1) < (0 : Int32) then (q1 - q0) else (0 : Int64)) := ⟨_, rfl⟩
  have str0 : ∀ t, own_S p e below s₁ (mkF m 13 (own_AJWJWUUU q0 q1) [(.long r0_s0)]) t → own_S p e below s₁ (mkF m 0 (own_AJWJWUUU q0 q1) []) t := by
    have sg3 : ∀ t, own_S p e below s₁ (mkF m 3 (own_AJWJWUUU q0 q1) [(.int (lcmpW q0 q1))]) t → own_S p e below s₁ (mkF m 0 (own_AJWJWUUU q0 q1) []) t := by
      intro t k
      show own_S p e below s₁ (mkF m 0 (own_AJWJWUUU q0 q1) []) _
      refine XS.lloadN X0.here hx rfl (hb hby d2_0) rfl ?_
      show own_S p e below s₁ (mkF m 1 (own_AJWJWUUU q0 q1) [(.long q0)]) _
      refine XS.lloadN X0.here hx rfl (hb hby d2_1) rfl ?_
      show own_S p e below s₁ (mkF m 2 (own_AJWJWUUU q0 q1) [(.long q1), (.long q0)]) _
      refine XS.lcmp X0.here hx rfl (hb hby d2_2) rfl ?_
      exact k
    by_cases hc3 : (lcmpW q0 q1) < (0 : Int32)
    · rw [if_pos hc3] at hr0_s0
      have sg13 : ∀ t, own_S p e below s₁ (mkF m 13 (own_AJWJWUUU q0 q1) [(.long (q1 - q0))]) t → own_S p e below s₁ (mkF m 3 (own_AJWJWUUU q0 q1) [(.int (lcmpW q0 q1))]) t := by
        intro t k
        show own_S p e below s₁ (mkF m 3 (own_AJWJWUUU q0 q1) [(.int (lcmpW q0 q1))]) _
        refine XS.ifYes X0.here hx rfl (pc0 := 3) (pc' := 10) rfl (hb hby d2_3) rfl ((if0 _ _).trans (tlt hc3).1) (by decide) (by decide) ?_
        show own_S p e below s₁ (mkF m 10 (own_AJWJWUUU q0 q1) []) _
        refine XS.lloadN X0.here hx rfl (hb hby d2_10) rfl ?_
        show own_S p e below s₁ (mkF m 11 (own_AJWJWUUU q0 q1) [(.long q1)]) _
        refine XS.lloadN X0.here hx rfl (hb hby d2_11) rfl ?_
        show own_S p e below s₁ (mkF m 12 (own_AJWJWUUU q0 q1) [(.long q0), (.long q1)]) _
        refine XS.lsub X0.here hx rfl (hb hby d2_12) rfl ?_
        exact k
      rw [hr0_s0]
      exact fun t k => (sg3 t (sg13 t k))
    · rw [if_neg hc3] at hr0_s0
      have sg13 : ∀ t, own_S p e below s₁ (mkF m 13 (own_AJWJWUUU q0 q1) [(.long (0 : Int64))]) t → own_S p e below s₁ (mkF m 3 (own_AJWJWUUU q0 q1) [(.int (lcmpW q0 q1))]) t := by
        intro t k
        show own_S p e below s₁ (mkF m 3 (own_AJWJWUUU q0 q1) [(.int (lcmpW q0 q1))]) _
        refine XS.ifNo X0.here hx rfl (hb hby d2_3) rfl ((if0 _ _).trans (flt hc3).1) ?_
        show own_S p e below s₁ (mkF m 6 (own_AJWJWUUU q0 q1) []) _
        refine XS.lconst X0.here hx rfl (hb hby d2_6) ?_
        show own_S p e below s₁ (mkF m 7 (own_AJWJWUUU q0 q1) [(.long (0 : Int64))]) _
        refine XS.goto X0.here hx rfl (pc0 := 7) (pc' := 13) rfl (hb hby d2_7) (by decide) (by decide) ?_
        exact k
      rw [hr0_s0]
      exact fun t k => (sg3 t (sg13 t k))
  refine own_by str0 ?_
  have sg15 : ∀ t, own_S p e below s₁ (mkF m 15 (own_AJWJWJWU q0 q1 r0_s0) []) t → own_S p e below s₁ (mkF m 13 (own_AJWJWUUU q0 q1) [(.long r0_s0)]) t := by
    intro t k
    show own_S p e below s₁ (mkF m 13 (own_AJWJWUUU q0 q1) [(.long r0_s0)]) _
    refine XS.lstore X0.here hx rfl (hb hby d2_13) rfl (l' := (own_AJWJWJWU q0 q1 r0_s0)) rfl ?_
    exact k
  refine own_by sg15 ?_
  obtain ⟨r15_l4, hr15_l4⟩ : ∃ z : Int64, z = (if (lcmpW r0_s0 (0 : Int64)) < (0 : Int32) then (9223372036854775807 : Int64) else r0_s0) := ⟨_, rfl⟩
  have str15 : ∀ t, own_S p e below s₁ (mkF m 27 (own_AJWJWJWU q0 q1 r15_l4) []) t → own_S p e below s₁ (mkF m 15 (own_AJWJWJWU q0 q1 r0_s0) []) t := by
    have sg19 : ∀ t, own_S p e below s₁ (mkF m 19 (own_AJWJWJWU q0 q1 r0_s0) [(.int (lcmpW r0_s0 (0 : Int64)))]) t → own_S p e below s₁ (mkF m 15 (own_AJWJWJWU q0 q1 r0_s0) []) t := by
      intro t k
      show own_S p e below s₁ (mkF m 15 (own_AJWJWJWU q0 q1 r0_s0) []) _
      refine XS.lload X0.here hx rfl (hb hby d2_15) rfl ?_
      show own_S p e below s₁ (mkF m 17 (own_AJWJWJWU q0 q1 r0_s0) [(.long r0_s0)]) _
      refine XS.lconst X0.here hx rfl (hb hby d2_17) ?_
      show own_S p e below s₁ (mkF m 18 (own_AJWJWJWU q0 q1 r0_s0) [(.long (0 : Int64)), (.long r0_s0)]) _
      refine XS.lcmp X0.here hx rfl (hb hby d2_18) rfl ?_
      exact k
    by_cases hc19 : (lcmpW r0_s0 (0 : Int64)) < (0 : Int32)
    · rw [if_pos hc19] at hr15_l4
      have sg27 : ∀ t, own_S p e below s₁ (mkF m 27 (own_AJWJWJWU q0 q1 (9223372036854775807 : Int64)) []) t → own_S p e below s₁ (mkF m 19 (own_AJWJWJWU q0 q1 r0_s0) [(.int (lcmpW r0_s0 (0 : Int64)))]) t := by
        intro t k
        show own_S p e below s₁ (mkF m 19 (own_AJWJWJWU q0 q1 r0_s0) [(.int (lcmpW r0_s0 (0 : Int64)))]) _
        refine XS.ifNo X0.here hx rfl (hb hby d2_19) rfl ((if0 _ _).trans (tlt hc19).2.1) ?_
        show own_S p e below s₁ (mkF m 22 (own_AJWJWJWU q0 q1 r0_s0) []) _
        refine X0.ldc2Long hx hown (mvT hZ (hw _ (List.mem_of_getElem? (i := 32) rfl))) (g := (mkF m 22 (own_AJWJWJWU q0 q1 r0_s0) [])) rfl (hb hby d2_22) _ ?_
        show own_S p e below s₁ (mkF m 25 (own_AJWJWJWU q0 q1 r0_s0) [(.long (9223372036854775807 : Int64))]) _
        refine XS.lstore X0.here hx rfl (hb hby d2_25) rfl (l' := (own_AJWJWJWU q0 q1 (9223372036854775807 : Int64))) rfl ?_
        exact k
      rw [hr15_l4]
      exact fun t k => (sg19 t (sg27 t k))
    · rw [if_neg hc19] at hr15_l4
      have sg27 : ∀ t, own_S p e below s₁ (mkF m 27 (own_AJWJWJWU q0 q1 r0_s0) []) t → own_S p e below s₁ (mkF m 19 (own_AJWJWJWU q0 q1 r0_s0) [(.int (lcmpW r0_s0 (0 : Int64)))]) t := by
        intro t k
        show own_S p e below s₁ (mkF m 19 (own_AJWJWJWU q0 q1 r0_s0) [(.int (lcmpW r0_s0 (0 : Int64)))]) _
        refine XS.ifYes X0.here hx rfl (pc0 := 19) (pc' := 27) rfl (hb hby d2_19) rfl ((if0 _ _).trans (flt hc19).2.1) (by decide) (by decide) ?_
        exact k
      rw [hr15_l4]
      exact fun t k => (sg19 t (sg27 t k))
  refine own_by str15 ?_
  have sg32 : ∀ t, own_S p e below s₁ (mkF m 32 (own_AJWJWJWI q0 q1 r15_l4 (0 : Int32)) [(.int (0 : Int32))]) t → own_S p e below s₁ (mkF m 27 (own_AJWJWJWU q0 q1 r15_l4) []) t := by
    intro t k
    show own_S p e below s₁ (mkF m 27 (own_AJWJWJWU q0 q1 r15_l4) []) _
    refine XS.iconst X0.here hx rfl (hb hby d2_27) ?_
    show own_S p e below s₁ (mkF m 28 (own_AJWJWJWU q0 q1 r15_l4) [(.int (0 : Int32))]) _
    refine XS.istore X0.here hx rfl (hb hby d2_28) rfl (l' := (own_AJWJWJWI q0 q1 r15_l4 (0 : Int32))) rfl ?_
    show own_S p e below s₁ (mkF m 30 (own_AJWJWJWI q0 q1 r15_l4 (0 : Int32)) []) _
    refine XS.iload X0.here hx rfl (hb hby d2_30) rfl ?_
    exact k
  refine own_by sg32 ?_
  obtain ⟨T32, X32, e32, st32⟩ := getS2 X0 hx hZ hown (host := "") (Or.inl (hw _ (List.mem_of_getElem? (i := 8) rfl))) Via.refl e0 S_E (g := (mkF m 32 (own_AJWJWJWI q0 q1 r15_l4 (0 : Int32)) [(.int (0 : Int32))])) rfl (hb hby d2_32)
  refine own_by st32 ?_
  have sg41 : ∀ t, own_S p e below T32 (mkF m 41 (own_AJWJWJWI q0 q1 r15_l4 (0 : Int32)) [(.long r15_l4)]) t → own_S p e below T32 (mkF m 35 (own_AJWJWJWI q0 q1 r15_l4 (0 : Int32)) [(.ref wBUCKET_EDGES), (.int (0 : Int32))]) t := by
    intro t k
    show own_S p e below T32 (mkF m 35 (own_AJWJWJWI q0 q1 r15_l4 (0 : Int32)) [(.ref wBUCKET_EDGES), (.int (0 : Int32))]) _
    refine X32.arraylength hx (by rw [e32]; exact Ar.1) (State.isArrayOf_alike hZ.alike Ar.2.1) (g := (mkF m 35 (own_AJWJWJWI q0 q1 r15_l4 (0 : Int32)) [(.ref wBUCKET_EDGES), (.int (0 : Int32))])) rfl rfl (hb hby d2_35) _ ?_
    rw [hsz]
    show own_S p e below T32 (mkF m 36 (own_AJWJWJWI q0 q1 r15_l4 (0 : Int32)) [(.int (8 : Int32)), (.int (0 : Int32))]) _
    refine XS.icmpNo X32.here hx rfl (hb hby d2_36) rfl (tlt (by decide : (0 : Int32) < (8 : Int32))).2.1 ?_
    show own_S p e below T32 (mkF m 39 (own_AJWJWJWI q0 q1 r15_l4 (0 : Int32)) []) _
    refine XS.lload X32.here hx rfl (hb hby d2_39) rfl ?_
    exact k
  refine own_by sg41 ?_
  obtain ⟨T41, X41, e41, st41⟩ := getS2 X32 hx hZ hown (host := "") (Or.inl (hw _ (List.mem_of_getElem? (i := 8) rfl))) Via.refl e32 S_E (g := (mkF m 41 (own_AJWJWJWI q0 q1 r15_l4 (0 : Int32)) [(.long r15_l4)])) rfl (hb hby d2_41)
  refine own_by st41 ?_
  have sg48 : ∀ t, own_S p e below T41 (mkF m 48 (own_AJWJWJWI q0 q1 r15_l4 (0 : Int32)) [(.int (lcmpW r15_l4 (3600000 : Int64)))]) t → own_S p e below T41 (mkF m 44 (own_AJWJWJWI q0 q1 r15_l4 (0 : Int32)) [(.ref wBUCKET_EDGES), (.long r15_l4)]) t := by
    intro t k
    show own_S p e below T41 (mkF m 44 (own_AJWJWJWI q0 q1 r15_l4 (0 : Int32)) [(.ref wBUCKET_EDGES), (.long r15_l4)]) _
    refine XS.iload X41.here hx rfl (hb hby d2_44) rfl ?_
    show own_S p e below T41 (mkF m 46 (own_AJWJWJWI q0 q1 r15_l4 (0 : Int32)) [(.int (0 : Int32)), (.ref wBUCKET_EDGES), (.long r15_l4)]) _
    refine X41.laload hx (j := (0 : Int32)) (v := (.long (3600000 : Int64))) (by rw [e41]; exact Ar.1) (State.isArrayOf_alike hZ.alike Ar.2.1) Ar.2.2 (by rw [hsz]; decide) hat0 (g := (mkF m 46 (own_AJWJWJWI q0 q1 r15_l4 (0 : Int32)) [(.int (0 : Int32)), (.ref wBUCKET_EDGES), (.long r15_l4)])) rfl rfl (hb hby d2_46) _ ?_
    show own_S p e below T41 (mkF m 47 (own_AJWJWJWI q0 q1 r15_l4 (0 : Int32)) [(.long (3600000 : Int64)), (.long r15_l4)]) _
    refine XS.lcmp X41.here hx rfl (hb hby d2_47) rfl ?_
    exact k
  refine own_by sg48 ?_
  by_cases hc48 : (lcmpW r15_l4 (3600000 : Int64)) < (0 : Int32)
  · have sg59 : ∀ t, own_S p e below T41 (mkF m 59 (own_AJWJWJWI q0 q1 r15_l4 (0 : Int32)) [(.int (0 : Int32))]) t → own_S p e below T41 (mkF m 48 (own_AJWJWJWI q0 q1 r15_l4 (0 : Int32)) [(.int (lcmpW r15_l4 (3600000 : Int64)))]) t := by
      intro t k
      show own_S p e below T41 (mkF m 48 (own_AJWJWJWI q0 q1 r15_l4 (0 : Int32)) [(.int (lcmpW r15_l4 (3600000 : Int64)))]) _
      refine XS.ifYes X41.here hx rfl (pc0 := 48) (pc' := 57) rfl (hb hby d2_48) rfl ((if0 _ _).trans (tlt hc48).1) (by decide) (by decide) ?_
      show own_S p e below T41 (mkF m 57 (own_AJWJWJWI q0 q1 r15_l4 (0 : Int32)) []) _
      refine XS.iload X41.here hx rfl (hb hby d2_57) rfl ?_
      exact k
    refine own_by sg59 ?_
    obtain ⟨fs, hr, hrun, hended, hW, hsame⟩ := X41.leave (v := some (.int (0 : Int32))) (fun h => by rw [Bd.returns] at h; cases h)
    refine ⟨_, _, ?_, hrun, hended, _, _, rfl, ?_, ⟨_, rfl⟩, hW, hsame.mono (by decide) (by decide)⟩
    · exact retI X41 hx Bd.returns (hb hby d2_59) hr
    · show Q2 Z q0 q1 wBUCKET_EDGES cl h0 n0 _ T41.heap _
      rw [e41]
      exact ⟨by rw [show own_age q0 q1 = r15_l4 by rw [hr15_l4, hr0_s0]; rfl]; unfold own_cnt; rw [if_pos hc48], N0, rfl⟩
  · have sg32_2 : ∀ t, own_S p e below T41 (mkF m 32 (own_AJWJWJWI q0 q1 r15_l4 (1 : Int32)) [(.int (1 : Int32))]) t → own_S p e below T41 (mkF m 48 (own_AJWJWJWI q0 q1 r15_l4 (0 : Int32)) [(.int (lcmpW r15_l4 (3600000 : Int64)))]) t := by
      intro t k
      show own_S p e below T41 (mkF m 48 (own_AJWJWJWI q0 q1 r15_l4 (0 : Int32)) [(.int (lcmpW r15_l4 (3600000 : Int64)))]) _
      refine XS.ifNo X41.here hx rfl (hb hby d2_48) rfl ((if0 _ _).trans (flt hc48).1) ?_
      show own_S p e below T41 (mkF m 51 (own_AJWJWJWI q0 q1 r15_l4 (0 : Int32)) []) _
      refine XS.iinc X41.here hx rfl (hb hby d2_51) rfl (l' := (own_AJWJWJWI q0 q1 r15_l4 (1 : Int32))) rfl ?_
      show own_S p e below T41 (mkF m 54 (own_AJWJWJWI q0 q1 r15_l4 (1 : Int32)) []) _
      refine XS.goto X41.here hx rfl (pc0 := 54) (pc' := 30) rfl (hb hby d2_54) (by decide) (by decide) ?_
      show own_S p e below T41 (mkF m 30 (own_AJWJWJWI q0 q1 r15_l4 (1 : Int32)) []) _
      refine XS.iload X41.here hx rfl (hb hby d2_30) rfl ?_
      exact k
    refine own_by sg32_2 ?_
    obtain ⟨T32_2, X32_2, e32_2, st32_2⟩ := getS2 X41 hx hZ hown (host := "") (Or.inl (hw _ (List.mem_of_getElem? (i := 8) rfl))) Via.refl e41 S_E (g := (mkF m 32 (own_AJWJWJWI q0 q1 r15_l4 (1 : Int32)) [(.int (1 : Int32))])) rfl (hb hby d2_32)
    refine own_by st32_2 ?_
    have sg41_2 : ∀ t, own_S p e below T32_2 (mkF m 41 (own_AJWJWJWI q0 q1 r15_l4 (1 : Int32)) [(.long r15_l4)]) t → own_S p e below T32_2 (mkF m 35 (own_AJWJWJWI q0 q1 r15_l4 (1 : Int32)) [(.ref wBUCKET_EDGES), (.int (1 : Int32))]) t := by
      intro t k
      show own_S p e below T32_2 (mkF m 35 (own_AJWJWJWI q0 q1 r15_l4 (1 : Int32)) [(.ref wBUCKET_EDGES), (.int (1 : Int32))]) _
      refine X32_2.arraylength hx (by rw [e32_2]; exact Ar.1) (State.isArrayOf_alike hZ.alike Ar.2.1) (g := (mkF m 35 (own_AJWJWJWI q0 q1 r15_l4 (1 : Int32)) [(.ref wBUCKET_EDGES), (.int (1 : Int32))])) rfl rfl (hb hby d2_35) _ ?_
      rw [hsz]
      show own_S p e below T32_2 (mkF m 36 (own_AJWJWJWI q0 q1 r15_l4 (1 : Int32)) [(.int (8 : Int32)), (.int (1 : Int32))]) _
      refine XS.icmpNo X32_2.here hx rfl (hb hby d2_36) rfl (tlt (by decide : (1 : Int32) < (8 : Int32))).2.1 ?_
      show own_S p e below T32_2 (mkF m 39 (own_AJWJWJWI q0 q1 r15_l4 (1 : Int32)) []) _
      refine XS.lload X32_2.here hx rfl (hb hby d2_39) rfl ?_
      exact k
    refine own_by sg41_2 ?_
    obtain ⟨T41_2, X41_2, e41_2, st41_2⟩ := getS2 X32_2 hx hZ hown (host := "") (Or.inl (hw _ (List.mem_of_getElem? (i := 8) rfl))) Via.refl e32_2 S_E (g := (mkF m 41 (own_AJWJWJWI q0 q1 r15_l4 (1 : Int32)) [(.long r15_l4)])) rfl (hb hby d2_41)
    refine own_by st41_2 ?_
    have sg48_2 : ∀ t, own_S p e below T41_2 (mkF m 48 (own_AJWJWJWI q0 q1 r15_l4 (1 : Int32)) [(.int (lcmpW r15_l4 (21600000 : Int64)))]) t → own_S p e below T41_2 (mkF m 44 (own_AJWJWJWI q0 q1 r15_l4 (1 : Int32)) [(.ref wBUCKET_EDGES), (.long r15_l4)]) t := by
      intro t k
      show own_S p e below T41_2 (mkF m 44 (own_AJWJWJWI q0 q1 r15_l4 (1 : Int32)) [(.ref wBUCKET_EDGES), (.long r15_l4)]) _
      refine XS.iload X41_2.here hx rfl (hb hby d2_44) rfl ?_
      show own_S p e below T41_2 (mkF m 46 (own_AJWJWJWI q0 q1 r15_l4 (1 : Int32)) [(.int (1 : Int32)), (.ref wBUCKET_EDGES), (.long r15_l4)]) _
      refine X41_2.laload hx (j := (1 : Int32)) (v := (.long (21600000 : Int64))) (by rw [e41_2]; exact Ar.1) (State.isArrayOf_alike hZ.alike Ar.2.1) Ar.2.2 (by rw [hsz]; decide) hat1 (g := (mkF m 46 (own_AJWJWJWI q0 q1 r15_l4 (1 : Int32)) [(.int (1 : Int32)), (.ref wBUCKET_EDGES), (.long r15_l4)])) rfl rfl (hb hby d2_46) _ ?_
      show own_S p e below T41_2 (mkF m 47 (own_AJWJWJWI q0 q1 r15_l4 (1 : Int32)) [(.long (21600000 : Int64)), (.long r15_l4)]) _
      refine XS.lcmp X41_2.here hx rfl (hb hby d2_47) rfl ?_
      exact k
    refine own_by sg48_2 ?_
    by_cases hc48_2 : (lcmpW r15_l4 (21600000 : Int64)) < (0 : Int32)
    · have sg59 : ∀ t, own_S p e below T41_2 (mkF m 59 (own_AJWJWJWI q0 q1 r15_l4 (1 : Int32)) [(.int (1 : Int32))]) t → own_S p e below T41_2 (mkF m 48 (own_AJWJWJWI q0 q1 r15_l4 (1 : Int32)) [(.int (lcmpW r15_l4 (21600000 : Int64)))]) t := by
        intro t k
        show own_S p e below T41_2 (mkF m 48 (own_AJWJWJWI q0 q1 r15_l4 (1 : Int32)) [(.int (lcmpW r15_l4 (21600000 : Int64)))]) _
        refine XS.ifYes X41_2.here hx rfl (pc0 := 48) (pc' := 57) rfl (hb hby d2_48) rfl ((if0 _ _).trans (tlt hc48_2).1) (by decide) (by decide) ?_
        show own_S p e below T41_2 (mkF m 57 (own_AJWJWJWI q0 q1 r15_l4 (1 : Int32)) []) _
        refine XS.iload X41_2.here hx rfl (hb hby d2_57) rfl ?_
        exact k
      refine own_by sg59 ?_
      obtain ⟨fs, hr, hrun, hended, hW, hsame⟩ := X41_2.leave (v := some (.int (1 : Int32))) (fun h => by rw [Bd.returns] at h; cases h)
      refine ⟨_, _, ?_, hrun, hended, _, _, rfl, ?_, ⟨_, rfl⟩, hW, hsame.mono (by decide) (by decide)⟩
      · exact retI X41_2 hx Bd.returns (hb hby d2_59) hr
      · show Q2 Z q0 q1 wBUCKET_EDGES cl h0 n0 _ T41_2.heap _
        rw [e41_2]
        exact ⟨by rw [show own_age q0 q1 = r15_l4 by rw [hr15_l4, hr0_s0]; rfl]; unfold own_cnt; rw [if_neg hc48, if_pos hc48_2], N0, rfl⟩
    · have sg32_3 : ∀ t, own_S p e below T41_2 (mkF m 32 (own_AJWJWJWI q0 q1 r15_l4 (2 : Int32)) [(.int (2 : Int32))]) t → own_S p e below T41_2 (mkF m 48 (own_AJWJWJWI q0 q1 r15_l4 (1 : Int32)) [(.int (lcmpW r15_l4 (21600000 : Int64)))]) t := by
        intro t k
        show own_S p e below T41_2 (mkF m 48 (own_AJWJWJWI q0 q1 r15_l4 (1 : Int32)) [(.int (lcmpW r15_l4 (21600000 : Int64)))]) _
        refine XS.ifNo X41_2.here hx rfl (hb hby d2_48) rfl ((if0 _ _).trans (flt hc48_2).1) ?_
        show own_S p e below T41_2 (mkF m 51 (own_AJWJWJWI q0 q1 r15_l4 (1 : Int32)) []) _
        refine XS.iinc X41_2.here hx rfl (hb hby d2_51) rfl (l' := (own_AJWJWJWI q0 q1 r15_l4 (2 : Int32))) rfl ?_
        show own_S p e below T41_2 (mkF m 54 (own_AJWJWJWI q0 q1 r15_l4 (2 : Int32)) []) _
        refine XS.goto X41_2.here hx rfl (pc0 := 54) (pc' := 30) rfl (hb hby d2_54) (by decide) (by decide) ?_
        show own_S p e below T41_2 (mkF m 30 (own_AJWJWJWI q0 q1 r15_l4 (2 : Int32)) []) _
        refine XS.iload X41_2.here hx rfl (hb hby d2_30) rfl ?_
        exact k
      refine own_by sg32_3 ?_
      obtain ⟨T32_3, X32_3, e32_3, st32_3⟩ := getS2 X41_2 hx hZ hown (host := "") (Or.inl (hw _ (List.mem_of_getElem? (i := 8) rfl))) Via.refl e41_2 S_E (g := (mkF m 32 (own_AJWJWJWI q0 q1 r15_l4 (2 : Int32)) [(.int (2 : Int32))])) rfl (hb hby d2_32)
      refine own_by st32_3 ?_
      have sg41_3 : ∀ t, own_S p e below T32_3 (mkF m 41 (own_AJWJWJWI q0 q1 r15_l4 (2 : Int32)) [(.long r15_l4)]) t → own_S p e below T32_3 (mkF m 35 (own_AJWJWJWI q0 q1 r15_l4 (2 : Int32)) [(.ref wBUCKET_EDGES), (.int (2 : Int32))]) t := by
        intro t k
        show own_S p e below T32_3 (mkF m 35 (own_AJWJWJWI q0 q1 r15_l4 (2 : Int32)) [(.ref wBUCKET_EDGES), (.int (2 : Int32))]) _
        refine X32_3.arraylength hx (by rw [e32_3]; exact Ar.1) (State.isArrayOf_alike hZ.alike Ar.2.1) (g := (mkF m 35 (own_AJWJWJWI q0 q1 r15_l4 (2 : Int32)) [(.ref wBUCKET_EDGES), (.int (2 : Int32))])) rfl rfl (hb hby d2_35) _ ?_
        rw [hsz]
        show own_S p e below T32_3 (mkF m 36 (own_AJWJWJWI q0 q1 r15_l4 (2 : Int32)) [(.int (8 : Int32)), (.int (2 : Int32))]) _
        refine XS.icmpNo X32_3.here hx rfl (hb hby d2_36) rfl (tlt (by decide : (2 : Int32) < (8 : Int32))).2.1 ?_
        show own_S p e below T32_3 (mkF m 39 (own_AJWJWJWI q0 q1 r15_l4 (2 : Int32)) []) _
        refine XS.lload X32_3.here hx rfl (hb hby d2_39) rfl ?_
        exact k
      refine own_by sg41_3 ?_
      obtain ⟨T41_3, X41_3, e41_3, st41_3⟩ := getS2 X32_3 hx hZ hown (host := "") (Or.inl (hw _ (List.mem_of_getElem? (i := 8) rfl))) Via.refl e32_3 S_E (g := (mkF m 41 (own_AJWJWJWI q0 q1 r15_l4 (2 : Int32)) [(.long r15_l4)])) rfl (hb hby d2_41)
      refine own_by st41_3 ?_
      have sg48_3 : ∀ t, own_S p e below T41_3 (mkF m 48 (own_AJWJWJWI q0 q1 r15_l4 (2 : Int32)) [(.int (lcmpW r15_l4 (86400000 : Int64)))]) t → own_S p e below T41_3 (mkF m 44 (own_AJWJWJWI q0 q1 r15_l4 (2 : Int32)) [(.ref wBUCKET_EDGES), (.long r15_l4)]) t := by
        intro t k
        show own_S p e below T41_3 (mkF m 44 (own_AJWJWJWI q0 q1 r15_l4 (2 : Int32)) [(.ref wBUCKET_EDGES), (.long r15_l4)]) _
        refine XS.iload X41_3.here hx rfl (hb hby d2_44) rfl ?_
        show own_S p e below T41_3 (mkF m 46 (own_AJWJWJWI q0 q1 r15_l4 (2 : Int32)) [(.int (2 : Int32)), (.ref wBUCKET_EDGES), (.long r15_l4)]) _
        refine X41_3.laload hx (j := (2 : Int32)) (v := (.long (86400000 : Int64))) (by rw [e41_3]; exact Ar.1) (State.isArrayOf_alike hZ.alike Ar.2.1) Ar.2.2 (by rw [hsz]; decide) hat2 (g := (mkF m 46 (own_AJWJWJWI q0 q1 r15_l4 (2 : Int32)) [(.int (2 : Int32)), (.ref wBUCKET_EDGES), (.long r15_l4)])) rfl rfl (hb hby d2_46) _ ?_
        show own_S p e below T41_3 (mkF m 47 (own_AJWJWJWI q0 q1 r15_l4 (2 : Int32)) [(.long (86400000 : Int64)), (.long r15_l4)]) _
        refine XS.lcmp X41_3.here hx rfl (hb hby d2_47) rfl ?_
        exact k
      refine own_by sg48_3 ?_
      by_cases hc48_3 : (lcmpW r15_l4 (86400000 : Int64)) < (0 : Int32)
      · have sg59 : ∀ t, own_S p e below T41_3 (mkF m 59 (own_AJWJWJWI q0 q1 r15_l4 (2 : Int32)) [(.int (2 : Int32))]) t → own_S p e below T41_3 (mkF m 48 (own_AJWJWJWI q0 q1 r15_l4 (2 : Int32)) [(.int (lcmpW r15_l4 (86400000 : Int64)))]) t := by
          intro t k
          show own_S p e below T41_3 (mkF m 48 (own_AJWJWJWI q0 q1 r15_l4 (2 : Int32)) [(.int (lcmpW r15_l4 (86400000 : Int64)))]) _
          refine XS.ifYes X41_3.here hx rfl (pc0 := 48) (pc' := 57) rfl (hb hby d2_48) rfl ((if0 _ _).trans (tlt hc48_3).1) (by decide) (by decide) ?_
          show own_S p e below T41_3 (mkF m 57 (own_AJWJWJWI q0 q1 r15_l4 (2 : Int32)) []) _
          refine XS.iload X41_3.here hx rfl (hb hby d2_57) rfl ?_
          exact k
        refine own_by sg59 ?_
        obtain ⟨fs, hr, hrun, hended, hW, hsame⟩ := X41_3.leave (v := some (.int (2 : Int32))) (fun h => by rw [Bd.returns] at h; cases h)
        refine ⟨_, _, ?_, hrun, hended, _, _, rfl, ?_, ⟨_, rfl⟩, hW, hsame.mono (by decide) (by decide)⟩
        · exact retI X41_3 hx Bd.returns (hb hby d2_59) hr
        · show Q2 Z q0 q1 wBUCKET_EDGES cl h0 n0 _ T41_3.heap _
          rw [e41_3]
          exact ⟨by rw [show own_age q0 q1 = r15_l4 by rw [hr15_l4, hr0_s0]; rfl]; unfold own_cnt; rw [if_neg hc48, if_neg hc48_2, if_pos hc48_3], N0, rfl⟩
      · have sg32_4 : ∀ t, own_S p e below T41_3 (mkF m 32 (own_AJWJWJWI q0 q1 r15_l4 (3 : Int32)) [(.int (3 : Int32))]) t → own_S p e below T41_3 (mkF m 48 (own_AJWJWJWI q0 q1 r15_l4 (2 : Int32)) [(.int (lcmpW r15_l4 (86400000 : Int64)))]) t := by
          intro t k
          show own_S p e below T41_3 (mkF m 48 (own_AJWJWJWI q0 q1 r15_l4 (2 : Int32)) [(.int (lcmpW r15_l4 (86400000 : Int64)))]) _
          refine XS.ifNo X41_3.here hx rfl (hb hby d2_48) rfl ((if0 _ _).trans (flt hc48_3).1) ?_
          show own_S p e below T41_3 (mkF m 51 (own_AJWJWJWI q0 q1 r15_l4 (2 : Int32)) []) _
          refine XS.iinc X41_3.here hx rfl (hb hby d2_51) rfl (l' := (own_AJWJWJWI q0 q1 r15_l4 (3 : Int32))) rfl ?_
          show own_S p e below T41_3 (mkF m 54 (own_AJWJWJWI q0 q1 r15_l4 (3 : Int32)) []) _
          refine XS.goto X41_3.here hx rfl (pc0 := 54) (pc' := 30) rfl (hb hby d2_54) (by decide) (by decide) ?_
          show own_S p e below T41_3 (mkF m 30 (own_AJWJWJWI q0 q1 r15_l4 (3 : Int32)) []) _
          refine XS.iload X41_3.here hx rfl (hb hby d2_30) rfl ?_
          exact k
        refine own_by sg32_4 ?_
        obtain ⟨T32_4, X32_4, e32_4, st32_4⟩ := getS2 X41_3 hx hZ hown (host := "") (Or.inl (hw _ (List.mem_of_getElem? (i := 8) rfl))) Via.refl e41_3 S_E (g := (mkF m 32 (own_AJWJWJWI q0 q1 r15_l4 (3 : Int32)) [(.int (3 : Int32))])) rfl (hb hby d2_32)
        refine own_by st32_4 ?_
        have sg41_4 : ∀ t, own_S p e below T32_4 (mkF m 41 (own_AJWJWJWI q0 q1 r15_l4 (3 : Int32)) [(.long r15_l4)]) t → own_S p e below T32_4 (mkF m 35 (own_AJWJWJWI q0 q1 r15_l4 (3 : Int32)) [(.ref wBUCKET_EDGES), (.int (3 : Int32))]) t := by
          intro t k
          show own_S p e below T32_4 (mkF m 35 (own_AJWJWJWI q0 q1 r15_l4 (3 : Int32)) [(.ref wBUCKET_EDGES), (.int (3 : Int32))]) _
          refine X32_4.arraylength hx (by rw [e32_4]; exact Ar.1) (State.isArrayOf_alike hZ.alike Ar.2.1) (g := (mkF m 35 (own_AJWJWJWI q0 q1 r15_l4 (3 : Int32)) [(.ref wBUCKET_EDGES), (.int (3 : Int32))])) rfl rfl (hb hby d2_35) _ ?_
          rw [hsz]
          show own_S p e below T32_4 (mkF m 36 (own_AJWJWJWI q0 q1 r15_l4 (3 : Int32)) [(.int (8 : Int32)), (.int (3 : Int32))]) _
          refine XS.icmpNo X32_4.here hx rfl (hb hby d2_36) rfl (tlt (by decide : (3 : Int32) < (8 : Int32))).2.1 ?_
          show own_S p e below T32_4 (mkF m 39 (own_AJWJWJWI q0 q1 r15_l4 (3 : Int32)) []) _
          refine XS.lload X32_4.here hx rfl (hb hby d2_39) rfl ?_
          exact k
        refine own_by sg41_4 ?_
        obtain ⟨T41_4, X41_4, e41_4, st41_4⟩ := getS2 X32_4 hx hZ hown (host := "") (Or.inl (hw _ (List.mem_of_getElem? (i := 8) rfl))) Via.refl e32_4 S_E (g := (mkF m 41 (own_AJWJWJWI q0 q1 r15_l4 (3 : Int32)) [(.long r15_l4)])) rfl (hb hby d2_41)
        refine own_by st41_4 ?_
        have sg48_4 : ∀ t, own_S p e below T41_4 (mkF m 48 (own_AJWJWJWI q0 q1 r15_l4 (3 : Int32)) [(.int (lcmpW r15_l4 (259200000 : Int64)))]) t → own_S p e below T41_4 (mkF m 44 (own_AJWJWJWI q0 q1 r15_l4 (3 : Int32)) [(.ref wBUCKET_EDGES), (.long r15_l4)]) t := by
          intro t k
          show own_S p e below T41_4 (mkF m 44 (own_AJWJWJWI q0 q1 r15_l4 (3 : Int32)) [(.ref wBUCKET_EDGES), (.long r15_l4)]) _
          refine XS.iload X41_4.here hx rfl (hb hby d2_44) rfl ?_
          show own_S p e below T41_4 (mkF m 46 (own_AJWJWJWI q0 q1 r15_l4 (3 : Int32)) [(.int (3 : Int32)), (.ref wBUCKET_EDGES), (.long r15_l4)]) _
          refine X41_4.laload hx (j := (3 : Int32)) (v := (.long (259200000 : Int64))) (by rw [e41_4]; exact Ar.1) (State.isArrayOf_alike hZ.alike Ar.2.1) Ar.2.2 (by rw [hsz]; decide) hat3 (g := (mkF m 46 (own_AJWJWJWI q0 q1 r15_l4 (3 : Int32)) [(.int (3 : Int32)), (.ref wBUCKET_EDGES), (.long r15_l4)])) rfl rfl (hb hby d2_46) _ ?_
          show own_S p e below T41_4 (mkF m 47 (own_AJWJWJWI q0 q1 r15_l4 (3 : Int32)) [(.long (259200000 : Int64)), (.long r15_l4)]) _
          refine XS.lcmp X41_4.here hx rfl (hb hby d2_47) rfl ?_
          exact k
        refine own_by sg48_4 ?_
        by_cases hc48_4 : (lcmpW r15_l4 (259200000 : Int64)) < (0 : Int32)
        · have sg59 : ∀ t, own_S p e below T41_4 (mkF m 59 (own_AJWJWJWI q0 q1 r15_l4 (3 : Int32)) [(.int (3 : Int32))]) t → own_S p e below T41_4 (mkF m 48 (own_AJWJWJWI q0 q1 r15_l4 (3 : Int32)) [(.int (lcmpW r15_l4 (259200000 : Int64)))]) t := by
            intro t k
            show own_S p e below T41_4 (mkF m 48 (own_AJWJWJWI q0 q1 r15_l4 (3 : Int32)) [(.int (lcmpW r15_l4 (259200000 : Int64)))]) _
            refine XS.ifYes X41_4.here hx rfl (pc0 := 48) (pc' := 57) rfl (hb hby d2_48) rfl ((if0 _ _).trans (tlt hc48_4).1) (by decide) (by decide) ?_
            show own_S p e below T41_4 (mkF m 57 (own_AJWJWJWI q0 q1 r15_l4 (3 : Int32)) []) _
            refine XS.iload X41_4.here hx rfl (hb hby d2_57) rfl ?_
            exact k
          refine own_by sg59 ?_
          obtain ⟨fs, hr, hrun, hended, hW, hsame⟩ := X41_4.leave (v := some (.int (3 : Int32))) (fun h => by rw [Bd.returns] at h; cases h)
          refine ⟨_, _, ?_, hrun, hended, _, _, rfl, ?_, ⟨_, rfl⟩, hW, hsame.mono (by decide) (by decide)⟩
          · exact retI X41_4 hx Bd.returns (hb hby d2_59) hr
          · show Q2 Z q0 q1 wBUCKET_EDGES cl h0 n0 _ T41_4.heap _
            rw [e41_4]
            exact ⟨by rw [show own_age q0 q1 = r15_l4 by rw [hr15_l4, hr0_s0]; rfl]; unfold own_cnt; rw [if_neg hc48, if_neg hc48_2, if_neg hc48_3, if_pos hc48_4], N0, rfl⟩
        · have sg32_5 : ∀ t, own_S p e below T41_4 (mkF m 32 (own_AJWJWJWI q0 q1 r15_l4 (4 : Int32)) [(.int (4 : Int32))]) t → own_S p e below T41_4 (mkF m 48 (own_AJWJWJWI q0 q1 r15_l4 (3 : Int32)) [(.int (lcmpW r15_l4 (259200000 : Int64)))]) t := by
            intro t k
            show own_S p e below T41_4 (mkF m 48 (own_AJWJWJWI q0 q1 r15_l4 (3 : Int32)) [(.int (lcmpW r15_l4 (259200000 : Int64)))]) _
            refine XS.ifNo X41_4.here hx rfl (hb hby d2_48) rfl ((if0 _ _).trans (flt hc48_4).1) ?_
            show own_S p e below T41_4 (mkF m 51 (own_AJWJWJWI q0 q1 r15_l4 (3 : Int32)) []) _
            refine XS.iinc X41_4.here hx rfl (hb hby d2_51) rfl (l' := (own_AJWJWJWI q0 q1 r15_l4 (4 : Int32))) rfl ?_
            show own_S p e below T41_4 (mkF m 54 (own_AJWJWJWI q0 q1 r15_l4 (4 : Int32)) []) _
            refine XS.goto X41_4.here hx rfl (pc0 := 54) (pc' := 30) rfl (hb hby d2_54) (by decide) (by decide) ?_
            show own_S p e below T41_4 (mkF m 30 (own_AJWJWJWI q0 q1 r15_l4 (4 : Int32)) []) _
            refine XS.iload X41_4.here hx rfl (hb hby d2_30) rfl ?_
            exact k
          refine own_by sg32_5 ?_
          obtain ⟨T32_5, X32_5, e32_5, st32_5⟩ := getS2 X41_4 hx hZ hown (host := "") (Or.inl (hw _ (List.mem_of_getElem? (i := 8) rfl))) Via.refl e41_4 S_E (g := (mkF m 32 (own_AJWJWJWI q0 q1 r15_l4 (4 : Int32)) [(.int (4 : Int32))])) rfl (hb hby d2_32)
          refine own_by st32_5 ?_
          have sg41_5 : ∀ t, own_S p e below T32_5 (mkF m 41 (own_AJWJWJWI q0 q1 r15_l4 (4 : Int32)) [(.long r15_l4)]) t → own_S p e below T32_5 (mkF m 35 (own_AJWJWJWI q0 q1 r15_l4 (4 : Int32)) [(.ref wBUCKET_EDGES), (.int (4 : Int32))]) t := by
            intro t k
            show own_S p e below T32_5 (mkF m 35 (own_AJWJWJWI q0 q1 r15_l4 (4 : Int32)) [(.ref wBUCKET_EDGES), (.int (4 : Int32))]) _
            refine X32_5.arraylength hx (by rw [e32_5]; exact Ar.1) (State.isArrayOf_alike hZ.alike Ar.2.1) (g := (mkF m 35 (own_AJWJWJWI q0 q1 r15_l4 (4 : Int32)) [(.ref wBUCKET_EDGES), (.int (4 : Int32))])) rfl rfl (hb hby d2_35) _ ?_
            rw [hsz]
            show own_S p e below T32_5 (mkF m 36 (own_AJWJWJWI q0 q1 r15_l4 (4 : Int32)) [(.int (8 : Int32)), (.int (4 : Int32))]) _
            refine XS.icmpNo X32_5.here hx rfl (hb hby d2_36) rfl (tlt (by decide : (4 : Int32) < (8 : Int32))).2.1 ?_
            show own_S p e below T32_5 (mkF m 39 (own_AJWJWJWI q0 q1 r15_l4 (4 : Int32)) []) _
            refine XS.lload X32_5.here hx rfl (hb hby d2_39) rfl ?_
            exact k
          refine own_by sg41_5 ?_
          obtain ⟨T41_5, X41_5, e41_5, st41_5⟩ := getS2 X32_5 hx hZ hown (host := "") (Or.inl (hw _ (List.mem_of_getElem? (i := 8) rfl))) Via.refl e32_5 S_E (g := (mkF m 41 (own_AJWJWJWI q0 q1 r15_l4 (4 : Int32)) [(.long r15_l4)])) rfl (hb hby d2_41)
          refine own_by st41_5 ?_
          have sg48_5 : ∀ t, own_S p e below T41_5 (mkF m 48 (own_AJWJWJWI q0 q1 r15_l4 (4 : Int32)) [(.int (lcmpW r15_l4 (604800000 : Int64)))]) t → own_S p e below T41_5 (mkF m 44 (own_AJWJWJWI q0 q1 r15_l4 (4 : Int32)) [(.ref wBUCKET_EDGES), (.long r15_l4)]) t := by
            intro t k
            show own_S p e below T41_5 (mkF m 44 (own_AJWJWJWI q0 q1 r15_l4 (4 : Int32)) [(.ref wBUCKET_EDGES), (.long r15_l4)]) _
            refine XS.iload X41_5.here hx rfl (hb hby d2_44) rfl ?_
            show own_S p e below T41_5 (mkF m 46 (own_AJWJWJWI q0 q1 r15_l4 (4 : Int32)) [(.int (4 : Int32)), (.ref wBUCKET_EDGES), (.long r15_l4)]) _
            refine X41_5.laload hx (j := (4 : Int32)) (v := (.long (604800000 : Int64))) (by rw [e41_5]; exact Ar.1) (State.isArrayOf_alike hZ.alike Ar.2.1) Ar.2.2 (by rw [hsz]; decide) hat4 (g := (mkF m 46 (own_AJWJWJWI q0 q1 r15_l4 (4 : Int32)) [(.int (4 : Int32)), (.ref wBUCKET_EDGES), (.long r15_l4)])) rfl rfl (hb hby d2_46) _ ?_
            show own_S p e below T41_5 (mkF m 47 (own_AJWJWJWI q0 q1 r15_l4 (4 : Int32)) [(.long (604800000 : Int64)), (.long r15_l4)]) _
            refine XS.lcmp X41_5.here hx rfl (hb hby d2_47) rfl ?_
            exact k
          refine own_by sg48_5 ?_
          by_cases hc48_5 : (lcmpW r15_l4 (604800000 : Int64)) < (0 : Int32)
          · have sg59 : ∀ t, own_S p e below T41_5 (mkF m 59 (own_AJWJWJWI q0 q1 r15_l4 (4 : Int32)) [(.int (4 : Int32))]) t → own_S p e below T41_5 (mkF m 48 (own_AJWJWJWI q0 q1 r15_l4 (4 : Int32)) [(.int (lcmpW r15_l4 (604800000 : Int64)))]) t := by
              intro t k
              show own_S p e below T41_5 (mkF m 48 (own_AJWJWJWI q0 q1 r15_l4 (4 : Int32)) [(.int (lcmpW r15_l4 (604800000 : Int64)))]) _
              refine XS.ifYes X41_5.here hx rfl (pc0 := 48) (pc' := 57) rfl (hb hby d2_48) rfl ((if0 _ _).trans (tlt hc48_5).1) (by decide) (by decide) ?_
              show own_S p e below T41_5 (mkF m 57 (own_AJWJWJWI q0 q1 r15_l4 (4 : Int32)) []) _
              refine XS.iload X41_5.here hx rfl (hb hby d2_57) rfl ?_
              exact k
            refine own_by sg59 ?_
            obtain ⟨fs, hr, hrun, hended, hW, hsame⟩ := X41_5.leave (v := some (.int (4 : Int32))) (fun h => by rw [Bd.returns] at h; cases h)
            refine ⟨_, _, ?_, hrun, hended, _, _, rfl, ?_, ⟨_, rfl⟩, hW, hsame.mono (by decide) (by decide)⟩
            · exact retI X41_5 hx Bd.returns (hb hby d2_59) hr
            · show Q2 Z q0 q1 wBUCKET_EDGES cl h0 n0 _ T41_5.heap _
              rw [e41_5]
              exact ⟨by rw [show own_age q0 q1 = r15_l4 by rw [hr15_l4, hr0_s0]; rfl]; unfold own_cnt; rw [if_neg hc48, if_neg hc48_2, if_neg hc48_3, if_neg hc48_4, if_pos hc48_5], N0, rfl⟩
          · have sg32_6 : ∀ t, own_S p e below T41_5 (mkF m 32 (own_AJWJWJWI q0 q1 r15_l4 (5 : Int32)) [(.int (5 : Int32))]) t → own_S p e below T41_5 (mkF m 48 (own_AJWJWJWI q0 q1 r15_l4 (4 : Int32)) [(.int (lcmpW r15_l4 (604800000 : Int64)))]) t := by
              intro t k
              show own_S p e below T41_5 (mkF m 48 (own_AJWJWJWI q0 q1 r15_l4 (4 : Int32)) [(.int (lcmpW r15_l4 (604800000 : Int64)))]) _
              refine XS.ifNo X41_5.here hx rfl (hb hby d2_48) rfl ((if0 _ _).trans (flt hc48_5).1) ?_
              show own_S p e below T41_5 (mkF m 51 (own_AJWJWJWI q0 q1 r15_l4 (4 : Int32)) []) _
              refine XS.iinc X41_5.here hx rfl (hb hby d2_51) rfl (l' := (own_AJWJWJWI q0 q1 r15_l4 (5 : Int32))) rfl ?_
              show own_S p e below T41_5 (mkF m 54 (own_AJWJWJWI q0 q1 r15_l4 (5 : Int32)) []) _
              refine XS.goto X41_5.here hx rfl (pc0 := 54) (pc' := 30) rfl (hb hby d2_54) (by decide) (by decide) ?_
              show own_S p e below T41_5 (mkF m 30 (own_AJWJWJWI q0 q1 r15_l4 (5 : Int32)) []) _
              refine XS.iload X41_5.here hx rfl (hb hby d2_30) rfl ?_
              exact k
            refine own_by sg32_6 ?_
            obtain ⟨T32_6, X32_6, e32_6, st32_6⟩ := getS2 X41_5 hx hZ hown (host := "") (Or.inl (hw _ (List.mem_of_getElem? (i := 8) rfl))) Via.refl e41_5 S_E (g := (mkF m 32 (own_AJWJWJWI q0 q1 r15_l4 (5 : Int32)) [(.int (5 : Int32))])) rfl (hb hby d2_32)
            refine own_by st32_6 ?_
            have sg41_6 : ∀ t, own_S p e below T32_6 (mkF m 41 (own_AJWJWJWI q0 q1 r15_l4 (5 : Int32)) [(.long r15_l4)]) t → own_S p e below T32_6 (mkF m 35 (own_AJWJWJWI q0 q1 r15_l4 (5 : Int32)) [(.ref wBUCKET_EDGES), (.int (5 : Int32))]) t := by
              intro t k
              show own_S p e below T32_6 (mkF m 35 (own_AJWJWJWI q0 q1 r15_l4 (5 : Int32)) [(.ref wBUCKET_EDGES), (.int (5 : Int32))]) _
              refine X32_6.arraylength hx (by rw [e32_6]; exact Ar.1) (State.isArrayOf_alike hZ.alike Ar.2.1) (g := (mkF m 35 (own_AJWJWJWI q0 q1 r15_l4 (5 : Int32)) [(.ref wBUCKET_EDGES), (.int (5 : Int32))])) rfl rfl (hb hby d2_35) _ ?_
              rw [hsz]
              show own_S p e below T32_6 (mkF m 36 (own_AJWJWJWI q0 q1 r15_l4 (5 : Int32)) [(.int (8 : Int32)), (.int (5 : Int32))]) _
              refine XS.icmpNo X32_6.here hx rfl (hb hby d2_36) rfl (tlt (by decide : (5 : Int32) < (8 : Int32))).2.1 ?_
              show own_S p e below T32_6 (mkF m 39 (own_AJWJWJWI q0 q1 r15_l4 (5 : Int32)) []) _
              refine XS.lload X32_6.here hx rfl (hb hby d2_39) rfl ?_
              exact k
            refine own_by sg41_6 ?_
            obtain ⟨T41_6, X41_6, e41_6, st41_6⟩ := getS2 X32_6 hx hZ hown (host := "") (Or.inl (hw _ (List.mem_of_getElem? (i := 8) rfl))) Via.refl e32_6 S_E (g := (mkF m 41 (own_AJWJWJWI q0 q1 r15_l4 (5 : Int32)) [(.long r15_l4)])) rfl (hb hby d2_41)
            refine own_by st41_6 ?_
            have sg48_6 : ∀ t, own_S p e below T41_6 (mkF m 48 (own_AJWJWJWI q0 q1 r15_l4 (5 : Int32)) [(.int (lcmpW r15_l4 (1209600000 : Int64)))]) t → own_S p e below T41_6 (mkF m 44 (own_AJWJWJWI q0 q1 r15_l4 (5 : Int32)) [(.ref wBUCKET_EDGES), (.long r15_l4)]) t := by
              intro t k
              show own_S p e below T41_6 (mkF m 44 (own_AJWJWJWI q0 q1 r15_l4 (5 : Int32)) [(.ref wBUCKET_EDGES), (.long r15_l4)]) _
              refine XS.iload X41_6.here hx rfl (hb hby d2_44) rfl ?_
              show own_S p e below T41_6 (mkF m 46 (own_AJWJWJWI q0 q1 r15_l4 (5 : Int32)) [(.int (5 : Int32)), (.ref wBUCKET_EDGES), (.long r15_l4)]) _
              refine X41_6.laload hx (j := (5 : Int32)) (v := (.long (1209600000 : Int64))) (by rw [e41_6]; exact Ar.1) (State.isArrayOf_alike hZ.alike Ar.2.1) Ar.2.2 (by rw [hsz]; decide) hat5 (g := (mkF m 46 (own_AJWJWJWI q0 q1 r15_l4 (5 : Int32)) [(.int (5 : Int32)), (.ref wBUCKET_EDGES), (.long r15_l4)])) rfl rfl (hb hby d2_46) _ ?_
              show own_S p e below T41_6 (mkF m 47 (own_AJWJWJWI q0 q1 r15_l4 (5 : Int32)) [(.long (1209600000 : Int64)), (.long r15_l4)]) _
              refine XS.lcmp X41_6.here hx rfl (hb hby d2_47) rfl ?_
              exact k
            refine own_by sg48_6 ?_
            by_cases hc48_6 : (lcmpW r15_l4 (1209600000 : Int64)) < (0 : Int32)
            · have sg59 : ∀ t, own_S p e below T41_6 (mkF m 59 (own_AJWJWJWI q0 q1 r15_l4 (5 : Int32)) [(.int (5 : Int32))]) t → own_S p e below T41_6 (mkF m 48 (own_AJWJWJWI q0 q1 r15_l4 (5 : Int32)) [(.int (lcmpW r15_l4 (1209600000 : Int64)))]) t := by
                intro t k
                show own_S p e below T41_6 (mkF m 48 (own_AJWJWJWI q0 q1 r15_l4 (5 : Int32)) [(.int (lcmpW r15_l4 (1209600000 : Int64)))]) _
                refine XS.ifYes X41_6.here hx rfl (pc0 := 48) (pc' := 57) rfl (hb hby d2_48) rfl ((if0 _ _).trans (tlt hc48_6).1) (by decide) (by decide) ?_
                show own_S p e below T41_6 (mkF m 57 (own_AJWJWJWI q0 q1 r15_l4 (5 : Int32)) []) _
                refine XS.iload X41_6.here hx rfl (hb hby d2_57) rfl ?_
                exact k
              refine own_by sg59 ?_
              obtain ⟨fs, hr, hrun, hended, hW, hsame⟩ := X41_6.leave (v := some (.int (5 : Int32))) (fun h => by rw [Bd.returns] at h; cases h)
              refine ⟨_, _, ?_, hrun, hended, _, _, rfl, ?_, ⟨_, rfl⟩, hW, hsame.mono (by decide) (by decide)⟩
              · exact retI X41_6 hx Bd.returns (hb hby d2_59) hr
              · show Q2 Z q0 q1 wBUCKET_EDGES cl h0 n0 _ T41_6.heap _
                rw [e41_6]
                exact ⟨by rw [show own_age q0 q1 = r15_l4 by rw [hr15_l4, hr0_s0]; rfl]; unfold own_cnt; rw [if_neg hc48, if_neg hc48_2, if_neg hc48_3, if_neg hc48_4, if_neg hc48_5, if_pos hc48_6], N0, rfl⟩
            · have sg32_7 : ∀ t, own_S p e below T41_6 (mkF m 32 (own_AJWJWJWI q0 q1 r15_l4 (6 : Int32)) [(.int (6 : Int32))]) t → own_S p e below T41_6 (mkF m 48 (own_AJWJWJWI q0 q1 r15_l4 (5 : Int32)) [(.int (lcmpW r15_l4 (1209600000 : Int64)))]) t := by
                intro t k
                show own_S p e below T41_6 (mkF m 48 (own_AJWJWJWI q0 q1 r15_l4 (5 : Int32)) [(.int (lcmpW r15_l4 (1209600000 : Int64)))]) _
                refine XS.ifNo X41_6.here hx rfl (hb hby d2_48) rfl ((if0 _ _).trans (flt hc48_6).1) ?_
                show own_S p e below T41_6 (mkF m 51 (own_AJWJWJWI q0 q1 r15_l4 (5 : Int32)) []) _
                refine XS.iinc X41_6.here hx rfl (hb hby d2_51) rfl (l' := (own_AJWJWJWI q0 q1 r15_l4 (6 : Int32))) rfl ?_
                show own_S p e below T41_6 (mkF m 54 (own_AJWJWJWI q0 q1 r15_l4 (6 : Int32)) []) _
                refine XS.goto X41_6.here hx rfl (pc0 := 54) (pc' := 30) rfl (hb hby d2_54) (by decide) (by decide) ?_
                show own_S p e below T41_6 (mkF m 30 (own_AJWJWJWI q0 q1 r15_l4 (6 : Int32)) []) _
                refine XS.iload X41_6.here hx rfl (hb hby d2_30) rfl ?_
                exact k
              refine own_by sg32_7 ?_
              obtain ⟨T32_7, X32_7, e32_7, st32_7⟩ := getS2 X41_6 hx hZ hown (host := "") (Or.inl (hw _ (List.mem_of_getElem? (i := 8) rfl))) Via.refl e41_6 S_E (g := (mkF m 32 (own_AJWJWJWI q0 q1 r15_l4 (6 : Int32)) [(.int (6 : Int32))])) rfl (hb hby d2_32)
              refine own_by st32_7 ?_
              have sg41_7 : ∀ t, own_S p e below T32_7 (mkF m 41 (own_AJWJWJWI q0 q1 r15_l4 (6 : Int32)) [(.long r15_l4)]) t → own_S p e below T32_7 (mkF m 35 (own_AJWJWJWI q0 q1 r15_l4 (6 : Int32)) [(.ref wBUCKET_EDGES), (.int (6 : Int32))]) t := by
                intro t k
                show own_S p e below T32_7 (mkF m 35 (own_AJWJWJWI q0 q1 r15_l4 (6 : Int32)) [(.ref wBUCKET_EDGES), (.int (6 : Int32))]) _
                refine X32_7.arraylength hx (by rw [e32_7]; exact Ar.1) (State.isArrayOf_alike hZ.alike Ar.2.1) (g := (mkF m 35 (own_AJWJWJWI q0 q1 r15_l4 (6 : Int32)) [(.ref wBUCKET_EDGES), (.int (6 : Int32))])) rfl rfl (hb hby d2_35) _ ?_
                rw [hsz]
                show own_S p e below T32_7 (mkF m 36 (own_AJWJWJWI q0 q1 r15_l4 (6 : Int32)) [(.int (8 : Int32)), (.int (6 : Int32))]) _
                refine XS.icmpNo X32_7.here hx rfl (hb hby d2_36) rfl (tlt (by decide : (6 : Int32) < (8 : Int32))).2.1 ?_
                show own_S p e below T32_7 (mkF m 39 (own_AJWJWJWI q0 q1 r15_l4 (6 : Int32)) []) _
                refine XS.lload X32_7.here hx rfl (hb hby d2_39) rfl ?_
                exact k
              refine own_by sg41_7 ?_
              obtain ⟨T41_7, X41_7, e41_7, st41_7⟩ := getS2 X32_7 hx hZ hown (host := "") (Or.inl (hw _ (List.mem_of_getElem? (i := 8) rfl))) Via.refl e32_7 S_E (g := (mkF m 41 (own_AJWJWJWI q0 q1 r15_l4 (6 : Int32)) [(.long r15_l4)])) rfl (hb hby d2_41)
              refine own_by st41_7 ?_
              have sg48_7 : ∀ t, own_S p e below T41_7 (mkF m 48 (own_AJWJWJWI q0 q1 r15_l4 (6 : Int32)) [(.int (lcmpW r15_l4 (2419200000 : Int64)))]) t → own_S p e below T41_7 (mkF m 44 (own_AJWJWJWI q0 q1 r15_l4 (6 : Int32)) [(.ref wBUCKET_EDGES), (.long r15_l4)]) t := by
                intro t k
                show own_S p e below T41_7 (mkF m 44 (own_AJWJWJWI q0 q1 r15_l4 (6 : Int32)) [(.ref wBUCKET_EDGES), (.long r15_l4)]) _
                refine XS.iload X41_7.here hx rfl (hb hby d2_44) rfl ?_
                show own_S p e below T41_7 (mkF m 46 (own_AJWJWJWI q0 q1 r15_l4 (6 : Int32)) [(.int (6 : Int32)), (.ref wBUCKET_EDGES), (.long r15_l4)]) _
                refine X41_7.laload hx (j := (6 : Int32)) (v := (.long (2419200000 : Int64))) (by rw [e41_7]; exact Ar.1) (State.isArrayOf_alike hZ.alike Ar.2.1) Ar.2.2 (by rw [hsz]; decide) hat6 (g := (mkF m 46 (own_AJWJWJWI q0 q1 r15_l4 (6 : Int32)) [(.int (6 : Int32)), (.ref wBUCKET_EDGES), (.long r15_l4)])) rfl rfl (hb hby d2_46) _ ?_
                show own_S p e below T41_7 (mkF m 47 (own_AJWJWJWI q0 q1 r15_l4 (6 : Int32)) [(.long (2419200000 : Int64)), (.long r15_l4)]) _
                refine XS.lcmp X41_7.here hx rfl (hb hby d2_47) rfl ?_
                exact k
              refine own_by sg48_7 ?_
              by_cases hc48_7 : (lcmpW r15_l4 (2419200000 : Int64)) < (0 : Int32)
              · have sg59 : ∀ t, own_S p e below T41_7 (mkF m 59 (own_AJWJWJWI q0 q1 r15_l4 (6 : Int32)) [(.int (6 : Int32))]) t → own_S p e below T41_7 (mkF m 48 (own_AJWJWJWI q0 q1 r15_l4 (6 : Int32)) [(.int (lcmpW r15_l4 (2419200000 : Int64)))]) t := by
                  intro t k
                  show own_S p e below T41_7 (mkF m 48 (own_AJWJWJWI q0 q1 r15_l4 (6 : Int32)) [(.int (lcmpW r15_l4 (2419200000 : Int64)))]) _
                  refine XS.ifYes X41_7.here hx rfl (pc0 := 48) (pc' := 57) rfl (hb hby d2_48) rfl ((if0 _ _).trans (tlt hc48_7).1) (by decide) (by decide) ?_
                  show own_S p e below T41_7 (mkF m 57 (own_AJWJWJWI q0 q1 r15_l4 (6 : Int32)) []) _
                  refine XS.iload X41_7.here hx rfl (hb hby d2_57) rfl ?_
                  exact k
                refine own_by sg59 ?_
                obtain ⟨fs, hr, hrun, hended, hW, hsame⟩ := X41_7.leave (v := some (.int (6 : Int32))) (fun h => by rw [Bd.returns] at h; cases h)
                refine ⟨_, _, ?_, hrun, hended, _, _, rfl, ?_, ⟨_, rfl⟩, hW, hsame.mono (by decide) (by decide)⟩
                · exact retI X41_7 hx Bd.returns (hb hby d2_59) hr
                · show Q2 Z q0 q1 wBUCKET_EDGES cl h0 n0 _ T41_7.heap _
                  rw [e41_7]
                  exact ⟨by rw [show own_age q0 q1 = r15_l4 by rw [hr15_l4, hr0_s0]; rfl]; unfold own_cnt; rw [if_neg hc48, if_neg hc48_2, if_neg hc48_3, if_neg hc48_4, if_neg hc48_5, if_neg hc48_6, if_pos hc48_7], N0, rfl⟩
              · have sg32_8 : ∀ t, own_S p e below T41_7 (mkF m 32 (own_AJWJWJWI q0 q1 r15_l4 (7 : Int32)) [(.int (7 : Int32))]) t → own_S p e below T41_7 (mkF m 48 (own_AJWJWJWI q0 q1 r15_l4 (6 : Int32)) [(.int (lcmpW r15_l4 (2419200000 : Int64)))]) t := by
                  intro t k
                  show own_S p e below T41_7 (mkF m 48 (own_AJWJWJWI q0 q1 r15_l4 (6 : Int32)) [(.int (lcmpW r15_l4 (2419200000 : Int64)))]) _
                  refine XS.ifNo X41_7.here hx rfl (hb hby d2_48) rfl ((if0 _ _).trans (flt hc48_7).1) ?_
                  show own_S p e below T41_7 (mkF m 51 (own_AJWJWJWI q0 q1 r15_l4 (6 : Int32)) []) _
                  refine XS.iinc X41_7.here hx rfl (hb hby d2_51) rfl (l' := (own_AJWJWJWI q0 q1 r15_l4 (7 : Int32))) rfl ?_
                  show own_S p e below T41_7 (mkF m 54 (own_AJWJWJWI q0 q1 r15_l4 (7 : Int32)) []) _
                  refine XS.goto X41_7.here hx rfl (pc0 := 54) (pc' := 30) rfl (hb hby d2_54) (by decide) (by decide) ?_
                  show own_S p e below T41_7 (mkF m 30 (own_AJWJWJWI q0 q1 r15_l4 (7 : Int32)) []) _
                  refine XS.iload X41_7.here hx rfl (hb hby d2_30) rfl ?_
                  exact k
                refine own_by sg32_8 ?_
                obtain ⟨T32_8, X32_8, e32_8, st32_8⟩ := getS2 X41_7 hx hZ hown (host := "") (Or.inl (hw _ (List.mem_of_getElem? (i := 8) rfl))) Via.refl e41_7 S_E (g := (mkF m 32 (own_AJWJWJWI q0 q1 r15_l4 (7 : Int32)) [(.int (7 : Int32))])) rfl (hb hby d2_32)
                refine own_by st32_8 ?_
                have sg41_8 : ∀ t, own_S p e below T32_8 (mkF m 41 (own_AJWJWJWI q0 q1 r15_l4 (7 : Int32)) [(.long r15_l4)]) t → own_S p e below T32_8 (mkF m 35 (own_AJWJWJWI q0 q1 r15_l4 (7 : Int32)) [(.ref wBUCKET_EDGES), (.int (7 : Int32))]) t := by
                  intro t k
                  show own_S p e below T32_8 (mkF m 35 (own_AJWJWJWI q0 q1 r15_l4 (7 : Int32)) [(.ref wBUCKET_EDGES), (.int (7 : Int32))]) _
                  refine X32_8.arraylength hx (by rw [e32_8]; exact Ar.1) (State.isArrayOf_alike hZ.alike Ar.2.1) (g := (mkF m 35 (own_AJWJWJWI q0 q1 r15_l4 (7 : Int32)) [(.ref wBUCKET_EDGES), (.int (7 : Int32))])) rfl rfl (hb hby d2_35) _ ?_
                  rw [hsz]
                  show own_S p e below T32_8 (mkF m 36 (own_AJWJWJWI q0 q1 r15_l4 (7 : Int32)) [(.int (8 : Int32)), (.int (7 : Int32))]) _
                  refine XS.icmpNo X32_8.here hx rfl (hb hby d2_36) rfl (tlt (by decide : (7 : Int32) < (8 : Int32))).2.1 ?_
                  show own_S p e below T32_8 (mkF m 39 (own_AJWJWJWI q0 q1 r15_l4 (7 : Int32)) []) _
                  refine XS.lload X32_8.here hx rfl (hb hby d2_39) rfl ?_
                  exact k
                refine own_by sg41_8 ?_
                obtain ⟨T41_8, X41_8, e41_8, st41_8⟩ := getS2 X32_8 hx hZ hown (host := "") (Or.inl (hw _ (List.mem_of_getElem? (i := 8) rfl))) Via.refl e32_8 S_E (g := (mkF m 41 (own_AJWJWJWI q0 q1 r15_l4 (7 : Int32)) [(.long r15_l4)])) rfl (hb hby d2_41)
                refine own_by st41_8 ?_
                have sg48_8 : ∀ t, own_S p e below T41_8 (mkF m 48 (own_AJWJWJWI q0 q1 r15_l4 (7 : Int32)) [(.int (lcmpW r15_l4 (7776000000 : Int64)))]) t → own_S p e below T41_8 (mkF m 44 (own_AJWJWJWI q0 q1 r15_l4 (7 : Int32)) [(.ref wBUCKET_EDGES), (.long r15_l4)]) t := by
                  intro t k
                  show own_S p e below T41_8 (mkF m 44 (own_AJWJWJWI q0 q1 r15_l4 (7 : Int32)) [(.ref wBUCKET_EDGES), (.long r15_l4)]) _
                  refine XS.iload X41_8.here hx rfl (hb hby d2_44) rfl ?_
                  show own_S p e below T41_8 (mkF m 46 (own_AJWJWJWI q0 q1 r15_l4 (7 : Int32)) [(.int (7 : Int32)), (.ref wBUCKET_EDGES), (.long r15_l4)]) _
                  refine X41_8.laload hx (j := (7 : Int32)) (v := (.long (7776000000 : Int64))) (by rw [e41_8]; exact Ar.1) (State.isArrayOf_alike hZ.alike Ar.2.1) Ar.2.2 (by rw [hsz]; decide) hat7 (g := (mkF m 46 (own_AJWJWJWI q0 q1 r15_l4 (7 : Int32)) [(.int (7 : Int32)), (.ref wBUCKET_EDGES), (.long r15_l4)])) rfl rfl (hb hby d2_46) _ ?_
                  show own_S p e below T41_8 (mkF m 47 (own_AJWJWJWI q0 q1 r15_l4 (7 : Int32)) [(.long (7776000000 : Int64)), (.long r15_l4)]) _
                  refine XS.lcmp X41_8.here hx rfl (hb hby d2_47) rfl ?_
                  exact k
                refine own_by sg48_8 ?_
                by_cases hc48_8 : (lcmpW r15_l4 (7776000000 : Int64)) < (0 : Int32)
                · have sg59 : ∀ t, own_S p e below T41_8 (mkF m 59 (own_AJWJWJWI q0 q1 r15_l4 (7 : Int32)) [(.int (7 : Int32))]) t → own_S p e below T41_8 (mkF m 48 (own_AJWJWJWI q0 q1 r15_l4 (7 : Int32)) [(.int (lcmpW r15_l4 (7776000000 : Int64)))]) t := by
                    intro t k
                    show own_S p e below T41_8 (mkF m 48 (own_AJWJWJWI q0 q1 r15_l4 (7 : Int32)) [(.int (lcmpW r15_l4 (7776000000 : Int64)))]) _
                    refine XS.ifYes X41_8.here hx rfl (pc0 := 48) (pc' := 57) rfl (hb hby d2_48) rfl ((if0 _ _).trans (tlt hc48_8).1) (by decide) (by decide) ?_
                    show own_S p e below T41_8 (mkF m 57 (own_AJWJWJWI q0 q1 r15_l4 (7 : Int32)) []) _
                    refine XS.iload X41_8.here hx rfl (hb hby d2_57) rfl ?_
                    exact k
                  refine own_by sg59 ?_
                  obtain ⟨fs, hr, hrun, hended, hW, hsame⟩ := X41_8.leave (v := some (.int (7 : Int32))) (fun h => by rw [Bd.returns] at h; cases h)
                  refine ⟨_, _, ?_, hrun, hended, _, _, rfl, ?_, ⟨_, rfl⟩, hW, hsame.mono (by decide) (by decide)⟩
                  · exact retI X41_8 hx Bd.returns (hb hby d2_59) hr
                  · show Q2 Z q0 q1 wBUCKET_EDGES cl h0 n0 _ T41_8.heap _
                    rw [e41_8]
                    exact ⟨by rw [show own_age q0 q1 = r15_l4 by rw [hr15_l4, hr0_s0]; rfl]; unfold own_cnt; rw [if_neg hc48, if_neg hc48_2, if_neg hc48_3, if_neg hc48_4, if_neg hc48_5, if_neg hc48_6, if_neg hc48_7, if_pos hc48_8], N0, rfl⟩
                · have sg32_9 : ∀ t, own_S p e below T41_8 (mkF m 32 (own_AJWJWJWI q0 q1 r15_l4 (8 : Int32)) [(.int (8 : Int32))]) t → own_S p e below T41_8 (mkF m 48 (own_AJWJWJWI q0 q1 r15_l4 (7 : Int32)) [(.int (lcmpW r15_l4 (7776000000 : Int64)))]) t := by
                    intro t k
                    show own_S p e below T41_8 (mkF m 48 (own_AJWJWJWI q0 q1 r15_l4 (7 : Int32)) [(.int (lcmpW r15_l4 (7776000000 : Int64)))]) _
                    refine XS.ifNo X41_8.here hx rfl (hb hby d2_48) rfl ((if0 _ _).trans (flt hc48_8).1) ?_
                    show own_S p e below T41_8 (mkF m 51 (own_AJWJWJWI q0 q1 r15_l4 (7 : Int32)) []) _
                    refine XS.iinc X41_8.here hx rfl (hb hby d2_51) rfl (l' := (own_AJWJWJWI q0 q1 r15_l4 (8 : Int32))) rfl ?_
                    show own_S p e below T41_8 (mkF m 54 (own_AJWJWJWI q0 q1 r15_l4 (8 : Int32)) []) _
                    refine XS.goto X41_8.here hx rfl (pc0 := 54) (pc' := 30) rfl (hb hby d2_54) (by decide) (by decide) ?_
                    show own_S p e below T41_8 (mkF m 30 (own_AJWJWJWI q0 q1 r15_l4 (8 : Int32)) []) _
                    refine XS.iload X41_8.here hx rfl (hb hby d2_30) rfl ?_
                    exact k
                  refine own_by sg32_9 ?_
                  obtain ⟨T32_9, X32_9, e32_9, st32_9⟩ := getS2 X41_8 hx hZ hown (host := "") (Or.inl (hw _ (List.mem_of_getElem? (i := 8) rfl))) Via.refl e41_8 S_E (g := (mkF m 32 (own_AJWJWJWI q0 q1 r15_l4 (8 : Int32)) [(.int (8 : Int32))])) rfl (hb hby d2_32)
                  refine own_by st32_9 ?_
                  have sg59 : ∀ t, own_S p e below T32_9 (mkF m 59 (own_AJWJWJWI q0 q1 r15_l4 (8 : Int32)) [(.int (8 : Int32))]) t → own_S p e below T32_9 (mkF m 35 (own_AJWJWJWI q0 q1 r15_l4 (8 : Int32)) [(.ref wBUCKET_EDGES), (.int (8 : Int32))]) t := by
                    intro t k
                    show own_S p e below T32_9 (mkF m 35 (own_AJWJWJWI q0 q1 r15_l4 (8 : Int32)) [(.ref wBUCKET_EDGES), (.int (8 : Int32))]) _
                    refine X32_9.arraylength hx (by rw [e32_9]; exact Ar.1) (State.isArrayOf_alike hZ.alike Ar.2.1) (g := (mkF m 35 (own_AJWJWJWI q0 q1 r15_l4 (8 : Int32)) [(.ref wBUCKET_EDGES), (.int (8 : Int32))])) rfl rfl (hb hby d2_35) _ ?_
                    rw [hsz]
                    show own_S p e below T32_9 (mkF m 36 (own_AJWJWJWI q0 q1 r15_l4 (8 : Int32)) [(.int (8 : Int32)), (.int (8 : Int32))]) _
                    refine XS.icmpYes X32_9.here hx rfl (pc0 := 36) (pc' := 57) rfl (hb hby d2_36) rfl (flt (by decide : ¬ ((8 : Int32) < (8 : Int32)))).2.1 (by decide) (by decide) ?_
                    show own_S p e below T32_9 (mkF m 57 (own_AJWJWJWI q0 q1 r15_l4 (8 : Int32)) []) _
                    refine XS.iload X32_9.here hx rfl (hb hby d2_57) rfl ?_
                    exact k
                  refine own_by sg59 ?_
                  obtain ⟨fs, hr, hrun, hended, hW, hsame⟩ := X32_9.leave (v := some (.int (8 : Int32))) (fun h => by rw [Bd.returns] at h; cases h)
                  refine ⟨_, _, ?_, hrun, hended, _, _, rfl, ?_, ⟨_, rfl⟩, hW, hsame.mono (by decide) (by decide)⟩
                  · exact retI X32_9 hx Bd.returns (hb hby d2_59) hr
                  · show Q2 Z q0 q1 wBUCKET_EDGES cl h0 n0 _ T32_9.heap _
                    rw [e32_9]
                    exact ⟨by rw [show own_age q0 q1 = r15_l4 by rw [hr15_l4, hr0_s0]; rfl]; unfold own_cnt; rw [if_neg hc48, if_neg hc48_2, if_neg hc48_3, if_neg hc48_4, if_neg hc48_5, if_neg hc48_6, if_neg hc48_7, if_neg hc48_8], N0, rfl⟩
theorem pn_0 : plainFor x = true := by first | exact plainFor_of_name (by first | (simp [plainName, overriddenIn]; done) | decide +kernel) | decide +kernel | exact Jvm.Free.JP.mathPlain rfl (by decide +kernel)
theorem pd_0_0 : parseMethodDescriptor "(JJ)I" = some ⟨[.long, .long], some .int⟩ := by decide +kernel
theorem pd_0_1 : parseMethodDescriptor "(I)J" = some ⟨[.int], some .long⟩ := by decide +kernel
theorem ef_0 (m : MethodId) (q0 : Int64) (q1 : Int64) (q2 : Int64) (p3 : Int32) : entryFrame m #[(.long q0), (.long q1), (.long q2), (.int p3)] maxLocals = mkF m 0 #[.val (.long q0), .second, .val (.long q1), .second, .val (.long q2), .second, .val (.int p3), .unset, .unset, .unset, .unset, .unset, .unset] [] := by first | (simp [entryFrame, mkF, argsToLocals, Value.category, maxLocals]; done) | rfl
def Q0 (Z : State) (q0 : Int64) (q1 : Int64) (q2 : Int64) (p3 : Int32) (wBUCKET_EDGES : Addr) (cl : Cell) (h0 : Heap) (n0 : Nat) (v : Option Value) (h : Heap) (L : List Loc) : Prop := v = some (.int 1) ∧ Fr n0 L
set_option maxRecDepth 65536 in
set_option maxHeartbeats 40000000 in
theorem rm0 (l : Launch) (Z : State) (a0 : Array Value) (hw : ∀ d ∈ tables_1, d.before a0 Z = true) (ws : List Jvm.Cond) (q0 : Int64) (q1 : Int64) (q2 : Int64) (p3 : Int32) (wBUCKET_EDGES : Addr) (cl : Cell) (h0 : Heap) (n0 : Nat) (Z0 : n0 ≤ h0.size) (S_E : Sta Z h0 "com/example/reverie/reverie/FusedScore" "BUCKET_EDGES" "[J" (.ref wBUCKET_EDGES)) (Ar : Arr Z h0 wBUCKET_EDGES cl .long) (hsz : cl.slots.size = 8) (hat0 : cl.slots[0]? = some (.long (3600000 : Int64))) (hat1 : cl.slots[1]? = some (.long (21600000 : Int64))) (hat2 : cl.slots[2]? = some (.long (86400000 : Int64))) (hat3 : cl.slots[3]? = some (.long (259200000 : Int64))) (hat4 : cl.slots[4]? = some (.long (604800000 : Int64))) (hat5 : cl.slots[5]? = some (.long (1209600000 : Int64))) (hat6 : cl.slots[6]? = some (.long (2419200000 : Int64))) (hat7 : cl.slots[7]? = some (.long (7776000000 : Int64))) :
    MetFree l x (head1 (Jvm.Cond.code x code maxLocals ret :: ws) room_1) (fun a U => a = #[(.long q0), (.long q1), (.long q2), (.int p3)] ∧ Z.Warmed39 U.vm ∧ U.heap = h0) (fun _ _ _ _ _ => True) (fun _ U o U' => ∃ v L, o = .returned v ∧ Q0 Z q0 q1 q2 p3 wBUCKET_EDGES cl h0 n0 v U'.heap L ∧ FrameEnd U o U' L room_1.cells room_1.slots) := by
  refine MetFree.of_bodySF pn_0 hisR ?_
  intro p e s m args below meth c s₁ Bd hml0 hP hK
  obtain ⟨rfl, hZ, hh⟩ := hP
  have hx := Bd.exec
  have hby := Bd.bytes
  have hml : c.maxLocals = 13 := hml0
  have hown : s.vm.findClass "com/example/reverie/reverie/FusedScoreBucketPinLaw" = some m.cls := findClass_of_methodNamed Bd.named
  have hnm := (name_of_methodNamed Bd.named Bd.method).1
  have X0 : Stand p l e room_1 s m #[(.long q0), (.long q1), (.long q2), (.int p3)] below meth c s₁ [] 0 0 := Stand.of_body Bd
  have e0 : s₁.heap = h0 := by rw [← hh, Bd.state]; rfl
  have N0 := Fr.nil n0
  refine own_at (castTop (ef_0 m q0 q1 q2 p3)) ?_
  obtain ⟨v4, hv4⟩ : ∃ z : Int32, z = (p3 &&& (3 : Int32)) := ⟨_, rfl⟩
  have sg4 : ∀ t, own_S p e below s₁ (mkF m 4 (own_AJWJWJWIUUUUUU q0 q1 q2 p3) [(.int v4)]) t → own_S p e below s₁ (mkF m 0 (own_AJWJWJWIUUUUUU q0 q1 q2 p3) []) t := by
    intro t k
    rw [hv4] at k
    show own_S p e below s₁ (mkF m 0 (own_AJWJWJWIUUUUUU q0 q1 q2 p3) []) _
    refine XS.iload X0.here hx rfl (hb hby at_0) rfl ?_
    show own_S p e below s₁ (mkF m 2 (own_AJWJWJWIUUUUUU q0 q1 q2 p3) [(.int p3)]) _
    refine XS.iconst X0.here hx rfl (hb hby at_2) ?_
    show own_S p e below s₁ (mkF m 3 (own_AJWJWJWIUUUUUU q0 q1 q2 p3) [(.int (3 : Int32)), (.int p3)]) _
    refine XS.iand X0.here hx rfl (hb hby at_3) rfl ?_
    exact k
  refine own_by sg4 ?_
  have sg8 : ∀ t, own_S p e below s₁ (mkF m 8 (own_AJWJWJWIIUUUUU q0 q1 q2 p3 v4) [(.int v4)]) t → own_S p e below s₁ (mkF m 4 (own_AJWJWJWIUUUUUU q0 q1 q2 p3) [(.int v4)]) t := by
    intro t k
    show own_S p e below s₁ (mkF m 4 (own_AJWJWJWIUUUUUU q0 q1 q2 p3) [(.int v4)]) _
    refine XS.istore X0.here hx rfl (hb hby at_4) rfl (l' := (own_AJWJWJWIIUUUUU q0 q1 q2 p3 v4)) rfl ?_
    show own_S p e below s₁ (mkF m 6 (own_AJWJWJWIIUUUUU q0 q1 q2 p3 v4) []) _
    refine XS.iload X0.here hx rfl (hb hby at_6) rfl ?_
    exact k
  refine own_by sg8 ?_
  by_cases hc8 : v4 = (0 : Int32)
  · have sg87 : ∀ t, own_S p e below s₁ (mkF m 87 (own_AJWJWJWIIJWUUU q0 q1 q2 p3 v4 q1) [(.long q1), (.long q0)]) t → own_S p e below s₁ (mkF m 8 (own_AJWJWJWIIUUUUU q0 q1 q2 p3 v4) [(.int v4)]) t := by
      intro t k
      show own_S p e below s₁ (mkF m 8 (own_AJWJWJWIIUUUUU q0 q1 q2 p3 v4) [(.int v4)]) _
      refine XS.ifNo X0.here hx rfl (hb hby at_8) rfl ((if0 _ _).trans (teq hc8).2) ?_
      show own_S p e below s₁ (mkF m 11 (own_AJWJWJWIIUUUUU q0 q1 q2 p3 v4) []) _
      refine XS.lloadN X0.here hx rfl (hb hby at_11) rfl ?_
      show own_S p e below s₁ (mkF m 12 (own_AJWJWJWIIUUUUU q0 q1 q2 p3 v4) [(.long q1)]) _
      refine XS.lstore X0.here hx rfl (hb hby at_12) rfl (l' := (own_AJWJWJWIIJWUUU q0 q1 q2 p3 v4 q1)) rfl ?_
      show own_S p e below s₁ (mkF m 14 (own_AJWJWJWIIJWUUU q0 q1 q2 p3 v4 q1) []) _
      refine XS.goto X0.here hx rfl (pc0 := 14) (pc' := 84) rfl (hb hby at_14) (by decide) (by decide) ?_
      show own_S p e below s₁ (mkF m 84 (own_AJWJWJWIIJWUUU q0 q1 q2 p3 v4 q1) []) _
      refine XS.lloadN X0.here hx rfl (hb hby at_84) rfl ?_
      show own_S p e below s₁ (mkF m 85 (own_AJWJWJWIIJWUUU q0 q1 q2 p3 v4 q1) [(.long q0)]) _
      refine XS.lload X0.here hx rfl (hb hby at_85) rfl ?_
      exact k
    refine own_by sg87 ?_
    obtain ⟨_, _, ⟨T87, L87, k87, n87⟩, -, X87, ⟨Lc87, hQ87, l87, y87, z87⟩, st87⟩ := Jvm.LawKit.callS X0 hx (y := (⟨"com/example/reverie/reverie/FusedScore", "bucket", "(JJ)I"⟩ : MethodName)) hown (mvT hZ (hw _ (List.mem_of_getElem? (i := 4) rfl))) (mvT hZ (hw _ (List.mem_of_getElem? (i := 5) rfl))) (mvT hZ (hw _ (List.mem_of_getElem? (i := 6) rfl))) (mvT hZ (hw _ (List.mem_of_getElem? (i := 7) rfl))) (by decide) (backOf (W := 0) (rm2 l Z a0 hw [] q0 q1 wBUCKET_EDGES cl h0 n0 Z0 S_E Ar hsz hat0 hat1 hat2 hat3 hat4 hat5 hat6 hat7) hZ (hw _ (List.mem_of_getElem? (i := 7) rfl)) (hw _ (List.mem_of_getElem? (i := 6) rfl)) (by decide) (by decide)) (g := (mkF m 87 (own_AJWJWJWIIJWUUU q0 q1 q2 p3 v4 q1) [(.long q1), (.long q0)])) rfl (by rw [hml]; rfl) (argsL := [(.long q0), (.long q1)]) (rest := []) (lenOf pd_0_0 rfl) rfl (by show 2 * 0 + _ ≤ _; exact Nat.le_of_eq rfl) (hb hby at_87) (fun _ _ => ⟨rfl, e0, (by decide : 0 + 0 ≤ _), (by decide : 0 + 0 ≤ _)⟩)
    dsimp only [Pt.U, Pt.locs, Pt.cells, Pt.slots] at X87 l87 y87 z87 st87 hQ87
    subst l87 y87 z87
    obtain ⟨rfl, N87q, hq87⟩ := hQ87
    have N87 := Fr.app N0 N87q
    obtain ⟨c87, hc87⟩ : ∃ z : Int32, z = (own_cnt (own_age q0 q1)) := ⟨_, rfl⟩
    rw [← hc87] at st87
    refine own_by st87 ?_
    have sg93 : ∀ t, own_S p e below T87 (mkF m 93 (own_AJWJWJWIIJWUUU q0 q1 q2 p3 v4 q1) [(.long q1), (.long q0), (.int c87)]) t → own_S p e below T87 (mkF m 90 (own_AJWJWJWIIJWUUU q0 q1 q2 p3 v4 q1) [(.int c87)]) t := by
      intro t k
      show own_S p e below T87 (mkF m 90 (own_AJWJWJWIIJWUUU q0 q1 q2 p3 v4 q1) [(.int c87)]) _
      refine XS.lloadN X87.here hx rfl (hb hby at_90) rfl ?_
      show own_S p e below T87 (mkF m 91 (own_AJWJWJWIIJWUUU q0 q1 q2 p3 v4 q1) [(.long q0), (.int c87)]) _
      refine XS.lload X87.here hx rfl (hb hby at_91) rfl ?_
      exact k
    refine own_by sg93 ?_
    obtain ⟨_, _, ⟨T93, L93, k93, n93⟩, -, X93, ⟨Lc93, hQ93, l93, y93, z93⟩, st93⟩ := Jvm.LawKit.callS X87 hx (y := (⟨"com/example/reverie/reverie/FusedScoreBucketPinLaw", "ref", "(JJ)I"⟩ : MethodName)) hown (mvT hZ (hw _ (List.mem_of_getElem? (i := 10) rfl))) (mvT hZ (hw _ (List.mem_of_getElem? (i := 11) rfl))) (mvT hZ (hw _ (List.mem_of_getElem? (i := 2) rfl))) (mvT hZ (hw _ (List.mem_of_getElem? (i := 12) rfl))) (by decide) (backOf (W := 1) (rm3 l Z a0 hw [] q0 q1 h0 n0 Z0) hZ (hw _ (List.mem_of_getElem? (i := 12) rfl)) (hw _ (List.mem_of_getElem? (i := 2) rfl)) (by decide) (by decide)) (g := (mkF m 93 (own_AJWJWJWIIJWUUU q0 q1 q2 p3 v4 q1) [(.long q1), (.long q0), (.int c87)])) rfl (by rw [hml]; rfl) (argsL := [(.long q0), (.long q1)]) (rest := [(.int c87)]) (lenOf pd_0_0 rfl) rfl (by show 2 * 0 + _ ≤ _; exact Nat.le_of_eq rfl) (hb hby at_93) (fun _ _ => ⟨rfl, hq87, (by decide : 0 + 0 ≤ _), (by decide : 0 + 0 ≤ _)⟩)
    dsimp only [Pt.U, Pt.locs, Pt.cells, Pt.slots] at X93 l93 y93 z93 st93 hQ93
    subst l93 y93 z93
    obtain ⟨rfl, N93q, hq93⟩ := hQ93
    have N93 := Fr.app N87 N93q
    obtain ⟨c93, hc93⟩ : ∃ z : Int32, z = (own_ref q0 q1) := ⟨_, rfl⟩
    rw [← hc93] at st93
    refine own_by st93 ?_
    have sg104 : ∀ t, own_S p e below T93 (mkF m 104 (own_AJWJWJWIIJWUUU q0 q1 q2 p3 v4 q1) [(.int (1 : Int32))]) t → own_S p e below T93 (mkF m 96 (own_AJWJWJWIIJWUUU q0 q1 q2 p3 v4 q1) [(.int c93), (.int c87)]) t := by
      intro t k
      show own_S p e below T93 (mkF m 96 (own_AJWJWJWIIJWUUU q0 q1 q2 p3 v4 q1) [(.int c93), (.int c87)]) _
      refine XS.icmpNo X93.here hx rfl (hb hby at_96) rfl (teq (by rw [hc87, hc93]; exact own_law _ _ : c87 = c93)).2 ?_
      show own_S p e below T93 (mkF m 99 (own_AJWJWJWIIJWUUU q0 q1 q2 p3 v4 q1) []) _
      refine XS.iconst X93.here hx rfl (hb hby at_99) ?_
      show own_S p e below T93 (mkF m 100 (own_AJWJWJWIIJWUUU q0 q1 q2 p3 v4 q1) [(.int (1 : Int32))]) _
      refine XS.goto X93.here hx rfl (pc0 := 100) (pc' := 104) rfl (hb hby at_100) (by decide) (by decide) ?_
      exact k
    refine own_by sg104 ?_
    obtain ⟨fs, hr, hrun, hended, hW, hsame⟩ := X93.leave (v := some (.int (1 : Int32))) (fun h => by rw [Bd.returns] at h; cases h)
    refine ⟨_, _, ?_, hrun, hended, _, _, rfl, ?_, ⟨_, rfl⟩, hW, hsame.mono (by decide) (by decide)⟩
    · exact retN X93 hx (t := .boolean) Bd.returns (by simp) (hb hby at_104) hr
    · show Q0 Z q0 q1 q2 p3 wBUCKET_EDGES cl h0 n0 _ T93.heap _
      rw [hq93]
      exact ⟨rfl, N93⟩
  · have sg20 : ∀ t, own_S p e below s₁ (mkF m 20 (own_AJWJWJWIIUUUUU q0 q1 q2 p3 v4) [(.int (1 : Int32)), (.int v4)]) t → own_S p e below s₁ (mkF m 8 (own_AJWJWJWIIUUUUU q0 q1 q2 p3 v4) [(.int v4)]) t := by
      intro t k
      show own_S p e below s₁ (mkF m 8 (own_AJWJWJWIIUUUUU q0 q1 q2 p3 v4) [(.int v4)]) _
      refine XS.ifYes X0.here hx rfl (pc0 := 8) (pc' := 17) rfl (hb hby at_8) rfl ((if0 _ _).trans (feq hc8).2) (by decide) (by decide) ?_
      show own_S p e below s₁ (mkF m 17 (own_AJWJWJWIIUUUUU q0 q1 q2 p3 v4) []) _
      refine XS.iload X0.here hx rfl (hb hby at_17) rfl ?_
      show own_S p e below s₁ (mkF m 19 (own_AJWJWJWIIUUUUU q0 q1 q2 p3 v4) [(.int v4)]) _
      refine XS.iconst X0.here hx rfl (hb hby at_19) ?_
      exact k
    refine own_by sg20 ?_
    by_cases hc20 : v4 = (1 : Int32)
    · obtain ⟨v27, hv27⟩ : ∃ z : Int64, z = (q0 + q2) := ⟨_, rfl⟩
      have sg27 : ∀ t, own_S p e below s₁ (mkF m 27 (own_AJWJWJWIIUUUUU q0 q1 q2 p3 v4) [(.long v27)]) t → own_S p e below s₁ (mkF m 20 (own_AJWJWJWIIUUUUU q0 q1 q2 p3 v4) [(.int (1 : Int32)), (.int v4)]) t := by
        intro t k
        rw [hv27] at k
        show own_S p e below s₁ (mkF m 20 (own_AJWJWJWIIUUUUU q0 q1 q2 p3 v4) [(.int (1 : Int32)), (.int v4)]) _
        refine XS.icmpNo X0.here hx rfl (hb hby at_20) rfl (teq hc20).2 ?_
        show own_S p e below s₁ (mkF m 23 (own_AJWJWJWIIUUUUU q0 q1 q2 p3 v4) []) _
        refine XS.lloadN X0.here hx rfl (hb hby at_23) rfl ?_
        show own_S p e below s₁ (mkF m 24 (own_AJWJWJWIIUUUUU q0 q1 q2 p3 v4) [(.long q0)]) _
        refine XS.lload X0.here hx rfl (hb hby at_24) rfl ?_
        show own_S p e below s₁ (mkF m 26 (own_AJWJWJWIIUUUUU q0 q1 q2 p3 v4) [(.long q2), (.long q0)]) _
        refine XS.ladd X0.here hx rfl (hb hby at_26) rfl ?_
        exact k
      refine own_by sg27 ?_
      have sg87 : ∀ t, own_S p e below s₁ (mkF m 87 (own_AJWJWJWIIJWUUU q0 q1 q2 p3 v4 v27) [(.long v27), (.long q0)]) t → own_S p e below s₁ (mkF m 27 (own_AJWJWJWIIUUUUU q0 q1 q2 p3 v4) [(.long v27)]) t := by
        intro t k
        show own_S p e below s₁ (mkF m 27 (own_AJWJWJWIIUUUUU q0 q1 q2 p3 v4) [(.long v27)]) _
        refine XS.lstore X0.here hx rfl (hb hby at_27) rfl (l' := (own_AJWJWJWIIJWUUU q0 q1 q2 p3 v4 v27)) rfl ?_
        show own_S p e below s₁ (mkF m 29 (own_AJWJWJWIIJWUUU q0 q1 q2 p3 v4 v27) []) _
        refine XS.goto X0.here hx rfl (pc0 := 29) (pc' := 84) rfl (hb hby at_29) (by decide) (by decide) ?_
        show own_S p e below s₁ (mkF m 84 (own_AJWJWJWIIJWUUU q0 q1 q2 p3 v4 v27) []) _
        refine XS.lloadN X0.here hx rfl (hb hby at_84) rfl ?_
        show own_S p e below s₁ (mkF m 85 (own_AJWJWJWIIJWUUU q0 q1 q2 p3 v4 v27) [(.long q0)]) _
        refine XS.lload X0.here hx rfl (hb hby at_85) rfl ?_
        exact k
      refine own_by sg87 ?_
      obtain ⟨_, _, ⟨T87, L87, k87, n87⟩, -, X87, ⟨Lc87, hQ87, l87, y87, z87⟩, st87⟩ := Jvm.LawKit.callS X0 hx (y := (⟨"com/example/reverie/reverie/FusedScore", "bucket", "(JJ)I"⟩ : MethodName)) hown (mvT hZ (hw _ (List.mem_of_getElem? (i := 4) rfl))) (mvT hZ (hw _ (List.mem_of_getElem? (i := 5) rfl))) (mvT hZ (hw _ (List.mem_of_getElem? (i := 6) rfl))) (mvT hZ (hw _ (List.mem_of_getElem? (i := 7) rfl))) (by decide) (backOf (W := 0) (rm2 l Z a0 hw [] q0 v27 wBUCKET_EDGES cl h0 n0 Z0 S_E Ar hsz hat0 hat1 hat2 hat3 hat4 hat5 hat6 hat7) hZ (hw _ (List.mem_of_getElem? (i := 7) rfl)) (hw _ (List.mem_of_getElem? (i := 6) rfl)) (by decide) (by decide)) (g := (mkF m 87 (own_AJWJWJWIIJWUUU q0 q1 q2 p3 v4 v27) [(.long v27), (.long q0)])) rfl (by rw [hml]; rfl) (argsL := [(.long q0), (.long v27)]) (rest := []) (lenOf pd_0_0 rfl) rfl (by show 2 * 0 + _ ≤ _; exact Nat.le_of_eq rfl) (hb hby at_87) (fun _ _ => ⟨rfl, e0, (by decide : 0 + 0 ≤ _), (by decide : 0 + 0 ≤ _)⟩)
      dsimp only [Pt.U, Pt.locs, Pt.cells, Pt.slots] at X87 l87 y87 z87 st87 hQ87
      subst l87 y87 z87
      obtain ⟨rfl, N87q, hq87⟩ := hQ87
      have N87 := Fr.app N0 N87q
      obtain ⟨c87, hc87⟩ : ∃ z : Int32, z = (own_cnt (own_age q0 v27)) := ⟨_, rfl⟩
      rw [← hc87] at st87
      refine own_by st87 ?_
      have sg93 : ∀ t, own_S p e below T87 (mkF m 93 (own_AJWJWJWIIJWUUU q0 q1 q2 p3 v4 v27) [(.long v27), (.long q0), (.int c87)]) t → own_S p e below T87 (mkF m 90 (own_AJWJWJWIIJWUUU q0 q1 q2 p3 v4 v27) [(.int c87)]) t := by
        intro t k
        show own_S p e below T87 (mkF m 90 (own_AJWJWJWIIJWUUU q0 q1 q2 p3 v4 v27) [(.int c87)]) _
        refine XS.lloadN X87.here hx rfl (hb hby at_90) rfl ?_
        show own_S p e below T87 (mkF m 91 (own_AJWJWJWIIJWUUU q0 q1 q2 p3 v4 v27) [(.long q0), (.int c87)]) _
        refine XS.lload X87.here hx rfl (hb hby at_91) rfl ?_
        exact k
      refine own_by sg93 ?_
      obtain ⟨_, _, ⟨T93, L93, k93, n93⟩, -, X93, ⟨Lc93, hQ93, l93, y93, z93⟩, st93⟩ := Jvm.LawKit.callS X87 hx (y := (⟨"com/example/reverie/reverie/FusedScoreBucketPinLaw", "ref", "(JJ)I"⟩ : MethodName)) hown (mvT hZ (hw _ (List.mem_of_getElem? (i := 10) rfl))) (mvT hZ (hw _ (List.mem_of_getElem? (i := 11) rfl))) (mvT hZ (hw _ (List.mem_of_getElem? (i := 2) rfl))) (mvT hZ (hw _ (List.mem_of_getElem? (i := 12) rfl))) (by decide) (backOf (W := 1) (rm3 l Z a0 hw [] q0 v27 h0 n0 Z0) hZ (hw _ (List.mem_of_getElem? (i := 12) rfl)) (hw _ (List.mem_of_getElem? (i := 2) rfl)) (by decide) (by decide)) (g := (mkF m 93 (own_AJWJWJWIIJWUUU q0 q1 q2 p3 v4 v27) [(.long v27), (.long q0), (.int c87)])) rfl (by rw [hml]; rfl) (argsL := [(.long q0), (.long v27)]) (rest := [(.int c87)]) (lenOf pd_0_0 rfl) rfl (by show 2 * 0 + _ ≤ _; exact Nat.le_of_eq rfl) (hb hby at_93) (fun _ _ => ⟨rfl, hq87, (by decide : 0 + 0 ≤ _), (by decide : 0 + 0 ≤ _)⟩)
      dsimp only [Pt.U, Pt.locs, Pt.cells, Pt.slots] at X93 l93 y93 z93 st93 hQ93
      subst l93 y93 z93
      obtain ⟨rfl, N93q, hq93⟩ := hQ93
      have N93 := Fr.app N87 N93q
      obtain ⟨c93, hc93⟩ : ∃ z : Int32, z = (own_ref q0 v27) := ⟨_, rfl⟩
      rw [← hc93] at st93
      refine own_by st93 ?_
      have sg104 : ∀ t, own_S p e below T93 (mkF m 104 (own_AJWJWJWIIJWUUU q0 q1 q2 p3 v4 v27) [(.int (1 : Int32))]) t → own_S p e below T93 (mkF m 96 (own_AJWJWJWIIJWUUU q0 q1 q2 p3 v4 v27) [(.int c93), (.int c87)]) t := by
        intro t k
        show own_S p e below T93 (mkF m 96 (own_AJWJWJWIIJWUUU q0 q1 q2 p3 v4 v27) [(.int c93), (.int c87)]) _
        refine XS.icmpNo X93.here hx rfl (hb hby at_96) rfl (teq (by rw [hc87, hc93]; exact own_law _ _ : c87 = c93)).2 ?_
        show own_S p e below T93 (mkF m 99 (own_AJWJWJWIIJWUUU q0 q1 q2 p3 v4 v27) []) _
        refine XS.iconst X93.here hx rfl (hb hby at_99) ?_
        show own_S p e below T93 (mkF m 100 (own_AJWJWJWIIJWUUU q0 q1 q2 p3 v4 v27) [(.int (1 : Int32))]) _
        refine XS.goto X93.here hx rfl (pc0 := 100) (pc' := 104) rfl (hb hby at_100) (by decide) (by decide) ?_
        exact k
      refine own_by sg104 ?_
      obtain ⟨fs, hr, hrun, hended, hW, hsame⟩ := X93.leave (v := some (.int (1 : Int32))) (fun h => by rw [Bd.returns] at h; cases h)
      refine ⟨_, _, ?_, hrun, hended, _, _, rfl, ?_, ⟨_, rfl⟩, hW, hsame.mono (by decide) (by decide)⟩
      · exact retN X93 hx (t := .boolean) Bd.returns (by simp) (hb hby at_104) hr
      · show Q0 Z q0 q1 q2 p3 wBUCKET_EDGES cl h0 n0 _ T93.heap _
        rw [hq93]
        exact ⟨rfl, N93⟩
    · obtain ⟨v42, hv42⟩ : ∃ z : Int32, z = ((((p3.toUInt32 >>> ((2 : Int32) &&& 31).toUInt32).toInt32) &&& (15 : Int32)) % (9 : Int32)) := ⟨_, rfl⟩
      have sg42 : ∀ t, own_S p e below s₁ (mkF m 42 (own_AJWJWJWIIUUUUU q0 q1 q2 p3 v4) [(.int v42)]) t → own_S p e below s₁ (mkF m 20 (own_AJWJWJWIIUUUUU q0 q1 q2 p3 v4) [(.int (1 : Int32)), (.int v4)]) t := by
        intro t k
        rw [hv42] at k
        show own_S p e below s₁ (mkF m 20 (own_AJWJWJWIIUUUUU q0 q1 q2 p3 v4) [(.int (1 : Int32)), (.int v4)]) _
        refine XS.icmpYes X0.here hx rfl (pc0 := 20) (pc' := 32) rfl (hb hby at_20) rfl (feq hc20).2 (by decide) (by decide) ?_
        show own_S p e below s₁ (mkF m 32 (own_AJWJWJWIIUUUUU q0 q1 q2 p3 v4) []) _
        refine XS.iload X0.here hx rfl (hb hby at_32) rfl ?_
        show own_S p e below s₁ (mkF m 34 (own_AJWJWJWIIUUUUU q0 q1 q2 p3 v4) [(.int p3)]) _
        refine XS.iconst X0.here hx rfl (hb hby at_34) ?_
        show own_S p e below s₁ (mkF m 35 (own_AJWJWJWIIUUUUU q0 q1 q2 p3 v4) [(.int (2 : Int32)), (.int p3)]) _
        refine XS.iushr X0.here hx rfl (hb hby at_35) rfl ?_
        show own_S p e below s₁ (mkF m 36 (own_AJWJWJWIIUUUUU q0 q1 q2 p3 v4) [(.int ((p3.toUInt32 >>> ((2 : Int32) &&& 31).toUInt32).toInt32))]) _
        refine XS.bipush X0.here hx rfl (hb hby at_36) ?_
        show own_S p e below s₁ (mkF m 38 (own_AJWJWJWIIUUUUU q0 q1 q2 p3 v4) [(.int (15 : Int32)), (.int ((p3.toUInt32 >>> ((2 : Int32) &&& 31).toUInt32).toInt32))]) _
        refine XS.iand X0.here hx rfl (hb hby at_38) rfl ?_
        show own_S p e below s₁ (mkF m 39 (own_AJWJWJWIIUUUUU q0 q1 q2 p3 v4) [(.int (((p3.toUInt32 >>> ((2 : Int32) &&& 31).toUInt32).toInt32) &&& (15 : Int32)))]) _
        refine XS.bipush X0.here hx rfl (hb hby at_39) ?_
        show own_S p e below s₁ (mkF m 41 (own_AJWJWJWIIUUUUU q0 q1 q2 p3 v4) [(.int (9 : Int32)), (.int (((p3.toUInt32 >>> ((2 : Int32) &&& 31).toUInt32).toInt32) &&& (15 : Int32)))]) _
        refine iremM X0 hx rfl (hb hby at_41) rfl (by decide) ?_
        exact k
      refine own_by sg42 ?_
      have sg47 : ∀ t, own_S p e below s₁ (mkF m 47 (own_AJWJWJWIIUUIUU q0 q1 q2 p3 v4 v42) [(.int (2 : Int32)), (.int v4)]) t → own_S p e below s₁ (mkF m 42 (own_AJWJWJWIIUUUUU q0 q1 q2 p3 v4) [(.int v42)]) t := by
        intro t k
        show own_S p e below s₁ (mkF m 42 (own_AJWJWJWIIUUUUU q0 q1 q2 p3 v4) [(.int v42)]) _
        refine XS.istore X0.here hx rfl (hb hby at_42) rfl (l' := (own_AJWJWJWIIUUIUU q0 q1 q2 p3 v4 v42)) rfl ?_
        show own_S p e below s₁ (mkF m 44 (own_AJWJWJWIIUUIUU q0 q1 q2 p3 v4 v42) []) _
        refine XS.iload X0.here hx rfl (hb hby at_44) rfl ?_
        show own_S p e below s₁ (mkF m 46 (own_AJWJWJWIIUUIUU q0 q1 q2 p3 v4 v42) [(.int v4)]) _
        refine XS.iconst X0.here hx rfl (hb hby at_46) ?_
        exact k
      refine own_by sg47 ?_
      by_cases hc47 : v4 = (2 : Int32)
      · obtain ⟨v61, hv61⟩ : ∃ z : Int64, z = (((((p3.toUInt32 >>> ((6 : Int32) &&& 31).toUInt32).toInt32) &&& (7 : Int32)) - (4 : Int32)).toInt64) := ⟨_, rfl⟩
        have sg61 : ∀ t, own_S p e below s₁ (mkF m 61 (own_AJWJWJWIIUUIUU q0 q1 q2 p3 v4 v42) [(.long v61)]) t → own_S p e below s₁ (mkF m 47 (own_AJWJWJWIIUUIUU q0 q1 q2 p3 v4 v42) [(.int (2 : Int32)), (.int v4)]) t := by
          intro t k
          rw [hv61] at k
          show own_S p e below s₁ (mkF m 47 (own_AJWJWJWIIUUIUU q0 q1 q2 p3 v4 v42) [(.int (2 : Int32)), (.int v4)]) _
          refine XS.icmpNo X0.here hx rfl (hb hby at_47) rfl (teq hc47).2 ?_
          show own_S p e below s₁ (mkF m 50 (own_AJWJWJWIIUUIUU q0 q1 q2 p3 v4 v42) []) _
          refine XS.iload X0.here hx rfl (hb hby at_50) rfl ?_
          show own_S p e below s₁ (mkF m 52 (own_AJWJWJWIIUUIUU q0 q1 q2 p3 v4 v42) [(.int p3)]) _
          refine XS.bipush X0.here hx rfl (hb hby at_52) ?_
          show own_S p e below s₁ (mkF m 54 (own_AJWJWJWIIUUIUU q0 q1 q2 p3 v4 v42) [(.int (6 : Int32)), (.int p3)]) _
          refine XS.iushr X0.here hx rfl (hb hby at_54) rfl ?_
          show own_S p e below s₁ (mkF m 55 (own_AJWJWJWIIUUIUU q0 q1 q2 p3 v4 v42) [(.int ((p3.toUInt32 >>> ((6 : Int32) &&& 31).toUInt32).toInt32))]) _
          refine XS.bipush X0.here hx rfl (hb hby at_55) ?_
          show own_S p e below s₁ (mkF m 57 (own_AJWJWJWIIUUIUU q0 q1 q2 p3 v4 v42) [(.int (7 : Int32)), (.int ((p3.toUInt32 >>> ((6 : Int32) &&& 31).toUInt32).toInt32))]) _
          refine XS.iand X0.here hx rfl (hb hby at_57) rfl ?_
          show own_S p e below s₁ (mkF m 58 (own_AJWJWJWIIUUIUU q0 q1 q2 p3 v4 v42) [(.int (((p3.toUInt32 >>> ((6 : Int32) &&& 31).toUInt32).toInt32) &&& (7 : Int32)))]) _
          refine XS.iconst X0.here hx rfl (hb hby at_58) ?_
          show own_S p e below s₁ (mkF m 59 (own_AJWJWJWIIUUIUU q0 q1 q2 p3 v4 v42) [(.int (4 : Int32)), (.int (((p3.toUInt32 >>> ((6 : Int32) &&& 31).toUInt32).toInt32) &&& (7 : Int32)))]) _
          refine XS.isub X0.here hx rfl (hb hby at_59) rfl ?_
          show own_S p e below s₁ (mkF m 60 (own_AJWJWJWIIUUIUU q0 q1 q2 p3 v4 v42) [(.int ((((p3.toUInt32 >>> ((6 : Int32) &&& 31).toUInt32).toInt32) &&& (7 : Int32)) - (4 : Int32)))]) _
          refine XS.i2l X0.here hx rfl (hb hby at_60) rfl ?_
          exact k
        refine own_by sg61 ?_
        have sg75 : ∀ t, own_S p e below s₁ (mkF m 75 (own_AJWJWJWIIUUIJW q0 q1 q2 p3 v4 v42 v61) [(.int v42), (.long q0)]) t → own_S p e below s₁ (mkF m 61 (own_AJWJWJWIIUUIUU q0 q1 q2 p3 v4 v42) [(.long v61)]) t := by
          intro t k
          show own_S p e below s₁ (mkF m 61 (own_AJWJWJWIIUUIUU q0 q1 q2 p3 v4 v42) [(.long v61)]) _
          refine XS.lstore X0.here hx rfl (hb hby at_61) rfl (l' := (own_AJWJWJWIIUUIJW q0 q1 q2 p3 v4 v42 v61)) rfl ?_
          show own_S p e below s₁ (mkF m 63 (own_AJWJWJWIIUUIJW q0 q1 q2 p3 v4 v42 v61) []) _
          refine XS.goto X0.here hx rfl (pc0 := 63) (pc' := 72) rfl (hb hby at_63) (by decide) (by decide) ?_
          show own_S p e below s₁ (mkF m 72 (own_AJWJWJWIIUUIJW q0 q1 q2 p3 v4 v42 v61) []) _
          refine XS.lloadN X0.here hx rfl (hb hby at_72) rfl ?_
          show own_S p e below s₁ (mkF m 73 (own_AJWJWJWIIUUIJW q0 q1 q2 p3 v4 v42 v61) [(.long q0)]) _
          refine XS.iload X0.here hx rfl (hb hby at_73) rfl ?_
          exact k
        refine own_by sg75 ?_
        obtain ⟨_, _, ⟨T75, L75, k75, n75⟩, -, X75, ⟨Lc75, hQ75, l75, y75, z75⟩, st75⟩ := Jvm.LawKit.callS X0 hx (y := (⟨"com/example/reverie/reverie/FusedScoreBucketPinLaw", "edge", "(I)J"⟩ : MethodName)) hown (mvT hZ (hw _ (List.mem_of_getElem? (i := 0) rfl))) (mvT hZ (hw _ (List.mem_of_getElem? (i := 1) rfl))) (mvT hZ (hw _ (List.mem_of_getElem? (i := 2) rfl))) (mvT hZ (hw _ (List.mem_of_getElem? (i := 3) rfl))) (by decide) (backOf (W := 2) (rm1 l Z a0 hw [] v42 h0 n0 Z0) hZ (hw _ (List.mem_of_getElem? (i := 3) rfl)) (hw _ (List.mem_of_getElem? (i := 2) rfl)) (by decide) (by decide)) (g := (mkF m 75 (own_AJWJWJWIIUUIJW q0 q1 q2 p3 v4 v42 v61) [(.int v42), (.long q0)])) rfl (by rw [hml]; rfl) (argsL := [(.int v42)]) (rest := [(.long q0)]) (lenOf pd_0_1 rfl) rfl (by show 2 * 0 + _ ≤ _; exact Nat.le_of_eq rfl) (hb hby at_75) (fun _ _ => ⟨rfl, e0, (by decide : 0 + 0 ≤ _), (by decide : 0 + 0 ≤ _)⟩)
        dsimp only [Pt.U, Pt.locs, Pt.cells, Pt.slots] at X75 l75 y75 z75 st75 hQ75
        subst l75 y75 z75
        obtain ⟨z75, rfl, N75q, hq75⟩ := hQ75
        have N75 := Fr.app N0 N75q
        refine own_by st75 ?_
        obtain ⟨v82, hv82⟩ : ∃ z : Int64, z = ((q0 + z75) + v61) := ⟨_, rfl⟩
        have sg82 : ∀ t, own_S p e below T75 (mkF m 82 (own_AJWJWJWIIUUIJW q0 q1 q2 p3 v4 v42 v61) [(.long v82)]) t → own_S p e below T75 (mkF m 78 (own_AJWJWJWIIUUIJW q0 q1 q2 p3 v4 v42 v61) [(.long z75), (.long q0)]) t := by
          intro t k
          rw [hv82] at k
          show own_S p e below T75 (mkF m 78 (own_AJWJWJWIIUUIJW q0 q1 q2 p3 v4 v42 v61) [(.long z75), (.long q0)]) _
          refine XS.ladd X75.here hx rfl (hb hby at_78) rfl ?_
          show own_S p e below T75 (mkF m 79 (own_AJWJWJWIIUUIJW q0 q1 q2 p3 v4 v42 v61) [(.long (q0 + z75))]) _
          refine XS.lload X75.here hx rfl (hb hby at_79) rfl ?_
          show own_S p e below T75 (mkF m 81 (own_AJWJWJWIIUUIJW q0 q1 q2 p3 v4 v42 v61) [(.long v61), (.long (q0 + z75))]) _
          refine XS.ladd X75.here hx rfl (hb hby at_81) rfl ?_
          exact k
        refine own_by sg82 ?_
        have sg87 : ∀ t, own_S p e below T75 (mkF m 87 (own_AJWJWJWIIJWIJW q0 q1 q2 p3 v4 v82 v42 v61) [(.long v82), (.long q0)]) t → own_S p e below T75 (mkF m 82 (own_AJWJWJWIIUUIJW q0 q1 q2 p3 v4 v42 v61) [(.long v82)]) t := by
          intro t k
          show own_S p e below T75 (mkF m 82 (own_AJWJWJWIIUUIJW q0 q1 q2 p3 v4 v42 v61) [(.long v82)]) _
          refine XS.lstore X75.here hx rfl (hb hby at_82) rfl (l' := (own_AJWJWJWIIJWIJW q0 q1 q2 p3 v4 v82 v42 v61)) rfl ?_
          show own_S p e below T75 (mkF m 84 (own_AJWJWJWIIJWIJW q0 q1 q2 p3 v4 v82 v42 v61) []) _
          refine XS.lloadN X75.here hx rfl (hb hby at_84) rfl ?_
          show own_S p e below T75 (mkF m 85 (own_AJWJWJWIIJWIJW q0 q1 q2 p3 v4 v82 v42 v61) [(.long q0)]) _
          refine XS.lload X75.here hx rfl (hb hby at_85) rfl ?_
          exact k
        refine own_by sg87 ?_
        obtain ⟨_, _, ⟨T87, L87, k87, n87⟩, -, X87, ⟨Lc87, hQ87, l87, y87, z87⟩, st87⟩ := Jvm.LawKit.callS X75 hx (y := (⟨"com/example/reverie/reverie/FusedScore", "bucket", "(JJ)I"⟩ : MethodName)) hown (mvT hZ (hw _ (List.mem_of_getElem? (i := 4) rfl))) (mvT hZ (hw _ (List.mem_of_getElem? (i := 5) rfl))) (mvT hZ (hw _ (List.mem_of_getElem? (i := 6) rfl))) (mvT hZ (hw _ (List.mem_of_getElem? (i := 7) rfl))) (by decide) (backOf (W := 0) (rm2 l Z a0 hw [] q0 v82 wBUCKET_EDGES cl h0 n0 Z0 S_E Ar hsz hat0 hat1 hat2 hat3 hat4 hat5 hat6 hat7) hZ (hw _ (List.mem_of_getElem? (i := 7) rfl)) (hw _ (List.mem_of_getElem? (i := 6) rfl)) (by decide) (by decide)) (g := (mkF m 87 (own_AJWJWJWIIJWIJW q0 q1 q2 p3 v4 v82 v42 v61) [(.long v82), (.long q0)])) rfl (by rw [hml]; rfl) (argsL := [(.long q0), (.long v82)]) (rest := []) (lenOf pd_0_0 rfl) rfl (by show 2 * 0 + _ ≤ _; exact Nat.le_of_eq rfl) (hb hby at_87) (fun _ _ => ⟨rfl, hq75, (by decide : 0 + 0 ≤ _), (by decide : 0 + 0 ≤ _)⟩)
        dsimp only [Pt.U, Pt.locs, Pt.cells, Pt.slots] at X87 l87 y87 z87 st87 hQ87
        subst l87 y87 z87
        obtain ⟨rfl, N87q, hq87⟩ := hQ87
        have N87 := Fr.app N75 N87q
        obtain ⟨c87, hc87⟩ : ∃ z : Int32, z = (own_cnt (own_age q0 v82)) := ⟨_, rfl⟩
        rw [← hc87] at st87
        refine own_by st87 ?_
        have sg93 : ∀ t, own_S p e below T87 (mkF m 93 (own_AJWJWJWIIJWIJW q0 q1 q2 p3 v4 v82 v42 v61) [(.long v82), (.long q0), (.int c87)]) t → own_S p e below T87 (mkF m 90 (own_AJWJWJWIIJWIJW q0 q1 q2 p3 v4 v82 v42 v61) [(.int c87)]) t := by
          intro t k
          show own_S p e below T87 (mkF m 90 (own_AJWJWJWIIJWIJW q0 q1 q2 p3 v4 v82 v42 v61) [(.int c87)]) _
          refine XS.lloadN X87.here hx rfl (hb hby at_90) rfl ?_
          show own_S p e below T87 (mkF m 91 (own_AJWJWJWIIJWIJW q0 q1 q2 p3 v4 v82 v42 v61) [(.long q0), (.int c87)]) _
          refine XS.lload X87.here hx rfl (hb hby at_91) rfl ?_
          exact k
        refine own_by sg93 ?_
        obtain ⟨_, _, ⟨T93, L93, k93, n93⟩, -, X93, ⟨Lc93, hQ93, l93, y93, z93⟩, st93⟩ := Jvm.LawKit.callS X87 hx (y := (⟨"com/example/reverie/reverie/FusedScoreBucketPinLaw", "ref", "(JJ)I"⟩ : MethodName)) hown (mvT hZ (hw _ (List.mem_of_getElem? (i := 10) rfl))) (mvT hZ (hw _ (List.mem_of_getElem? (i := 11) rfl))) (mvT hZ (hw _ (List.mem_of_getElem? (i := 2) rfl))) (mvT hZ (hw _ (List.mem_of_getElem? (i := 12) rfl))) (by decide) (backOf (W := 1) (rm3 l Z a0 hw [] q0 v82 h0 n0 Z0) hZ (hw _ (List.mem_of_getElem? (i := 12) rfl)) (hw _ (List.mem_of_getElem? (i := 2) rfl)) (by decide) (by decide)) (g := (mkF m 93 (own_AJWJWJWIIJWIJW q0 q1 q2 p3 v4 v82 v42 v61) [(.long v82), (.long q0), (.int c87)])) rfl (by rw [hml]; rfl) (argsL := [(.long q0), (.long v82)]) (rest := [(.int c87)]) (lenOf pd_0_0 rfl) rfl (by show 2 * 0 + _ ≤ _; exact Nat.le_of_eq rfl) (hb hby at_93) (fun _ _ => ⟨rfl, hq87, (by decide : 0 + 0 ≤ _), (by decide : 0 + 0 ≤ _)⟩)
        dsimp only [Pt.U, Pt.locs, Pt.cells, Pt.slots] at X93 l93 y93 z93 st93 hQ93
        subst l93 y93 z93
        obtain ⟨rfl, N93q, hq93⟩ := hQ93
        have N93 := Fr.app N87 N93q
        obtain ⟨c93, hc93⟩ : ∃ z : Int32, z = (own_ref q0 v82) := ⟨_, rfl⟩
        rw [← hc93] at st93
        refine own_by st93 ?_
        have sg104 : ∀ t, own_S p e below T93 (mkF m 104 (own_AJWJWJWIIJWIJW q0 q1 q2 p3 v4 v82 v42 v61) [(.int (1 : Int32))]) t → own_S p e below T93 (mkF m 96 (own_AJWJWJWIIJWIJW q0 q1 q2 p3 v4 v82 v42 v61) [(.int c93), (.int c87)]) t := by
          intro t k
          show own_S p e below T93 (mkF m 96 (own_AJWJWJWIIJWIJW q0 q1 q2 p3 v4 v82 v42 v61) [(.int c93), (.int c87)]) _
          refine XS.icmpNo X93.here hx rfl (hb hby at_96) rfl (teq (by rw [hc87, hc93]; exact own_law _ _ : c87 = c93)).2 ?_
          show own_S p e below T93 (mkF m 99 (own_AJWJWJWIIJWIJW q0 q1 q2 p3 v4 v82 v42 v61) []) _
          refine XS.iconst X93.here hx rfl (hb hby at_99) ?_
          show own_S p e below T93 (mkF m 100 (own_AJWJWJWIIJWIJW q0 q1 q2 p3 v4 v82 v42 v61) [(.int (1 : Int32))]) _
          refine XS.goto X93.here hx rfl (pc0 := 100) (pc' := 104) rfl (hb hby at_100) (by decide) (by decide) ?_
          exact k
        refine own_by sg104 ?_
        obtain ⟨fs, hr, hrun, hended, hW, hsame⟩ := X93.leave (v := some (.int (1 : Int32))) (fun h => by rw [Bd.returns] at h; cases h)
        refine ⟨_, _, ?_, hrun, hended, _, _, rfl, ?_, ⟨_, rfl⟩, hW, hsame.mono (by decide) (by decide)⟩
        · exact retN X93 hx (t := .boolean) Bd.returns (by simp) (hb hby at_104) hr
        · show Q0 Z q0 q1 q2 p3 wBUCKET_EDGES cl h0 n0 _ T93.heap _
          rw [hq93]
          exact ⟨rfl, N93⟩
      · obtain ⟨v70, hv70⟩ : ∃ z : Int64, z = ((q2.toInt32).toInt64) := ⟨_, rfl⟩
        have sg70 : ∀ t, own_S p e below s₁ (mkF m 70 (own_AJWJWJWIIUUIUU q0 q1 q2 p3 v4 v42) [(.long v70)]) t → own_S p e below s₁ (mkF m 47 (own_AJWJWJWIIUUIUU q0 q1 q2 p3 v4 v42) [(.int (2 : Int32)), (.int v4)]) t := by
          intro t k
          rw [hv70] at k
          show own_S p e below s₁ (mkF m 47 (own_AJWJWJWIIUUIUU q0 q1 q2 p3 v4 v42) [(.int (2 : Int32)), (.int v4)]) _
          refine XS.icmpYes X0.here hx rfl (pc0 := 47) (pc' := 66) rfl (hb hby at_47) rfl (feq hc47).2 (by decide) (by decide) ?_
          show own_S p e below s₁ (mkF m 66 (own_AJWJWJWIIUUIUU q0 q1 q2 p3 v4 v42) []) _
          refine XS.lload X0.here hx rfl (hb hby at_66) rfl ?_
          show own_S p e below s₁ (mkF m 68 (own_AJWJWJWIIUUIUU q0 q1 q2 p3 v4 v42) [(.long q2)]) _
          refine XS.l2i X0.here hx rfl (hb hby at_68) rfl ?_
          show own_S p e below s₁ (mkF m 69 (own_AJWJWJWIIUUIUU q0 q1 q2 p3 v4 v42) [(.int (q2.toInt32))]) _
          refine XS.i2l X0.here hx rfl (hb hby at_69) rfl ?_
          exact k
        refine own_by sg70 ?_
        have sg75 : ∀ t, own_S p e below s₁ (mkF m 75 (own_AJWJWJWIIUUIJW q0 q1 q2 p3 v4 v42 v70) [(.int v42), (.long q0)]) t → own_S p e below s₁ (mkF m 70 (own_AJWJWJWIIUUIUU q0 q1 q2 p3 v4 v42) [(.long v70)]) t := by
          intro t k
          show own_S p e below s₁ (mkF m 70 (own_AJWJWJWIIUUIUU q0 q1 q2 p3 v4 v42) [(.long v70)]) _
          refine XS.lstore X0.here hx rfl (hb hby at_70) rfl (l' := (own_AJWJWJWIIUUIJW q0 q1 q2 p3 v4 v42 v70)) rfl ?_
          show own_S p e below s₁ (mkF m 72 (own_AJWJWJWIIUUIJW q0 q1 q2 p3 v4 v42 v70) []) _
          refine XS.lloadN X0.here hx rfl (hb hby at_72) rfl ?_
          show own_S p e below s₁ (mkF m 73 (own_AJWJWJWIIUUIJW q0 q1 q2 p3 v4 v42 v70) [(.long q0)]) _
          refine XS.iload X0.here hx rfl (hb hby at_73) rfl ?_
          exact k
        refine own_by sg75 ?_
        obtain ⟨_, _, ⟨T75, L75, k75, n75⟩, -, X75, ⟨Lc75, hQ75, l75, y75, z75⟩, st75⟩ := Jvm.LawKit.callS X0 hx (y := (⟨"com/example/reverie/reverie/FusedScoreBucketPinLaw", "edge", "(I)J"⟩ : MethodName)) hown (mvT hZ (hw _ (List.mem_of_getElem? (i := 0) rfl))) (mvT hZ (hw _ (List.mem_of_getElem? (i := 1) rfl))) (mvT hZ (hw _ (List.mem_of_getElem? (i := 2) rfl))) (mvT hZ (hw _ (List.mem_of_getElem? (i := 3) rfl))) (by decide) (backOf (W := 2) (rm1 l Z a0 hw [] v42 h0 n0 Z0) hZ (hw _ (List.mem_of_getElem? (i := 3) rfl)) (hw _ (List.mem_of_getElem? (i := 2) rfl)) (by decide) (by decide)) (g := (mkF m 75 (own_AJWJWJWIIUUIJW q0 q1 q2 p3 v4 v42 v70) [(.int v42), (.long q0)])) rfl (by rw [hml]; rfl) (argsL := [(.int v42)]) (rest := [(.long q0)]) (lenOf pd_0_1 rfl) rfl (by show 2 * 0 + _ ≤ _; exact Nat.le_of_eq rfl) (hb hby at_75) (fun _ _ => ⟨rfl, e0, (by decide : 0 + 0 ≤ _), (by decide : 0 + 0 ≤ _)⟩)
        dsimp only [Pt.U, Pt.locs, Pt.cells, Pt.slots] at X75 l75 y75 z75 st75 hQ75
        subst l75 y75 z75
        obtain ⟨z75, rfl, N75q, hq75⟩ := hQ75
        have N75 := Fr.app N0 N75q
        refine own_by st75 ?_
        obtain ⟨v82, hv82⟩ : ∃ z : Int64, z = ((q0 + z75) + v70) := ⟨_, rfl⟩
        have sg82 : ∀ t, own_S p e below T75 (mkF m 82 (own_AJWJWJWIIUUIJW q0 q1 q2 p3 v4 v42 v70) [(.long v82)]) t → own_S p e below T75 (mkF m 78 (own_AJWJWJWIIUUIJW q0 q1 q2 p3 v4 v42 v70) [(.long z75), (.long q0)]) t := by
          intro t k
          rw [hv82] at k
          show own_S p e below T75 (mkF m 78 (own_AJWJWJWIIUUIJW q0 q1 q2 p3 v4 v42 v70) [(.long z75), (.long q0)]) _
          refine XS.ladd X75.here hx rfl (hb hby at_78) rfl ?_
          show own_S p e below T75 (mkF m 79 (own_AJWJWJWIIUUIJW q0 q1 q2 p3 v4 v42 v70) [(.long (q0 + z75))]) _
          refine XS.lload X75.here hx rfl (hb hby at_79) rfl ?_
          show own_S p e below T75 (mkF m 81 (own_AJWJWJWIIUUIJW q0 q1 q2 p3 v4 v42 v70) [(.long v70), (.long (q0 + z75))]) _
          refine XS.ladd X75.here hx rfl (hb hby at_81) rfl ?_
          exact k
        refine own_by sg82 ?_
        have sg87 : ∀ t, own_S p e below T75 (mkF m 87 (own_AJWJWJWIIJWIJW q0 q1 q2 p3 v4 v82 v42 v70) [(.long v82), (.long q0)]) t → own_S p e below T75 (mkF m 82 (own_AJWJWJWIIUUIJW q0 q1 q2 p3 v4 v42 v70) [(.long v82)]) t := by
          intro t k
          show own_S p e below T75 (mkF m 82 (own_AJWJWJWIIUUIJW q0 q1 q2 p3 v4 v42 v70) [(.long v82)]) _
          refine XS.lstore X75.here hx rfl (hb hby at_82) rfl (l' := (own_AJWJWJWIIJWIJW q0 q1 q2 p3 v4 v82 v42 v70)) rfl ?_
          show own_S p e below T75 (mkF m 84 (own_AJWJWJWIIJWIJW q0 q1 q2 p3 v4 v82 v42 v70) []) _
          refine XS.lloadN X75.here hx rfl (hb hby at_84) rfl ?_
          show own_S p e below T75 (mkF m 85 (own_AJWJWJWIIJWIJW q0 q1 q2 p3 v4 v82 v42 v70) [(.long q0)]) _
          refine XS.lload X75.here hx rfl (hb hby at_85) rfl ?_
          exact k
        refine own_by sg87 ?_
        obtain ⟨_, _, ⟨T87, L87, k87, n87⟩, -, X87, ⟨Lc87, hQ87, l87, y87, z87⟩, st87⟩ := Jvm.LawKit.callS X75 hx (y := (⟨"com/example/reverie/reverie/FusedScore", "bucket", "(JJ)I"⟩ : MethodName)) hown (mvT hZ (hw _ (List.mem_of_getElem? (i := 4) rfl))) (mvT hZ (hw _ (List.mem_of_getElem? (i := 5) rfl))) (mvT hZ (hw _ (List.mem_of_getElem? (i := 6) rfl))) (mvT hZ (hw _ (List.mem_of_getElem? (i := 7) rfl))) (by decide) (backOf (W := 0) (rm2 l Z a0 hw [] q0 v82 wBUCKET_EDGES cl h0 n0 Z0 S_E Ar hsz hat0 hat1 hat2 hat3 hat4 hat5 hat6 hat7) hZ (hw _ (List.mem_of_getElem? (i := 7) rfl)) (hw _ (List.mem_of_getElem? (i := 6) rfl)) (by decide) (by decide)) (g := (mkF m 87 (own_AJWJWJWIIJWIJW q0 q1 q2 p3 v4 v82 v42 v70) [(.long v82), (.long q0)])) rfl (by rw [hml]; rfl) (argsL := [(.long q0), (.long v82)]) (rest := []) (lenOf pd_0_0 rfl) rfl (by show 2 * 0 + _ ≤ _; exact Nat.le_of_eq rfl) (hb hby at_87) (fun _ _ => ⟨rfl, hq75, (by decide : 0 + 0 ≤ _), (by decide : 0 + 0 ≤ _)⟩)
        dsimp only [Pt.U, Pt.locs, Pt.cells, Pt.slots] at X87 l87 y87 z87 st87 hQ87
        subst l87 y87 z87
        obtain ⟨rfl, N87q, hq87⟩ := hQ87
        have N87 := Fr.app N75 N87q
        obtain ⟨c87, hc87⟩ : ∃ z : Int32, z = (own_cnt (own_age q0 v82)) := ⟨_, rfl⟩
        rw [← hc87] at st87
        refine own_by st87 ?_
        have sg93 : ∀ t, own_S p e below T87 (mkF m 93 (own_AJWJWJWIIJWIJW q0 q1 q2 p3 v4 v82 v42 v70) [(.long v82), (.long q0), (.int c87)]) t → own_S p e below T87 (mkF m 90 (own_AJWJWJWIIJWIJW q0 q1 q2 p3 v4 v82 v42 v70) [(.int c87)]) t := by
          intro t k
          show own_S p e below T87 (mkF m 90 (own_AJWJWJWIIJWIJW q0 q1 q2 p3 v4 v82 v42 v70) [(.int c87)]) _
          refine XS.lloadN X87.here hx rfl (hb hby at_90) rfl ?_
          show own_S p e below T87 (mkF m 91 (own_AJWJWJWIIJWIJW q0 q1 q2 p3 v4 v82 v42 v70) [(.long q0), (.int c87)]) _
          refine XS.lload X87.here hx rfl (hb hby at_91) rfl ?_
          exact k
        refine own_by sg93 ?_
        obtain ⟨_, _, ⟨T93, L93, k93, n93⟩, -, X93, ⟨Lc93, hQ93, l93, y93, z93⟩, st93⟩ := Jvm.LawKit.callS X87 hx (y := (⟨"com/example/reverie/reverie/FusedScoreBucketPinLaw", "ref", "(JJ)I"⟩ : MethodName)) hown (mvT hZ (hw _ (List.mem_of_getElem? (i := 10) rfl))) (mvT hZ (hw _ (List.mem_of_getElem? (i := 11) rfl))) (mvT hZ (hw _ (List.mem_of_getElem? (i := 2) rfl))) (mvT hZ (hw _ (List.mem_of_getElem? (i := 12) rfl))) (by decide) (backOf (W := 1) (rm3 l Z a0 hw [] q0 v82 h0 n0 Z0) hZ (hw _ (List.mem_of_getElem? (i := 12) rfl)) (hw _ (List.mem_of_getElem? (i := 2) rfl)) (by decide) (by decide)) (g := (mkF m 93 (own_AJWJWJWIIJWIJW q0 q1 q2 p3 v4 v82 v42 v70) [(.long v82), (.long q0), (.int c87)])) rfl (by rw [hml]; rfl) (argsL := [(.long q0), (.long v82)]) (rest := [(.int c87)]) (lenOf pd_0_0 rfl) rfl (by show 2 * 0 + _ ≤ _; exact Nat.le_of_eq rfl) (hb hby at_93) (fun _ _ => ⟨rfl, hq87, (by decide : 0 + 0 ≤ _), (by decide : 0 + 0 ≤ _)⟩)
        dsimp only [Pt.U, Pt.locs, Pt.cells, Pt.slots] at X93 l93 y93 z93 st93 hQ93
        subst l93 y93 z93
        obtain ⟨rfl, N93q, hq93⟩ := hQ93
        have N93 := Fr.app N87 N93q
        obtain ⟨c93, hc93⟩ : ∃ z : Int32, z = (own_ref q0 v82) := ⟨_, rfl⟩
        rw [← hc93] at st93
        refine own_by st93 ?_
        have sg104 : ∀ t, own_S p e below T93 (mkF m 104 (own_AJWJWJWIIJWIJW q0 q1 q2 p3 v4 v82 v42 v70) [(.int (1 : Int32))]) t → own_S p e below T93 (mkF m 96 (own_AJWJWJWIIJWIJW q0 q1 q2 p3 v4 v82 v42 v70) [(.int c93), (.int c87)]) t := by
          intro t k
          show own_S p e below T93 (mkF m 96 (own_AJWJWJWIIJWIJW q0 q1 q2 p3 v4 v82 v42 v70) [(.int c93), (.int c87)]) _
          refine XS.icmpNo X93.here hx rfl (hb hby at_96) rfl (teq (by rw [hc87, hc93]; exact own_law _ _ : c87 = c93)).2 ?_
          show own_S p e below T93 (mkF m 99 (own_AJWJWJWIIJWIJW q0 q1 q2 p3 v4 v82 v42 v70) []) _
          refine XS.iconst X93.here hx rfl (hb hby at_99) ?_
          show own_S p e below T93 (mkF m 100 (own_AJWJWJWIIJWIJW q0 q1 q2 p3 v4 v82 v42 v70) [(.int (1 : Int32))]) _
          refine XS.goto X93.here hx rfl (pc0 := 100) (pc' := 104) rfl (hb hby at_100) (by decide) (by decide) ?_
          exact k
        refine own_by sg104 ?_
        obtain ⟨fs, hr, hrun, hended, hW, hsame⟩ := X93.leave (v := some (.int (1 : Int32))) (fun h => by rw [Bd.returns] at h; cases h)
        refine ⟨_, _, ?_, hrun, hended, _, _, rfl, ?_, ⟨_, rfl⟩, hW, hsame.mono (by decide) (by decide)⟩
        · exact retN X93 hx (t := .boolean) Bd.returns (by simp) (hb hby at_104) hr
        · show Q0 Z q0 q1 q2 p3 wBUCKET_EDGES cl h0 n0 _ T93.heap _
          rw [hq93]
          exact ⟨rfl, N93⟩
set_option maxRecDepth 65536 in
set_option maxHeartbeats 40000000 in
theorem comes_1 {Post : Tables → Env → Array Value → State → Outcome → State → Prop} (hpost : ∀ tb e args s v u, (limb_1_1.after args s (.returned v) u = true ∧ limb_1_2.after args s (.returned v) u = true ∧ True) → FrameEnd s (.returned v) u (Jvm.fieldLocs frame_1_writes args s ++ Jvm.arrayLocs frame_1_arrays args s ++ Jvm.staticLocs frame_1_statics s) 0 0 → Post tb e args s (.returned v) u) :
    ArmFor flags0 classFile x code maxLocals ret World_1 tables_1 room_1 Calls_1 rest_1 Pre_1 Post := by
  intro l hfl _ _ p e ha hc hk s m args below hf hA hF happ hP
  obtain ⟨hcalls, hrest, hpre⟩ := hP
  obtain ⟨-, -, -, hnamed, -, -, -, hat⟩ := (Spec.applies_iff hf).mp happ
  obtain ⟨hg, nn⟩ := and_e (Cond.before_iff.mp (show (Jvm.Cond.and given_1 narrow_1).before args s = true from hpre))
  obtain ⟨hh0, hh1⟩ := and_e hg
  obtain ⟨hh2, hh3⟩ := and_e hh1
  obtain ⟨hh4, hh5⟩ := and_e hh3
  obtain ⟨hh6, hh7⟩ := and_e hh5
  obtain ⟨w0, w1, w2, w3, rfl⟩ : ∃ w0 w1 w2 w3 : Value, args = #[w0, w1, w2, w3] := by
    have hs : args.size = 4 := by simpa [Cond.value, given_1] using hh0
    obtain ⟨L⟩ := args
    match L, hs with
    | [w0, w1, w2, w3], _ => exact ⟨w0, w1, w2, w3, rfl⟩
  have hw := fun d (hd : d ∈ tables_1) => atoms_spec (ws := Jvm.Cond.code x code maxLocals ret :: tables_1) hat d (List.mem_cons_of_mem _ hd)
  have hfit : Fit s := fun {y c} hc i hi => by
    obtain ⟨ha, rfl⟩ := Array.getElem?_eq_some_iff.mp hc
    have q := List.all_eq_true.mp ((Array.all_eq_true_iff_forall_mem.mp hF) _ (Array.getElem_mem ha)) i (List.mem_range.mpr hi)
    simpa [Array.getElem?_eq_getElem hi] using q
  obtain ⟨i0, ei0⟩ := isL_v hh2
  obtain rfl : w0 = (.long i0) := Option.some.inj ei0
  obtain ⟨i1, ei1⟩ := isL_v hh4
  obtain rfl : w1 = (.long i1) := Option.some.inj ei1
  obtain ⟨i2, ei2⟩ := isL_v hh6
  obtain rfl : w2 = (.long i2) := Option.some.inj ei2
  obtain ⟨i3, ei3⟩ := is_v hh7
  obtain rfl : w3 = (.int i3) := Option.some.inj ei3
  obtain ⟨nn0, nn1⟩ := and_e nn
  obtain ⟨nn2, nn3⟩ := and_e nn1
  obtain ⟨nn4, nn5⟩ := and_e nn3
  obtain ⟨nn6, nn7⟩ := and_e nn5
  obtain ⟨nn8, nn9⟩ := and_e nn7
  obtain ⟨nn10, nn11⟩ := and_e nn9
  obtain ⟨nn12, nn13⟩ := and_e nn11
  obtain ⟨nn14, nn15⟩ := and_e nn13
  obtain ⟨nn16, nn17⟩ := and_e nn15
  obtain ⟨u, ev⟩ := arr_v nn0
  obtain ⟨cl, Ar⟩ := Arr.start ev nn0
  have St := Sta.start ev (Or.inr ⟨(hw _ (List.mem_of_getElem? (i := 6) rfl)), (hw _ (List.mem_of_getElem? (i := 9) rfl))⟩)
  have hsz : cl.slots.size = 8 := own_len ev Ar (by decide) (own_eqi nn2)
  have hat0 : cl.slots[0]? = some (.long (3600000 : Int64)) := (elem_in (own_eql nn4) ev (Term.int_eval _) Ar.1).2
  have hat1 : cl.slots[1]? = some (.long (21600000 : Int64)) := (elem_in (own_eql nn6) ev (Term.int_eval _) Ar.1).2
  have hat2 : cl.slots[2]? = some (.long (86400000 : Int64)) := (elem_in (own_eql nn8) ev (Term.int_eval _) Ar.1).2
  have hat3 : cl.slots[3]? = some (.long (259200000 : Int64)) := (elem_in (own_eql nn10) ev (Term.int_eval _) Ar.1).2
  have hat4 : cl.slots[4]? = some (.long (604800000 : Int64)) := (elem_in (own_eql nn12) ev (Term.int_eval _) Ar.1).2
  have hat5 : cl.slots[5]? = some (.long (1209600000 : Int64)) := (elem_in (own_eql nn14) ev (Term.int_eval _) Ar.1).2
  have hat6 : cl.slots[6]? = some (.long (2419200000 : Int64)) := (elem_in (own_eql nn16) ev (Term.int_eval _) Ar.1).2
  have hat7 : cl.slots[7]? = some (.long (7776000000 : Int64)) := (elem_in (own_eql nn17) ev (Term.int_eval _) Ar.1).2
  obtain ⟨n, o, h1, h2, h3, _, L, rfl, ⟨rfl, N⟩, hq⟩ := rm0 l s _ hw tables_1 i0 i1 i2 i3 u cl s.heap s.heap.size (Nat.le_refl _) St Ar hsz hat0 hat1 hat2 hat3 hat4 hat5 hat6 hat7 p e ha hc hk s m _ below hf ((Spec.applies_iff_loose hf).mp happ).1 ⟨rfl, State.Warmed39.refl s, rfl⟩ trivial
  refine ⟨n, _, h1, h2, h3, hpost _ _ _ _ _ _ ⟨Cond.after_iff.mpr rfl, Cond.after_iff.mpr (eq_i res_at (Term.int_eval (1)) rfl), trivial⟩ ⟨hq.1, hq.2.1, (hq.2.2.sift fun y hy => Or.inr (N y hy)).mono (by decide) (by decide)⟩⟩
theorem main_1_1 : Claimed_1_1 := comes_1 fun _ _ _ _ _ _ h hF => ⟨h.1, hF⟩
theorem main_1_2 : Claimed_1_2 := comes_1 fun _ _ _ _ _ _ h hF => ⟨h.2.1, hF⟩
end Jvm.Pilot.@@N@@
namespace Jvm.Pilot.@@N@@
open Jvm Jvm.ClassFile Sem Op Lib Jvm.Free Jvm.Stand Jvm.Pilot.@@N@@.Jvm.D
/-! MADE BY PROGRAM (witnessworld.py) out of the Statement's table words and the real class files: 11 classes; the members and pool entries that the words name. The judged class is class 1, her method 4. -/
namespace start1
open Jvm.ClassFile
def u (s : String) : CpInfo := .utf8 (stringToUtf16 s)
/-- a pool by its gaps: so many unusable entries, then the entry; so many at the end -/
def gap : Nat → List CpInfo → List CpInfo
  | 0, r => r
  | n + 1, r => .unusable :: gap n r
def poolList (es : List (Nat × CpInfo)) (last : Nat) : List CpInfo := es.foldr (fun e r => gap e.1 (e.2 :: r)) (gap last [])
def pool (es : List (Nat × CpInfo)) (last : Nat) : Array CpInfo := ⟨poolList es last⟩
def fileOf (pool : Array CpInfo) (this : Nat) (attrs : Array Attribute := #[]) (ms : Array MethodInfo := #[]) (fl : Nat := 33) (sup : Nat := 0) (ifs : Array Nat := #[]) (fds : Array FieldInfo := #[]) : ClassFile where
  minorVersion := 0
  majorVersion := 65
  constantPool := pool
  accessFlags := fl
  thisClass := this
  superClass := sup
  interfaces := ifs
  fields := fds
  methods := ms
  attributes := attrs
def plain (name : String) (sup : Option ClassId) : Class where
  name := name
  kind := .ordinary
  loader := none
  accessFlags := 33
  super := sup
  interfaces := #[]
  cf := none
  fields := #[]
  methods := #[]
  instanceTypes := #[]
  staticTypes := #[]
  resolved := #[]
  callSites := []
  init := .initialized
  statics := none
  mirror := none

def pool0 : Array CpInfo := pool [(5, u "<init>"), (0, u "()V"), (1, .class_ 10), (1, u "java/lang/Object")] 113

def k0m0 : Method := { name := "<init>", desc := "()V", sig := { parameters := [], returnType := none }, accessFlags := 1, code := none }
/-- java/lang/Object -/
def k0 : Class := { plain "java/lang/Object" none with
  accessFlags := 33
  interfaces := #[]
  cf := some (fileOf pool0 8 #[] #[{ accessFlags := 1, nameIndex := 5, descriptorIndex := 6, attributes := #[] }] 33 0 #[] #[])
  fields := #[]
  methods := #[k0m0]
  instanceTypes := #[]
  staticTypes := #[]
  resolved := Array.replicate 124 none
  statics := none }

def pool1 : Array CpInfo := pool [(2, .class_ 4), (1, u "java/lang/Object"), (0, u "<init>"), (0, u "()V"), (0, .long 3600000), (1, .long 21600000), (1, .long 86400000), (1, .long 259200000), (1, .long 604800000), (1, .long 1209600000), (1, .long 2419200000), (1, .long 7776000000), (3, .long 9223372036854775808), (1, .methodref 28 29), (0, .class_ 30), (0, .nameAndType 31 32), (0, u "com/example/reverie/reverie/FusedScoreBucketPinLaw"), (0, u "reaches"), (0, u "(JJJ)I"), (0, .long 6), (1, .long 24), (1, .long 72), (1, .long 168), (1, .long 336), (1, .long 672), (1, .long 2160), (1, .methodref 28 48), (0, .nameAndType 49 50), (0, u "edge"), (0, u "(I)J"), (0, .methodref 52 53), (0, .class_ 54), (0, .nameAndType 55 56), (0, u "com/example/reverie/reverie/FusedScore"), (0, u "bucket"), (0, u "(JJ)I"), (0, .methodref 28 58), (0, .nameAndType 59 56), (0, u "ref"), (3, u "law"), (0, u "(JJJI)Z")] 2

def k1m0 : Method := { name := "<init>", desc := "()V", sig := { parameters := [], returnType := none }, accessFlags := 2, code := none }
def k1c1 : Code := { maxStack := 2, maxLocals := 1, code := method_2_code, exceptionTable := #[], attributes := #[] }
def k1m1 : Method := { name := "edge", desc := "(I)J", sig := { parameters := [.int], returnType := some .long }, accessFlags := 10, code := some k1c1 }
def k1c2 : Code := { maxStack := 6, maxLocals := 6, code := method_3_code, exceptionTable := #[], attributes := #[] }
def k1m2 : Method := { name := "reaches", desc := "(JJJ)I", sig := { parameters := [.long, .long, .long], returnType := some .int }, accessFlags := 10, code := some k1c2 }
def k1c3 : Code := { maxStack := 9, maxLocals := 6, code := method_4_code, exceptionTable := #[], attributes := #[] }
def k1m3 : Method := { name := "ref", desc := "(JJ)I", sig := { parameters := [.long, .long], returnType := some .int }, accessFlags := 10, code := some k1c3 }
def k1c4 : Code := { maxStack := 5, maxLocals := 13, code := code, exceptionTable := #[], attributes := #[] }
def k1m4 : Method := { name := "law", desc := "(JJJI)Z", sig := { parameters := [.long, .long, .long, .int], returnType := some .boolean }, accessFlags := 9, code := some k1c4 }
/-- com/example/reverie/reverie/FusedScoreBucketPinLaw -/
def k1 : Class := { plain "com/example/reverie/reverie/FusedScoreBucketPinLaw" (some 0) with
  accessFlags := 49
  interfaces := #[]
  cf := some (fileOf pool1 28 #[] #[{ accessFlags := 2, nameIndex := 5, descriptorIndex := 6, attributes := #[] }, { accessFlags := 10, nameIndex := 49, descriptorIndex := 50, attributes := #[] }, { accessFlags := 10, nameIndex := 31, descriptorIndex := 32, attributes := #[] }, { accessFlags := 10, nameIndex := 59, descriptorIndex := 56, attributes := #[] }, { accessFlags := 9, nameIndex := 63, descriptorIndex := 64, attributes := #[] }] 49 2 #[] #[])
  fields := #[]
  methods := #[k1m0, k1m1, k1m2, k1m3, k1m4]
  instanceTypes := #[]
  staticTypes := #[]
  resolved := Array.replicate 67 none
  statics := none }

def pool2 : Array CpInfo := pool [(2, .class_ 4), (1, u "java/lang/Object"), (0, u "<init>"), (0, u "()V"), (2, .long 9223372036854775807), (1, .fieldref 12 13), (0, .class_ 14), (0, .nameAndType 15 16), (0, u "com/example/reverie/reverie/FusedScore"), (0, u "BUCKET_EDGES"), (0, u "[J"), (8, u "OLDEST_BUCKET"), (0, u "I"), (2, u "DECAY"), (0, u "[D"), (2, u "AROUSAL_FACTOR"), (50, u "HOUR_MILLIS"), (0, u "J"), (1, u "AROUSAL_SHIFT"), (1, u "NO_DECAY"), (0, u "D"), (2, u "LASTING_IMPORTANCE"), (0, u "F"), (1, u "RECALLS_PER_BUCKET"), (3, u "bucket"), (0, u "(JJ)I")] 15

def k2m0 : Method := { name := "<init>", desc := "()V", sig := { parameters := [], returnType := none }, accessFlags := 2, code := none }
def k2c1 : Code := { maxStack := 4, maxLocals := 7, code := prog_14_method_2_code, exceptionTable := #[], attributes := #[] }
def k2m1 : Method := { name := "bucket", desc := "(JJ)I", sig := { parameters := [.long, .long], returnType := some .int }, accessFlags := 8, code := some k2c1 }
/-- com/example/reverie/reverie/FusedScore -/
def k2 : Class := { plain "com/example/reverie/reverie/FusedScore" (some 0) with
  accessFlags := 32
  interfaces := #[]
  cf := some (fileOf pool2 12 #[] #[{ accessFlags := 2, nameIndex := 5, descriptorIndex := 6, attributes := #[] }, { accessFlags := 8, nameIndex := 100, descriptorIndex := 101, attributes := #[] }] 32 2 #[] #[{ accessFlags := 26, nameIndex := 84, descriptorIndex := 85, attributes := #[] }, { accessFlags := 26, nameIndex := 15, descriptorIndex := 16, attributes := #[] }, { accessFlags := 26, nameIndex := 29, descriptorIndex := 30, attributes := #[] }, { accessFlags := 26, nameIndex := 33, descriptorIndex := 30, attributes := #[] }, { accessFlags := 26, nameIndex := 87, descriptorIndex := 26, attributes := #[] }, { accessFlags := 26, nameIndex := 89, descriptorIndex := 90, attributes := #[] }, { accessFlags := 26, nameIndex := 25, descriptorIndex := 26, attributes := #[] }, { accessFlags := 26, nameIndex := 93, descriptorIndex := 94, attributes := #[] }, { accessFlags := 26, nameIndex := 96, descriptorIndex := 26, attributes := #[] }])
  fields := #[{ name := "HOUR_MILLIS", type := .long, accessFlags := 26, slot := 0, constantValue := 0 }, { name := "BUCKET_EDGES", type := (.array .long), accessFlags := 26, slot := 1, constantValue := 0 }, { name := "DECAY", type := (.array .double), accessFlags := 26, slot := 2, constantValue := 0 }, { name := "AROUSAL_FACTOR", type := (.array .double), accessFlags := 26, slot := 3, constantValue := 0 }, { name := "AROUSAL_SHIFT", type := .int, accessFlags := 26, slot := 4, constantValue := 0 }, { name := "NO_DECAY", type := .double, accessFlags := 26, slot := 5, constantValue := 0 }, { name := "OLDEST_BUCKET", type := .int, accessFlags := 26, slot := 6, constantValue := 0 }, { name := "LASTING_IMPORTANCE", type := .float, accessFlags := 26, slot := 7, constantValue := 0 }, { name := "RECALLS_PER_BUCKET", type := .int, accessFlags := 26, slot := 8, constantValue := 0 }]
  methods := #[k2m0, k2m1]
  instanceTypes := #[]
  staticTypes := #[.long, (.array .long), (.array .double), (.array .double), .int, .double, .int, .float, .int]
  resolved := Array.replicate 117 none
  statics := some 0 }

def pool3 : Array CpInfo := pool [(1, u "java/lang/Cloneable"), (0, .class_ 1), (0, u "java/lang/Object"), (0, .class_ 3)] 3

/-- java/lang/Cloneable -/
def k3 : Class := { plain "java/lang/Cloneable" (some 0) with
  accessFlags := 1537
  interfaces := #[]
  cf := some (fileOf pool3 2 #[] #[] 1537 4 #[] #[])
  fields := #[]
  methods := #[]
  instanceTypes := #[]
  staticTypes := #[]
  resolved := Array.replicate 8 none
  statics := none }

def pool4 : Array CpInfo := pool [(1, u "java/io/Serializable"), (0, .class_ 1), (0, u "java/lang/Object"), (0, .class_ 3)] 3

/-- java/io/Serializable -/
def k4 : Class := { plain "java/io/Serializable" (some 0) with
  accessFlags := 1537
  interfaces := #[]
  cf := some (fileOf pool4 2 #[] #[] 1537 4 #[] #[])
  fields := #[]
  methods := #[]
  instanceTypes := #[]
  staticTypes := #[]
  resolved := Array.replicate 8 none
  statics := none }

/-- the primitive byte -/
def k5 : Class := { plain "byte" none with kind := .primitive 'B', accessFlags := 0x411 }
/-- [B -/
def k6 : Class := { plain "[B" (some 0) with kind := .array 5 .byte, interfaces := #[3, 4], accessFlags := 1041 }

/-- the primitive int -/
def k7 : Class := { plain "int" none with kind := .primitive 'I', accessFlags := 0x411 }
/-- [I -/
def k8 : Class := { plain "[I" (some 0) with kind := .array 7 .int, interfaces := #[3, 4], accessFlags := 1041 }

/-- the primitive long -/
def k9 : Class := { plain "long" none with kind := .primitive 'J', accessFlags := 0x411 }
/-- [J -/
def k10 : Class := { plain "[J" (some 0) with kind := .array 9 .long, interfaces := #[3, 4], accessFlags := 1041 }

def heap : Heap := #[{ cls := 2, slots := #[.long 0, .ref 1, .null, .null, .int 0, .double 0, .int 0, .float 0, .int 0], vm := .statics 2 },
  { cls := 10, slots := #[.long 3600000, .long 21600000, .long 86400000, .long 259200000, .long 604800000, .long 1209600000, .long 2419200000, .long 7776000000], vm := .none }]
def classes : Array Class := #[k0, k1, k2, k3, k4, k5, k6, k7, k8, k9, k10]
def interned : List (Array UInt16 × Addr) := []
def slotsUsed : Nat := 17
def theMethod : MethodId := ⟨1, 4⟩
def args0 : Array Value := #[.long 5, .long 6, .long 7, .int 3]
def aboutOver (below : List Frame) : State where
  vm := { classes := classes, interned := interned.toArray }
  heap := heap
  slotsUsed := slotsUsed
  threads := #[{ frames := .invoking theMethod args0 :: below }]
def below0 : List Frame := [.native { method := ⟨0, 0⟩, args := #[] }]
def about1 : State := aboutOver below0
def p0 : Program := .bare "" "" ""
def e0 : Env := launch0.env 0 0 0
theorem w_frames : about1.frames = Frame.invoking theMethod args0 :: below0 := rfl
set_option maxRecDepth 65536 in
theorem w_args : argsFit about1.vm theMethod args0 = true := by decide +kernel
set_option maxRecDepth 65536 in
theorem w_heap : heapFits about1 = true := by decide +kernel
set_option maxRecDepth 65536 in
theorem w_runnable : about1.curStatus? = some .runnable := by decide +kernel
set_option maxRecDepth 65536 in
theorem w_alone : about1.alone = true := by decide +kernel
set_option maxRecDepth 65536 in
theorem w_named : about1.methodNamed? x = some theMethod := by decide +kernel
set_option maxRecDepth 65536 in
theorem w_hears : about1.hears theMethod below0 = true := by decide +kernel
set_option maxRecDepth 65536 in
theorem w_ripe : about1.ripe theMethod args0 below0 = true := by decide +kernel
theorem w_running : about1.status = .running := rfl
set_option maxRecDepth 65536 in
theorem w_room : about1.hasRoom e0.platform room_1 = true :=
  launch0.hasRoom_least _ room_1 (by decide +kernel) (by decide +kernel) (by decide +kernel) (by decide +kernel) (by decide +kernel) (by decide +kernel)
theorem allAtoms_all (ts : List Jvm.Cond) (a : Array Jvm.Value) (st : Jvm.State) : (allAtoms ts).before a st = ts.all (fun c => c.before a st) := by
  induction ts with
  | nil => rfl
  | cons c t ih =>
    show (Jvm.Cond.and c (allAtoms t)).before a st = _
    rw [Jvm.Cond.before_and, ih, List.all_cons]
def words1 : List Jvm.Cond := Jvm.Cond.code x code maxLocals ret :: tables_1
/-- a 'code' word, met by the world's own term for the bytes: nothing is compared byte by byte -/
theorem code_word {y : MethodName} {bytes : ByteArray} {mx : Nat} {rt : Option FieldType} {a : Array Value} {s : State} {m : MethodId} {meth : Method} {c : Code} (h1 : s.methodNamed? y = some m) (h2 : s.vm.method? m = some meth) (h3 : meth.code = some c) (h4 : c.code = bytes)
    (h5 : (c.maxLocals == mx && c.exceptionTable.isEmpty && decide (c.maxStack ≤ mostOperands) && decide (meth.sig.returnType = rt) && !meth.locks && decide (parseMethodDescriptor y.desc = some meth.sig)) = true) : (Jvm.Cond.code y bytes mx rt).before a s = true := by
  simp only [Bool.and_eq_true, beq_iff_eq, Bool.not_eq_true', decide_eq_true_eq] at h5
  obtain ⟨⟨⟨⟨⟨g1, g2⟩, g3⟩, g4⟩, g5⟩, g6⟩ := h5
  simp [Cond.before, Cond.holds, Cond.value, h1, h2, h3, h4, g1, g2, g3, g4, g5, g6]
def isCode : Jvm.Cond → Bool
  | .code _ _ _ _ => true
  | _ => false
theorem all_split {L : List Jvm.Cond} {P : Jvm.Cond → Bool} (h1 : L.all (fun c => isCode c || P c) = true) (h2 : ∀ c ∈ L.filter isCode, P c = true) : L.all P = true := by
  refine List.all_eq_true.mpr fun c hc => ?_
  have h := List.all_eq_true.mp h1 c hc
  rcases Bool.eq_false_or_eq_true (isCode c) with hi | hi
  · exact h2 c (List.mem_filter.mpr ⟨hc, hi⟩)
  · simpa [hi] using h
set_option maxRecDepth 65536 in
theorem w_c0 : (Jvm.Cond.code x code maxLocals ret).before args0 about1 = true := code_word (m := ⟨1, 4⟩) (meth := k1m4) (c := k1c4) (by decide +kernel) rfl rfl rfl (by decide +kernel)
set_option maxRecDepth 65536 in
theorem w_c1 : (Jvm.Cond.code ({ cls := "com/example/reverie/reverie/FusedScoreBucketPinLaw", name := "edge", desc := "(I)J" } : Jvm.MethodName) method_2_code (1 : Nat) (Option.some Jvm.ClassFile.FieldType.long)).before args0 about1 = true := code_word (m := ⟨1, 1⟩) (meth := k1m1) (c := k1c1) (by decide +kernel) rfl rfl rfl (by decide +kernel)
set_option maxRecDepth 65536 in
theorem w_c2 : (Jvm.Cond.code ({ cls := "com/example/reverie/reverie/FusedScore", name := "bucket", desc := "(JJ)I" } : Jvm.MethodName) prog_14_method_2_code (7 : Nat) (Option.some Jvm.ClassFile.FieldType.int)).before args0 about1 = true := code_word (m := ⟨2, 1⟩) (meth := k2m1) (c := k2c1) (by decide +kernel) rfl rfl rfl (by decide +kernel)
set_option maxRecDepth 65536 in
theorem w_c3 : (Jvm.Cond.code ({ cls := "com/example/reverie/reverie/FusedScoreBucketPinLaw", name := "ref", desc := "(JJ)I" } : Jvm.MethodName) method_4_code (6 : Nat) (Option.some Jvm.ClassFile.FieldType.int)).before args0 about1 = true := code_word (m := ⟨1, 3⟩) (meth := k1m3) (c := k1c3) (by decide +kernel) rfl rfl rfl (by decide +kernel)
set_option maxRecDepth 65536 in
theorem w_c4 : (Jvm.Cond.code ({ cls := "com/example/reverie/reverie/FusedScoreBucketPinLaw", name := "reaches", desc := "(JJJ)I" } : Jvm.MethodName) method_3_code (6 : Nat) (Option.some Jvm.ClassFile.FieldType.int)).before args0 about1 = true := code_word (m := ⟨1, 2⟩) (meth := k1m2) (c := k1c2) (by decide +kernel) rfl rfl rfl (by decide +kernel)
def codes1 : List Jvm.Cond := [Jvm.Cond.code x code maxLocals ret, Jvm.Cond.code ({ cls := "com/example/reverie/reverie/FusedScoreBucketPinLaw", name := "edge", desc := "(I)J" } : Jvm.MethodName) method_2_code (1 : Nat) (Option.some Jvm.ClassFile.FieldType.long), Jvm.Cond.code ({ cls := "com/example/reverie/reverie/FusedScore", name := "bucket", desc := "(JJ)I" } : Jvm.MethodName) prog_14_method_2_code (7 : Nat) (Option.some Jvm.ClassFile.FieldType.int), Jvm.Cond.code ({ cls := "com/example/reverie/reverie/FusedScoreBucketPinLaw", name := "ref", desc := "(JJ)I" } : Jvm.MethodName) method_4_code (6 : Nat) (Option.some Jvm.ClassFile.FieldType.int), Jvm.Cond.code ({ cls := "com/example/reverie/reverie/FusedScoreBucketPinLaw", name := "reaches", desc := "(JJJ)I" } : Jvm.MethodName) method_3_code (6 : Nat) (Option.some Jvm.ClassFile.FieldType.int)]
set_option maxRecDepth 65536 in
theorem codes_eq : words1.filter isCode = codes1 := rfl
theorem w_codes : ∀ c ∈ words1.filter isCode, c.before args0 about1 = true := by
  rw [codes_eq]
  intro c hc
  simp only [codes1, List.mem_cons, List.not_mem_nil, or_false] at hc
  rcases hc with rfl | rfl | rfl | rfl | rfl
  · exact w_c0
  · exact w_c1
  · exact w_c2
  · exact w_c3
  · exact w_c4
set_option maxRecDepth 65536 in
theorem w_t1 : (words1.take 24).all (fun c => isCode c || c.before args0 about1) = true := by decide +kernel
set_option maxRecDepth 65536 in
theorem w_t2 : (words1.drop 24).all (fun c => isCode c || c.before args0 about1) = true := by decide +kernel
theorem w_tables : (allAtoms (Jvm.Cond.code x code maxLocals ret :: tables_1)).before args0 about1 = true := by
  rw [allAtoms_all]
  show words1.all (fun c => c.before args0 about1) = true
  refine all_split ?_ w_codes
  rw [← List.take_append_drop 24 words1, List.all_append, w_t1, w_t2]
  rfl
set_option maxRecDepth 65536 in
theorem w_case : (Jvm.Cond.and given_1 narrow_1).before args0 about1 = true := by decide +kernel
theorem w_applies : (headSpec (Jvm.Cond.code x code maxLocals ret :: tables_1) room_1).applies x e0.platform about1 = true :=
  (Spec.applies_iff w_frames).mpr ⟨w_running, w_runnable, w_alone, w_named, w_hears, w_ripe, w_room, w_tables⟩
theorem atStart : AtStart classFile x code maxLocals ret World_1 tables_1 room_1 Calls_1 rest_1 Pre_1 launch0 p0 e0 about1 theMethod args0 below0 :=
  ⟨lists_1, trivial, launch0.admits_env _ _ _, launch0.least_env, fairChoices_fair.cas, fairChoices_fair.clock, w_frames, w_args, w_heap, w_applies, trivial, trivial, w_case⟩
end start1
theorem witness_1 : WitnessClaimed_1 := ⟨start1.p0, start1.e0, start1.about1, start1.theMethod, start1.args0, start1.below0, start1.atStart⟩
end Jvm.Pilot.@@N@@
