import JvmDerived
import JvmDerived.Pilot.@@N@@Statement
import JvmDerived.Pilot.@@N@@Code
set_option linter.unusedVariables false
set_option linter.unusedSimpArgs false
namespace Jvm.RoadKit
open Sem ClassFile Op Lib Jvm.Stand Jvm.Free Jvm.LawKit
section New
variable {p : Program} {l : Launch} {e : Env} {R : Room} {s : State} {m : MethodId} {args : Array Value} {below : List Frame} {meth : Method} {c : Code} {T : State} {locs : List Loc} {cells slots : Nat}
theorem retI (X : Stand p l e R s m args below meth c T locs cells slots) (hx : p.tables.exec = Jvm.exec) {pc : Nat} {Ls : Array Slot} {z : Int32} {rest : List Value} (hret : meth.sig.returnType = some .int) (hd : decode c.code pc = .ok (.ireturn, 1)) {fs : List Frame}
    (hl : ∀ (f : JFrame) (acts : List Action), f.method = m → f.locked = none → f.entered = [] → (doReturn e (T.setTop f) acts (some (.int z))).1 = T.setFrames fs) : Steps p.tables e below (T.setTop (mkF m pc Ls (.int z :: rest))) (T.setFrames fs) := by
  have hm' : T.vm.method? m = some meth := X.method'
  have hn : narrow .int (.int z) = .int z := rfl
  show Steps p.tables e below (T.setTop { method := m, pc := pc, locals := Ls, stack := _ :: rest, locked := none }) _
  jvm_step X.here [X.here.top, hx, hd, hm', hret, hn]
  first | (intro acts; rw [hl _ acts rfl rfl rfl]) | rw [hl _ _ rfl rfl rfl]
  exact Steps.refl _
end New
end Jvm.RoadKit
namespace Jvm.Pilot.@@N@@
open Jvm Jvm.ClassFile Sem Op Lib Jvm.Free Jvm.Stand Jvm.LawKit Jvm.RoadKit Bundle Jvm.Pilot.@@N@@.Jvm.D
/-- what is left of a walk: from the frame f of T the run comes to its end, where Qe holds -/
def own_Rest (p : Program) (e : Env) (below : List Frame) (Qe : Outcome → State → Prop) (T : State) (f : JFrame) : Prop :=
  ∃ s₂ o, Steps p.tables e below (T.setTop f) s₂ ∧ s₂.status = .running ∧ Ended s₂ below o ∧ Qe o s₂
abbrev own_S (p : Program) (e : Env) (below : List Frame) (T : State) (f : JFrame) (t : State) : Prop := Steps p.tables e below (T.setTop f) t
theorem own_by {p : Program} {e : Env} {below : List Frame} {Qe : Outcome → State → Prop} {T T' : State} {f f' : JFrame}
    (h : ∀ t, Steps p.tables e below (T'.setTop f') t → Steps p.tables e below (T.setTop f) t) (k : own_Rest p e below Qe T' f') : own_Rest p e below Qe T f := by
  obtain ⟨s₂, o, h1, h2⟩ := k
  exact ⟨s₂, o, h _ h1, h2⟩
theorem own_at {p : Program} {e : Env} {below : List Frame} {Qe : Outcome → State → Prop} {T : State} {f f' : JFrame}
    (h : ∀ {t}, Steps p.tables e below (T.setTop f') t → Steps p.tables e below (T.setTop f) t) (k : own_Rest p e below Qe T f') :
    ∃ s₂ o, Steps p.tables e below (T.setTop f) s₂ ∧ s₂.status = .running ∧ Ended s₂ below o ∧ Qe o s₂ := by
  obtain ⟨s₂, o, h1, h2⟩ := k
  exact ⟨s₂, o, h h1, h2⟩
theorem own_c255 (x : Int32) : ¬ (x &&& (255 : Int32)).toUInt32.toUInt16.toUInt32.toInt32 < 0 ∧ ¬ (255 : Int32) < (x &&& (255 : Int32)).toUInt32.toUInt16.toUInt32.toInt32 := by
  have h1 := c_mask x 255 8 (by decide) (by decide)
  have h2 := c_i2c (x &&& (255 : Int32))
  simp only [Int32.lt_iff_toInt_lt, Int32.reduceToInt]
  omega
theorem own_narc {z : Int32} (h : ¬ z < 0 ∧ ¬ (255 : Int32) < z) : nar .char z = z := by
  have h2 := c_i2c z
  obtain ⟨h3, h4⟩ := h
  simp only [Int32.lt_iff_toInt_lt, Int32.reduceToInt] at h3 h4
  have e : (nar .char z).toInt = z.toInt := by
    show z.toUInt32.toUInt16.toUInt32.toInt32.toInt = z.toInt
    omega
  exact Int32.toInt_inj.mp e
theorem own_nrb {z : Int32} (h : z = 0 ∨ z = 1) : narrow .boolean (.int z) = .int z := by rcases h with rfl | rfl <;> rfl
theorem own_ftb {z : Int32} (h : z = 0 ∨ z = 1) : fits .boolean (.int z) = true := by rcases h with rfl | rfl <;> rfl
theorem own_eqi {t : Term} {n : Int32} {args : Array Value} {Z : State} (h : (Jvm.Cond.eq t (.int n)).value args Z none Z [] = some true) : t.eval args Z none [] Z = some (.int n) := by
  obtain ⟨x, y, h1, h2, h3, -⟩ := cmp_v (Or.inl h)
  have e : y = .int n := (Option.some.inj h2).symm
  subst e
  cases x <;> simp [Kin, Value.isRef] at h3
  rename_i z
  have : z = n := by simpa [Cond.value, h1, Term.eval] using h
  rw [h1, this]
theorem own_fld {t : Term} {n : Int32} {args : Array Value} {Z : State} {a : Addr} {C f d : String} (ev : t.eval args Z none [] Z = some (.ref a)) (h : (Jvm.Cond.eq (.field t C f d) (.int n)).value args Z none Z [] = some true) : Fld Z Z.heap a C f d (.int n) :=
  Fld.start ((fld_at ev).symm.trans (own_eqi h))
theorem own_nb {z : Int32} (h : z = 0 ∨ z = 1) : nar .boolean z = z := by rcases h with rfl | rfl <;> rfl
abbrev own_AIIIUUUU (x0 : Int32) (x1 : Int32) (x2 : Int32) : Array Slot := #[.val (.int x0), .val (.int x1), .val (.int x2), .unset, .unset, .unset, .unset]
abbrev own_AIIIIUUU (x0 : Int32) (x1 : Int32) (x2 : Int32) (x3 : Int32) : Array Slot := #[.val (.int x0), .val (.int x1), .val (.int x2), .val (.int x3), .unset, .unset, .unset]
abbrev own_AIIIIIUU (x0 : Int32) (x1 : Int32) (x2 : Int32) (x3 : Int32) (x4 : Int32) : Array Slot := #[.val (.int x0), .val (.int x1), .val (.int x2), .val (.int x3), .val (.int x4), .unset, .unset]
abbrev own_AIIIIIRU (x0 : Int32) (x1 : Int32) (x2 : Int32) (x3 : Int32) (x4 : Int32) (x5 : Addr) : Array Slot := #[.val (.int x0), .val (.int x1), .val (.int x2), .val (.int x3), .val (.int x4), .val (.ref x5), .unset]
abbrev own_AIIIIIRI (x0 : Int32) (x1 : Int32) (x2 : Int32) (x3 : Int32) (x4 : Int32) (x5 : Addr) (x6 : Int32) : Array Slot := #[.val (.int x0), .val (.int x1), .val (.int x2), .val (.int x3), .val (.int x4), .val (.ref x5), .val (.int x6)]
def own_lo (i : Int32) : Int32 := if i = 0 then 1 else if i = 1 then 1 else if i = 2 then 1 else if i = 3 then 1 else if i = 4 then 0 else if i = 5 then 1 else if i = 6 then 1 else if i = 7 then 1 else if i = 8 then 1 else if i = 9 then 0 else if i = 10 then 0 else 0
def own_hi (i : Int32) : Int32 := if i = 0 then 1 else if i = 1 then 1 else if i = 2 then 1 else if i = 3 then 1 else if i = 4 then 0 else if i = 5 then 1 else if i = 6 then 1 else if i = 7 then 1 else if i = 8 then 1 else if i = 9 then 1 else if i = 10 then 1 else 0
theorem own_m12 (x : Int32) : ((x &&& 2147483647) % 12 = 0 ∨ (x &&& 2147483647) % 12 = 1 ∨ (x &&& 2147483647) % 12 = 2 ∨ (x &&& 2147483647) % 12 = 3 ∨ (x &&& 2147483647) % 12 = 4 ∨ (x &&& 2147483647) % 12 = 5 ∨ (x &&& 2147483647) % 12 = 6 ∨ (x &&& 2147483647) % 12 = 7 ∨ (x &&& 2147483647) % 12 = 8 ∨ (x &&& 2147483647) % 12 = 9 ∨ (x &&& 2147483647) % 12 = 10 ∨ (x &&& 2147483647) % 12 = 11) := by
  have h := c_mask x 2147483647 31 (by decide) (by decide)
  have h2 := (c_irem (x &&& 2147483647) 12 12 (by decide)).1 (by omega)
  have q : ((x &&& 2147483647) % 12).toInt = (0 : Int32).toInt ∨ ((x &&& 2147483647) % 12).toInt = (1 : Int32).toInt ∨ ((x &&& 2147483647) % 12).toInt = (2 : Int32).toInt ∨ ((x &&& 2147483647) % 12).toInt = (3 : Int32).toInt ∨ ((x &&& 2147483647) % 12).toInt = (4 : Int32).toInt ∨ ((x &&& 2147483647) % 12).toInt = (5 : Int32).toInt ∨ ((x &&& 2147483647) % 12).toInt = (6 : Int32).toInt ∨ ((x &&& 2147483647) % 12).toInt = (7 : Int32).toInt ∨ ((x &&& 2147483647) % 12).toInt = (8 : Int32).toInt ∨ ((x &&& 2147483647) % 12).toInt = (9 : Int32).toInt ∨ ((x &&& 2147483647) % 12).toInt = (10 : Int32).toInt ∨ ((x &&& 2147483647) % 12).toInt = (11 : Int32).toInt := by
    simp only [Int32.reduceToInt]; omega
  simpa only [Int32.toInt_inj] using q
theorem own_a (c : Int32) : (if c < (1 : Int32) then (0 : Int32) else if (1 : Int32) < c then (0 : Int32) else (1 : Int32)) = (if c = (1 : Int32) then (1 : Int32) else (0 : Int32)) := by
  simp only [Int32.lt_iff_toInt_lt, ← Int32.toInt_inj, Int32.reduceToInt]; repeat' split
  all_goals first | rfl | omega
theorem own_b (c : Int32) : (if c < (0 : Int32) then (0 : Int32) else if (0 : Int32) < c then (0 : Int32) else (1 : Int32)) = (if c = (0 : Int32) then (1 : Int32) else (0 : Int32)) := by
  simp only [Int32.lt_iff_toInt_lt, ← Int32.toInt_inj, Int32.reduceToInt]; repeat' split
  all_goals first | rfl | omega
theorem own_c (c : Int32) : (if c < (0 : Int32) then (0 : Int32) else if (1 : Int32) < c then (0 : Int32) else (1 : Int32)) = (if c = (0 : Int32) then (1 : Int32) else (if c = (1 : Int32) then (1 : Int32) else (0 : Int32))) := by
  simp only [Int32.lt_iff_toInt_lt, ← Int32.toInt_inj, Int32.reduceToInt]; repeat' split
  all_goals first | rfl | omega
theorem own_law (i c : Int32) (h : i = 0 ∨ i = 1 ∨ i = 2 ∨ i = 3 ∨ i = 4 ∨ i = 5 ∨ i = 6 ∨ i = 7 ∨ i = 8 ∨ i = 9 ∨ i = 10 ∨ i = 11) : (if c < own_lo i then (0 : Int32) else if own_hi i < c then (0 : Int32) else (1 : Int32)) = (if i = (4 : Int32) then (if c = (0 : Int32) then (1 : Int32) else (0 : Int32)) else (if i = (11 : Int32) then (if c = (0 : Int32) then (1 : Int32) else (0 : Int32)) else (if i = (9 : Int32) then (if c = (0 : Int32) then (1 : Int32) else (if c = (1 : Int32) then (1 : Int32) else (0 : Int32))) else (if i = (10 : Int32) then (if c = (0 : Int32) then (1 : Int32) else (if c = (1 : Int32) then (1 : Int32) else (0 : Int32))) else (if c = (1 : Int32) then (1 : Int32) else (0 : Int32)))))) := by
  rcases h with rfl | rfl | rfl | rfl | rfl | rfl | rfl | rfl | rfl | rfl | rfl | rfl
  all_goals first | (refine (own_a c).trans ?_; simp; done) | (refine (own_b c).trans ?_; simp; done) | (refine (own_c c).trans ?_; simp; done)
theorem d1_0 : decode method_3_code 0 = .ok (.iload_n 0, 1) := by decide +kernel
theorem d1_1 : decode method_3_code 1 = .ok (.ifCond .ne 7, 3) := by decide +kernel
theorem d1_4 : decode method_3_code 4 = .ok (.getstatic 20, 3) := by decide +kernel
theorem d1_7 : decode method_3_code 7 = .ok (.areturn, 1) := by decide +kernel
theorem d1_8 : decode method_3_code 8 = .ok (.iload_n 0, 1) := by decide +kernel
theorem d1_9 : decode method_3_code 9 = .ok (.iconst 1, 1) := by decide +kernel
theorem d1_10 : decode method_3_code 10 = .ok (.if_icmp .ne 7, 3) := by decide +kernel
theorem d1_13 : decode method_3_code 13 = .ok (.getstatic 24, 3) := by decide +kernel
theorem d1_16 : decode method_3_code 16 = .ok (.areturn, 1) := by decide +kernel
theorem d1_17 : decode method_3_code 17 = .ok (.iload_n 0, 1) := by decide +kernel
theorem d1_18 : decode method_3_code 18 = .ok (.iconst 2, 1) := by decide +kernel
theorem d1_19 : decode method_3_code 19 = .ok (.if_icmp .ne 7, 3) := by decide +kernel
theorem d1_22 : decode method_3_code 22 = .ok (.getstatic 27, 3) := by decide +kernel
theorem d1_25 : decode method_3_code 25 = .ok (.areturn, 1) := by decide +kernel
theorem d1_26 : decode method_3_code 26 = .ok (.iload_n 0, 1) := by decide +kernel
theorem d1_27 : decode method_3_code 27 = .ok (.iconst 3, 1) := by decide +kernel
theorem d1_28 : decode method_3_code 28 = .ok (.if_icmp .ne 7, 3) := by decide +kernel
theorem d1_31 : decode method_3_code 31 = .ok (.getstatic 30, 3) := by decide +kernel
theorem d1_34 : decode method_3_code 34 = .ok (.areturn, 1) := by decide +kernel
theorem d1_35 : decode method_3_code 35 = .ok (.iload_n 0, 1) := by decide +kernel
theorem d1_36 : decode method_3_code 36 = .ok (.iconst 4, 1) := by decide +kernel
theorem d1_37 : decode method_3_code 37 = .ok (.if_icmp .ne 7, 3) := by decide +kernel
theorem d1_40 : decode method_3_code 40 = .ok (.getstatic 33, 3) := by decide +kernel
theorem d1_43 : decode method_3_code 43 = .ok (.areturn, 1) := by decide +kernel
theorem d1_44 : decode method_3_code 44 = .ok (.iload_n 0, 1) := by decide +kernel
theorem d1_45 : decode method_3_code 45 = .ok (.iconst 5, 1) := by decide +kernel
theorem d1_46 : decode method_3_code 46 = .ok (.if_icmp .ne 7, 3) := by decide +kernel
theorem d1_49 : decode method_3_code 49 = .ok (.getstatic 36, 3) := by decide +kernel
theorem d1_52 : decode method_3_code 52 = .ok (.areturn, 1) := by decide +kernel
theorem d1_53 : decode method_3_code 53 = .ok (.iload_n 0, 1) := by decide +kernel
theorem d1_54 : decode method_3_code 54 = .ok (.bipush 6, 2) := by decide +kernel
theorem d1_56 : decode method_3_code 56 = .ok (.if_icmp .ne 7, 3) := by decide +kernel
theorem d1_59 : decode method_3_code 59 = .ok (.getstatic 39, 3) := by decide +kernel
theorem d1_62 : decode method_3_code 62 = .ok (.areturn, 1) := by decide +kernel
theorem d1_63 : decode method_3_code 63 = .ok (.iload_n 0, 1) := by decide +kernel
theorem d1_64 : decode method_3_code 64 = .ok (.bipush 7, 2) := by decide +kernel
theorem d1_66 : decode method_3_code 66 = .ok (.if_icmp .ne 7, 3) := by decide +kernel
theorem d1_69 : decode method_3_code 69 = .ok (.getstatic 42, 3) := by decide +kernel
theorem d1_72 : decode method_3_code 72 = .ok (.areturn, 1) := by decide +kernel
theorem d1_73 : decode method_3_code 73 = .ok (.iload_n 0, 1) := by decide +kernel
theorem d1_74 : decode method_3_code 74 = .ok (.bipush 8, 2) := by decide +kernel
theorem d1_76 : decode method_3_code 76 = .ok (.if_icmp .ne 7, 3) := by decide +kernel
theorem d1_79 : decode method_3_code 79 = .ok (.getstatic 45, 3) := by decide +kernel
theorem d1_82 : decode method_3_code 82 = .ok (.areturn, 1) := by decide +kernel
theorem d1_83 : decode method_3_code 83 = .ok (.iload_n 0, 1) := by decide +kernel
theorem d1_84 : decode method_3_code 84 = .ok (.bipush 9, 2) := by decide +kernel
theorem d1_86 : decode method_3_code 86 = .ok (.if_icmp .ne 7, 3) := by decide +kernel
theorem d1_89 : decode method_3_code 89 = .ok (.getstatic 48, 3) := by decide +kernel
theorem d1_92 : decode method_3_code 92 = .ok (.areturn, 1) := by decide +kernel
theorem d1_93 : decode method_3_code 93 = .ok (.iload_n 0, 1) := by decide +kernel
theorem d1_94 : decode method_3_code 94 = .ok (.bipush 10, 2) := by decide +kernel
theorem d1_96 : decode method_3_code 96 = .ok (.if_icmp .ne 7, 3) := by decide +kernel
theorem d1_99 : decode method_3_code 99 = .ok (.getstatic 51, 3) := by decide +kernel
theorem d1_102 : decode method_3_code 102 = .ok (.areturn, 1) := by decide +kernel
theorem d1_103 : decode method_3_code 103 = .ok (.getstatic 54, 3) := by decide +kernel
theorem d1_106 : decode method_3_code 106 = .ok (.areturn, 1) := by decide +kernel
theorem pn_1 : plainFor (⟨"com/example/forget_by_time/forgetbytime/cli/CommandTakesArgumentsPinLaw", "pick", "(I)Lcom/example/forget_by_time/forgetbytime/cli/Command;"⟩ : MethodName) = true := by first | exact plainFor_of_name (by first | (simp [plainName, overriddenIn]; done) | decide +kernel) | decide +kernel | exact Jvm.Free.JP.mathPlain rfl (by decide +kernel)
theorem ef_1 (m : MethodId) (p0 : Int32) : entryFrame m #[(.int p0)] 1 = mkF m 0 #[.val (.int p0)] [] := by first | (simp [entryFrame, mkF, argsToLocals, Value.category]; done) | rfl
def Q1 (Z : State) (p0 : Int32) (wSET_COLUMN : Addr) (wSET_MANAGED : Addr) (wSET_EXPRESSION : Addr) (wGET : Addr) (wLIST : Addr) (wPAUSE : Addr) (wRESUME : Addr) (wRESET : Addr) (wEXPIRY : Addr) (wSWEEP : Addr) (wSTATUS : Addr) (wRUN : Addr) (h0 : Heap) (n0 : Nat) (v : Option Value) (h : Heap) (L : List Loc) : Prop := ∃ r, v = some (.ref r) ∧ Exa Z h0 r "com/example/forget_by_time/forgetbytime/cli/Command" ∧ Fld Z h0 r "com/example/forget_by_time/forgetbytime/cli/Command" "fewestArguments" "I" (.int (own_lo p0)) ∧ Fld Z h0 r "com/example/forget_by_time/forgetbytime/cli/Command" "mostArguments" "I" (.int (own_hi p0)) ∧ Fr n0 L ∧ h = h0
set_option maxRecDepth 65536 in
set_option maxHeartbeats 40000000 in
theorem rm1 (l : Launch) (Z : State) (a0 : Array Value) (hw : ∀ d ∈ tables_1, d.before a0 Z = true) (ws : List Jvm.Cond) (p0 : Int32) (wSET_COLUMN : Addr) (wSET_MANAGED : Addr) (wSET_EXPRESSION : Addr) (wGET : Addr) (wLIST : Addr) (wPAUSE : Addr) (wRESUME : Addr) (wRESET : Addr) (wEXPIRY : Addr) (wSWEEP : Addr) (wSTATUS : Addr) (wRUN : Addr) (h0 : Heap) (n0 : Nat) (Z0 : n0 ≤ h0.size) (S_SET_COLUMN : Sta Z h0 "com/example/forget_by_time/forgetbytime/cli/Command" "SET_COLUMN" "Lcom/example/forget_by_time/forgetbytime/cli/Command;" (.ref wSET_COLUMN)) (S_SET_MANAGED : Sta Z h0 "com/example/forget_by_time/forgetbytime/cli/Command" "SET_MANAGED" "Lcom/example/forget_by_time/forgetbytime/cli/Command;" (.ref wSET_MANAGED)) (S_SET_EXPRESSION : Sta Z h0 "com/example/forget_by_time/forgetbytime/cli/Command" "SET_EXPRESSION" "Lcom/example/forget_by_time/forgetbytime/cli/Command;" (.ref wSET_EXPRESSION)) (S_GET : Sta Z h0 "com/example/forget_by_time/forgetbytime/cli/Command" "GET" "Lcom/example/forget_by_time/forgetbytime/cli/Command;" (.ref wGET)) (S_LIST : Sta Z h0 "com/example/forget_by_time/forgetbytime/cli/Command" "LIST" "Lcom/example/forget_by_time/forgetbytime/cli/Command;" (.ref wLIST)) (S_PAUSE : Sta Z h0 "com/example/forget_by_time/forgetbytime/cli/Command" "PAUSE" "Lcom/example/forget_by_time/forgetbytime/cli/Command;" (.ref wPAUSE)) (S_RESUME : Sta Z h0 "com/example/forget_by_time/forgetbytime/cli/Command" "RESUME" "Lcom/example/forget_by_time/forgetbytime/cli/Command;" (.ref wRESUME)) (S_RESET : Sta Z h0 "com/example/forget_by_time/forgetbytime/cli/Command" "RESET" "Lcom/example/forget_by_time/forgetbytime/cli/Command;" (.ref wRESET)) (S_EXPIRY : Sta Z h0 "com/example/forget_by_time/forgetbytime/cli/Command" "EXPIRY" "Lcom/example/forget_by_time/forgetbytime/cli/Command;" (.ref wEXPIRY)) (S_SWEEP : Sta Z h0 "com/example/forget_by_time/forgetbytime/cli/Command" "SWEEP" "Lcom/example/forget_by_time/forgetbytime/cli/Command;" (.ref wSWEEP)) (S_STATUS : Sta Z h0 "com/example/forget_by_time/forgetbytime/cli/Command" "STATUS" "Lcom/example/forget_by_time/forgetbytime/cli/Command;" (.ref wSTATUS)) (S_RUN : Sta Z h0 "com/example/forget_by_time/forgetbytime/cli/Command" "RUN" "Lcom/example/forget_by_time/forgetbytime/cli/Command;" (.ref wRUN)) (E_SET_COLUMN : Exa Z h0 wSET_COLUMN "com/example/forget_by_time/forgetbytime/cli/Command") (E_SET_MANAGED : Exa Z h0 wSET_MANAGED "com/example/forget_by_time/forgetbytime/cli/Command") (E_SET_EXPRESSION : Exa Z h0 wSET_EXPRESSION "com/example/forget_by_time/forgetbytime/cli/Command") (E_GET : Exa Z h0 wGET "com/example/forget_by_time/forgetbytime/cli/Command") (E_LIST : Exa Z h0 wLIST "com/example/forget_by_time/forgetbytime/cli/Command") (E_PAUSE : Exa Z h0 wPAUSE "com/example/forget_by_time/forgetbytime/cli/Command") (E_RESUME : Exa Z h0 wRESUME "com/example/forget_by_time/forgetbytime/cli/Command") (E_RESET : Exa Z h0 wRESET "com/example/forget_by_time/forgetbytime/cli/Command") (E_EXPIRY : Exa Z h0 wEXPIRY "com/example/forget_by_time/forgetbytime/cli/Command") (E_SWEEP : Exa Z h0 wSWEEP "com/example/forget_by_time/forgetbytime/cli/Command") (E_STATUS : Exa Z h0 wSTATUS "com/example/forget_by_time/forgetbytime/cli/Command") (E_RUN : Exa Z h0 wRUN "com/example/forget_by_time/forgetbytime/cli/Command") (F_SET_COLUMN : Fld Z h0 wSET_COLUMN "com/example/forget_by_time/forgetbytime/cli/Command" "fewestArguments" "I" (.int (1 : Int32))) (F_SET_MANAGED : Fld Z h0 wSET_MANAGED "com/example/forget_by_time/forgetbytime/cli/Command" "fewestArguments" "I" (.int (1 : Int32))) (F_SET_EXPRESSION : Fld Z h0 wSET_EXPRESSION "com/example/forget_by_time/forgetbytime/cli/Command" "fewestArguments" "I" (.int (1 : Int32))) (F_GET : Fld Z h0 wGET "com/example/forget_by_time/forgetbytime/cli/Command" "fewestArguments" "I" (.int (1 : Int32))) (F_LIST : Fld Z h0 wLIST "com/example/forget_by_time/forgetbytime/cli/Command" "fewestArguments" "I" (.int (0 : Int32))) (F_PAUSE : Fld Z h0 wPAUSE "com/example/forget_by_time/forgetbytime/cli/Command" "fewestArguments" "I" (.int (1 : Int32))) (F_RESUME : Fld Z h0 wRESUME "com/example/forget_by_time/forgetbytime/cli/Command" "fewestArguments" "I" (.int (1 : Int32))) (F_RESET : Fld Z h0 wRESET "com/example/forget_by_time/forgetbytime/cli/Command" "fewestArguments" "I" (.int (1 : Int32))) (F_EXPIRY : Fld Z h0 wEXPIRY "com/example/forget_by_time/forgetbytime/cli/Command" "fewestArguments" "I" (.int (1 : Int32))) (F_SWEEP : Fld Z h0 wSWEEP "com/example/forget_by_time/forgetbytime/cli/Command" "fewestArguments" "I" (.int (0 : Int32))) (F_STATUS : Fld Z h0 wSTATUS "com/example/forget_by_time/forgetbytime/cli/Command" "fewestArguments" "I" (.int (0 : Int32))) (F_RUN : Fld Z h0 wRUN "com/example/forget_by_time/forgetbytime/cli/Command" "fewestArguments" "I" (.int (0 : Int32))) (M_SET_COLUMN : Fld Z h0 wSET_COLUMN "com/example/forget_by_time/forgetbytime/cli/Command" "mostArguments" "I" (.int (1 : Int32))) (M_SET_MANAGED : Fld Z h0 wSET_MANAGED "com/example/forget_by_time/forgetbytime/cli/Command" "mostArguments" "I" (.int (1 : Int32))) (M_SET_EXPRESSION : Fld Z h0 wSET_EXPRESSION "com/example/forget_by_time/forgetbytime/cli/Command" "mostArguments" "I" (.int (1 : Int32))) (M_GET : Fld Z h0 wGET "com/example/forget_by_time/forgetbytime/cli/Command" "mostArguments" "I" (.int (1 : Int32))) (M_LIST : Fld Z h0 wLIST "com/example/forget_by_time/forgetbytime/cli/Command" "mostArguments" "I" (.int (0 : Int32))) (M_PAUSE : Fld Z h0 wPAUSE "com/example/forget_by_time/forgetbytime/cli/Command" "mostArguments" "I" (.int (1 : Int32))) (M_RESUME : Fld Z h0 wRESUME "com/example/forget_by_time/forgetbytime/cli/Command" "mostArguments" "I" (.int (1 : Int32))) (M_RESET : Fld Z h0 wRESET "com/example/forget_by_time/forgetbytime/cli/Command" "mostArguments" "I" (.int (1 : Int32))) (M_EXPIRY : Fld Z h0 wEXPIRY "com/example/forget_by_time/forgetbytime/cli/Command" "mostArguments" "I" (.int (1 : Int32))) (M_SWEEP : Fld Z h0 wSWEEP "com/example/forget_by_time/forgetbytime/cli/Command" "mostArguments" "I" (.int (1 : Int32))) (M_STATUS : Fld Z h0 wSTATUS "com/example/forget_by_time/forgetbytime/cli/Command" "mostArguments" "I" (.int (1 : Int32))) (M_RUN : Fld Z h0 wRUN "com/example/forget_by_time/forgetbytime/cli/Command" "mostArguments" "I" (.int (0 : Int32))) :
    MetFree l (⟨"com/example/forget_by_time/forgetbytime/cli/CommandTakesArgumentsPinLaw", "pick", "(I)Lcom/example/forget_by_time/forgetbytime/cli/Command;"⟩ : MethodName) (head1 (Jvm.Cond.code (⟨"com/example/forget_by_time/forgetbytime/cli/CommandTakesArgumentsPinLaw", "pick", "(I)Lcom/example/forget_by_time/forgetbytime/cli/Command;"⟩ : MethodName) method_3_code 1 (some (.object "com/example/forget_by_time/forgetbytime/cli/Command")) :: ws) ({ frames := 0, cells := 0, slots := 0, locals := 0 } : Room)) (fun a U => a = #[(.int p0)] ∧ Z.Warmed39 U.vm ∧ U.heap = h0) (fun _ _ _ _ _ => True) (fun _ U o U' => ∃ v L, o = .returned v ∧ Q1 Z p0 wSET_COLUMN wSET_MANAGED wSET_EXPRESSION wGET wLIST wPAUSE wRESUME wRESET wEXPIRY wSWEEP wSTATUS wRUN h0 n0 v U'.heap L ∧ FrameEnd U o U' L ({ frames := 0, cells := 0, slots := 0, locals := 0 } : Room).cells ({ frames := 0, cells := 0, slots := 0, locals := 0 } : Room).slots) := by
  refine MetFree.of_bodySF pn_1 hisR ?_
  intro p e s m args below meth c s₁ Bd hml0 hP hK
  obtain ⟨rfl, hZ, hh⟩ := hP
  have hx := Bd.exec
  have hby := Bd.bytes
  have hml : c.maxLocals = 1 := hml0
  have hown : s.vm.findClass "com/example/forget_by_time/forgetbytime/cli/CommandTakesArgumentsPinLaw" = some m.cls := findClass_of_methodNamed Bd.named
  have hnm := (name_of_methodNamed Bd.named Bd.method).1
  have X0 : Stand p l e ({ frames := 0, cells := 0, slots := 0, locals := 0 } : Room) s m #[(.int p0)] below meth c s₁ [] 0 0 := Stand.of_body Bd
  have e0 : s₁.heap = h0 := by rw [← hh, Bd.state]; rfl
  have N0 := Fr.nil n0
  refine own_at (castTop (ef_1 m p0)) ?_
  have sg1 : ∀ t, own_S p e below s₁ (mkF m 1 #[.val (.int p0)] [(.int p0)]) t → own_S p e below s₁ (mkF m 0 #[.val (.int p0)] []) t := by
    intro t k
    show own_S p e below s₁ (mkF m 0 #[.val (.int p0)] []) _
    refine XS.iloadN X0.here hx rfl (hb hby d1_0) rfl ?_
    exact k
  refine own_by sg1 ?_
  by_cases hc1 : p0 = (0 : Int32)
  · have sg4 : ∀ t, own_S p e below s₁ (mkF m 4 #[.val (.int p0)] []) t → own_S p e below s₁ (mkF m 1 #[.val (.int p0)] [(.int p0)]) t := by
      intro t k
      show own_S p e below s₁ (mkF m 1 #[.val (.int p0)] [(.int p0)]) _
      refine XS.ifNo X0.here hx rfl (hb hby d1_1) rfl ((if0 _ _).trans (teq hc1).2) ?_
      exact k
    refine own_by sg4 ?_
    obtain ⟨T4, X4, e4, st4⟩ := getS2 X0 hx hZ hown (host := "") (Or.inl (hw _ (List.mem_of_getElem? (i := 5) rfl))) Via.refl e0 S_SET_COLUMN (g := (mkF m 4 #[.val (.int p0)] [])) rfl (hb hby d1_4)
    refine own_by st4 ?_
    obtain ⟨fs, hr, hrun, hended, hW, hsame⟩ := X4.leave (v := some (.ref wSET_COLUMN)) (fun h => by rw [Bd.returns] at h; cases h)
    refine ⟨_, _, ?_, hrun, hended, _, _, rfl, ?_, ⟨_, rfl⟩, hW, hsame.mono (by decide) (by decide)⟩
    · show Steps p.tables e below (T4.setTop (mkF m 7 #[.val (.int p0)] [(.ref wSET_COLUMN)])) _
      jvm_step X4.here [X4.here.top, hx, (hb hby d1_7), X4.method', Bd.returns, Value.isRef, FieldType.isReference]
      first | (intro acts; rw [hr _ acts rfl rfl rfl]) | rw [hr _ _ rfl rfl rfl]
      exact Steps.refl _
    · show Q1 Z p0 wSET_COLUMN wSET_MANAGED wSET_EXPRESSION wGET wLIST wPAUSE wRESUME wRESET wEXPIRY wSWEEP wSTATUS wRUN h0 n0 _ T4.heap _
      rw [e4]
      exact ⟨_, rfl, E_SET_COLUMN, by simpa [own_lo, hc1] using F_SET_COLUMN, by simpa [own_hi, hc1] using M_SET_COLUMN, N0, rfl⟩
  · have sg10 : ∀ t, own_S p e below s₁ (mkF m 10 #[.val (.int p0)] [(.int (1 : Int32)), (.int p0)]) t → own_S p e below s₁ (mkF m 1 #[.val (.int p0)] [(.int p0)]) t := by
      intro t k
      show own_S p e below s₁ (mkF m 1 #[.val (.int p0)] [(.int p0)]) _
      refine XS.ifYes X0.here hx rfl (pc0 := 1) (pc' := 8) rfl (hb hby d1_1) rfl ((if0 _ _).trans (feq hc1).2) (by decide) (by decide) ?_
      show own_S p e below s₁ (mkF m 8 #[.val (.int p0)] []) _
      refine XS.iloadN X0.here hx rfl (hb hby d1_8) rfl ?_
      show own_S p e below s₁ (mkF m 9 #[.val (.int p0)] [(.int p0)]) _
      refine XS.iconst X0.here hx rfl (hb hby d1_9) ?_
      exact k
    refine own_by sg10 ?_
    by_cases hc10 : p0 = (1 : Int32)
    · have sg13 : ∀ t, own_S p e below s₁ (mkF m 13 #[.val (.int p0)] []) t → own_S p e below s₁ (mkF m 10 #[.val (.int p0)] [(.int (1 : Int32)), (.int p0)]) t := by
        intro t k
        show own_S p e below s₁ (mkF m 10 #[.val (.int p0)] [(.int (1 : Int32)), (.int p0)]) _
        refine XS.icmpNo X0.here hx rfl (hb hby d1_10) rfl (teq hc10).2 ?_
        exact k
      refine own_by sg13 ?_
      obtain ⟨T13, X13, e13, st13⟩ := getS2 X0 hx hZ hown (host := "") (Or.inl (hw _ (List.mem_of_getElem? (i := 17) rfl))) Via.refl e0 S_SET_MANAGED (g := (mkF m 13 #[.val (.int p0)] [])) rfl (hb hby d1_13)
      refine own_by st13 ?_
      obtain ⟨fs, hr, hrun, hended, hW, hsame⟩ := X13.leave (v := some (.ref wSET_MANAGED)) (fun h => by rw [Bd.returns] at h; cases h)
      refine ⟨_, _, ?_, hrun, hended, _, _, rfl, ?_, ⟨_, rfl⟩, hW, hsame.mono (by decide) (by decide)⟩
      · show Steps p.tables e below (T13.setTop (mkF m 16 #[.val (.int p0)] [(.ref wSET_MANAGED)])) _
        jvm_step X13.here [X13.here.top, hx, (hb hby d1_16), X13.method', Bd.returns, Value.isRef, FieldType.isReference]
        first | (intro acts; rw [hr _ acts rfl rfl rfl]) | rw [hr _ _ rfl rfl rfl]
        exact Steps.refl _
      · show Q1 Z p0 wSET_COLUMN wSET_MANAGED wSET_EXPRESSION wGET wLIST wPAUSE wRESUME wRESET wEXPIRY wSWEEP wSTATUS wRUN h0 n0 _ T13.heap _
        rw [e13]
        exact ⟨_, rfl, E_SET_MANAGED, by simpa [own_lo, hc1, hc10] using F_SET_MANAGED, by simpa [own_hi, hc1, hc10] using M_SET_MANAGED, N0, rfl⟩
    · have sg19 : ∀ t, own_S p e below s₁ (mkF m 19 #[.val (.int p0)] [(.int (2 : Int32)), (.int p0)]) t → own_S p e below s₁ (mkF m 10 #[.val (.int p0)] [(.int (1 : Int32)), (.int p0)]) t := by
        intro t k
        show own_S p e below s₁ (mkF m 10 #[.val (.int p0)] [(.int (1 : Int32)), (.int p0)]) _
        refine XS.icmpYes X0.here hx rfl (pc0 := 10) (pc' := 17) rfl (hb hby d1_10) rfl (feq hc10).2 (by decide) (by decide) ?_
        show own_S p e below s₁ (mkF m 17 #[.val (.int p0)] []) _
        refine XS.iloadN X0.here hx rfl (hb hby d1_17) rfl ?_
        show own_S p e below s₁ (mkF m 18 #[.val (.int p0)] [(.int p0)]) _
        refine XS.iconst X0.here hx rfl (hb hby d1_18) ?_
        exact k
      refine own_by sg19 ?_
      by_cases hc19 : p0 = (2 : Int32)
      · have sg22 : ∀ t, own_S p e below s₁ (mkF m 22 #[.val (.int p0)] []) t → own_S p e below s₁ (mkF m 19 #[.val (.int p0)] [(.int (2 : Int32)), (.int p0)]) t := by
          intro t k
          show own_S p e below s₁ (mkF m 19 #[.val (.int p0)] [(.int (2 : Int32)), (.int p0)]) _
          refine XS.icmpNo X0.here hx rfl (hb hby d1_19) rfl (teq hc19).2 ?_
          exact k
        refine own_by sg22 ?_
        obtain ⟨T22, X22, e22, st22⟩ := getS2 X0 hx hZ hown (host := "") (Or.inl (hw _ (List.mem_of_getElem? (i := 35) rfl))) Via.refl e0 S_SET_EXPRESSION (g := (mkF m 22 #[.val (.int p0)] [])) rfl (hb hby d1_22)
        refine own_by st22 ?_
        obtain ⟨fs, hr, hrun, hended, hW, hsame⟩ := X22.leave (v := some (.ref wSET_EXPRESSION)) (fun h => by rw [Bd.returns] at h; cases h)
        refine ⟨_, _, ?_, hrun, hended, _, _, rfl, ?_, ⟨_, rfl⟩, hW, hsame.mono (by decide) (by decide)⟩
        · show Steps p.tables e below (T22.setTop (mkF m 25 #[.val (.int p0)] [(.ref wSET_EXPRESSION)])) _
          jvm_step X22.here [X22.here.top, hx, (hb hby d1_25), X22.method', Bd.returns, Value.isRef, FieldType.isReference]
          first | (intro acts; rw [hr _ acts rfl rfl rfl]) | rw [hr _ _ rfl rfl rfl]
          exact Steps.refl _
        · show Q1 Z p0 wSET_COLUMN wSET_MANAGED wSET_EXPRESSION wGET wLIST wPAUSE wRESUME wRESET wEXPIRY wSWEEP wSTATUS wRUN h0 n0 _ T22.heap _
          rw [e22]
          exact ⟨_, rfl, E_SET_EXPRESSION, by simpa [own_lo, hc1, hc10, hc19] using F_SET_EXPRESSION, by simpa [own_hi, hc1, hc10, hc19] using M_SET_EXPRESSION, N0, rfl⟩
      · have sg28 : ∀ t, own_S p e below s₁ (mkF m 28 #[.val (.int p0)] [(.int (3 : Int32)), (.int p0)]) t → own_S p e below s₁ (mkF m 19 #[.val (.int p0)] [(.int (2 : Int32)), (.int p0)]) t := by
          intro t k
          show own_S p e below s₁ (mkF m 19 #[.val (.int p0)] [(.int (2 : Int32)), (.int p0)]) _
          refine XS.icmpYes X0.here hx rfl (pc0 := 19) (pc' := 26) rfl (hb hby d1_19) rfl (feq hc19).2 (by decide) (by decide) ?_
          show own_S p e below s₁ (mkF m 26 #[.val (.int p0)] []) _
          refine XS.iloadN X0.here hx rfl (hb hby d1_26) rfl ?_
          show own_S p e below s₁ (mkF m 27 #[.val (.int p0)] [(.int p0)]) _
          refine XS.iconst X0.here hx rfl (hb hby d1_27) ?_
          exact k
        refine own_by sg28 ?_
        by_cases hc28 : p0 = (3 : Int32)
        · have sg31 : ∀ t, own_S p e below s₁ (mkF m 31 #[.val (.int p0)] []) t → own_S p e below s₁ (mkF m 28 #[.val (.int p0)] [(.int (3 : Int32)), (.int p0)]) t := by
            intro t k
            show own_S p e below s₁ (mkF m 28 #[.val (.int p0)] [(.int (3 : Int32)), (.int p0)]) _
            refine XS.icmpNo X0.here hx rfl (hb hby d1_28) rfl (teq hc28).2 ?_
            exact k
          refine own_by sg31 ?_
          obtain ⟨T31, X31, e31, st31⟩ := getS2 X0 hx hZ hown (host := "") (Or.inl (hw _ (List.mem_of_getElem? (i := 27) rfl))) Via.refl e0 S_GET (g := (mkF m 31 #[.val (.int p0)] [])) rfl (hb hby d1_31)
          refine own_by st31 ?_
          obtain ⟨fs, hr, hrun, hended, hW, hsame⟩ := X31.leave (v := some (.ref wGET)) (fun h => by rw [Bd.returns] at h; cases h)
          refine ⟨_, _, ?_, hrun, hended, _, _, rfl, ?_, ⟨_, rfl⟩, hW, hsame.mono (by decide) (by decide)⟩
          · show Steps p.tables e below (T31.setTop (mkF m 34 #[.val (.int p0)] [(.ref wGET)])) _
            jvm_step X31.here [X31.here.top, hx, (hb hby d1_34), X31.method', Bd.returns, Value.isRef, FieldType.isReference]
            first | (intro acts; rw [hr _ acts rfl rfl rfl]) | rw [hr _ _ rfl rfl rfl]
            exact Steps.refl _
          · show Q1 Z p0 wSET_COLUMN wSET_MANAGED wSET_EXPRESSION wGET wLIST wPAUSE wRESUME wRESET wEXPIRY wSWEEP wSTATUS wRUN h0 n0 _ T31.heap _
            rw [e31]
            exact ⟨_, rfl, E_GET, by simpa [own_lo, hc1, hc10, hc19, hc28] using F_GET, by simpa [own_hi, hc1, hc10, hc19, hc28] using M_GET, N0, rfl⟩
        · have sg37 : ∀ t, own_S p e below s₁ (mkF m 37 #[.val (.int p0)] [(.int (4 : Int32)), (.int p0)]) t → own_S p e below s₁ (mkF m 28 #[.val (.int p0)] [(.int (3 : Int32)), (.int p0)]) t := by
            intro t k
            show own_S p e below s₁ (mkF m 28 #[.val (.int p0)] [(.int (3 : Int32)), (.int p0)]) _
            refine XS.icmpYes X0.here hx rfl (pc0 := 28) (pc' := 35) rfl (hb hby d1_28) rfl (feq hc28).2 (by decide) (by decide) ?_
            show own_S p e below s₁ (mkF m 35 #[.val (.int p0)] []) _
            refine XS.iloadN X0.here hx rfl (hb hby d1_35) rfl ?_
            show own_S p e below s₁ (mkF m 36 #[.val (.int p0)] [(.int p0)]) _
            refine XS.iconst X0.here hx rfl (hb hby d1_36) ?_
            exact k
          refine own_by sg37 ?_
          by_cases hc37 : p0 = (4 : Int32)
          · have sg40 : ∀ t, own_S p e below s₁ (mkF m 40 #[.val (.int p0)] []) t → own_S p e below s₁ (mkF m 37 #[.val (.int p0)] [(.int (4 : Int32)), (.int p0)]) t := by
              intro t k
              show own_S p e below s₁ (mkF m 37 #[.val (.int p0)] [(.int (4 : Int32)), (.int p0)]) _
              refine XS.icmpNo X0.here hx rfl (hb hby d1_37) rfl (teq hc37).2 ?_
              exact k
            refine own_by sg40 ?_
            obtain ⟨T40, X40, e40, st40⟩ := getS2 X0 hx hZ hown (host := "") (Or.inl (hw _ (List.mem_of_getElem? (i := 31) rfl))) Via.refl e0 S_LIST (g := (mkF m 40 #[.val (.int p0)] [])) rfl (hb hby d1_40)
            refine own_by st40 ?_
            obtain ⟨fs, hr, hrun, hended, hW, hsame⟩ := X40.leave (v := some (.ref wLIST)) (fun h => by rw [Bd.returns] at h; cases h)
            refine ⟨_, _, ?_, hrun, hended, _, _, rfl, ?_, ⟨_, rfl⟩, hW, hsame.mono (by decide) (by decide)⟩
            · show Steps p.tables e below (T40.setTop (mkF m 43 #[.val (.int p0)] [(.ref wLIST)])) _
              jvm_step X40.here [X40.here.top, hx, (hb hby d1_43), X40.method', Bd.returns, Value.isRef, FieldType.isReference]
              first | (intro acts; rw [hr _ acts rfl rfl rfl]) | rw [hr _ _ rfl rfl rfl]
              exact Steps.refl _
            · show Q1 Z p0 wSET_COLUMN wSET_MANAGED wSET_EXPRESSION wGET wLIST wPAUSE wRESUME wRESET wEXPIRY wSWEEP wSTATUS wRUN h0 n0 _ T40.heap _
              rw [e40]
              exact ⟨_, rfl, E_LIST, by simpa [own_lo, hc1, hc10, hc19, hc28, hc37] using F_LIST, by simpa [own_hi, hc1, hc10, hc19, hc28, hc37] using M_LIST, N0, rfl⟩
          · have sg46 : ∀ t, own_S p e below s₁ (mkF m 46 #[.val (.int p0)] [(.int (5 : Int32)), (.int p0)]) t → own_S p e below s₁ (mkF m 37 #[.val (.int p0)] [(.int (4 : Int32)), (.int p0)]) t := by
              intro t k
              show own_S p e below s₁ (mkF m 37 #[.val (.int p0)] [(.int (4 : Int32)), (.int p0)]) _
              refine XS.icmpYes X0.here hx rfl (pc0 := 37) (pc' := 44) rfl (hb hby d1_37) rfl (feq hc37).2 (by decide) (by decide) ?_
              show own_S p e below s₁ (mkF m 44 #[.val (.int p0)] []) _
              refine XS.iloadN X0.here hx rfl (hb hby d1_44) rfl ?_
              show own_S p e below s₁ (mkF m 45 #[.val (.int p0)] [(.int p0)]) _
              refine XS.iconst X0.here hx rfl (hb hby d1_45) ?_
              exact k
            refine own_by sg46 ?_
            by_cases hc46 : p0 = (5 : Int32)
            · have sg49 : ∀ t, own_S p e below s₁ (mkF m 49 #[.val (.int p0)] []) t → own_S p e below s₁ (mkF m 46 #[.val (.int p0)] [(.int (5 : Int32)), (.int p0)]) t := by
                intro t k
                show own_S p e below s₁ (mkF m 46 #[.val (.int p0)] [(.int (5 : Int32)), (.int p0)]) _
                refine XS.icmpNo X0.here hx rfl (hb hby d1_46) rfl (teq hc46).2 ?_
                exact k
              refine own_by sg49 ?_
              obtain ⟨T49, X49, e49, st49⟩ := getS2 X0 hx hZ hown (host := "") (Or.inl (hw _ (List.mem_of_getElem? (i := 33) rfl))) Via.refl e0 S_PAUSE (g := (mkF m 49 #[.val (.int p0)] [])) rfl (hb hby d1_49)
              refine own_by st49 ?_
              obtain ⟨fs, hr, hrun, hended, hW, hsame⟩ := X49.leave (v := some (.ref wPAUSE)) (fun h => by rw [Bd.returns] at h; cases h)
              refine ⟨_, _, ?_, hrun, hended, _, _, rfl, ?_, ⟨_, rfl⟩, hW, hsame.mono (by decide) (by decide)⟩
              · show Steps p.tables e below (T49.setTop (mkF m 52 #[.val (.int p0)] [(.ref wPAUSE)])) _
                jvm_step X49.here [X49.here.top, hx, (hb hby d1_52), X49.method', Bd.returns, Value.isRef, FieldType.isReference]
                first | (intro acts; rw [hr _ acts rfl rfl rfl]) | rw [hr _ _ rfl rfl rfl]
                exact Steps.refl _
              · show Q1 Z p0 wSET_COLUMN wSET_MANAGED wSET_EXPRESSION wGET wLIST wPAUSE wRESUME wRESET wEXPIRY wSWEEP wSTATUS wRUN h0 n0 _ T49.heap _
                rw [e49]
                exact ⟨_, rfl, E_PAUSE, by simpa [own_lo, hc1, hc10, hc19, hc28, hc37, hc46] using F_PAUSE, by simpa [own_hi, hc1, hc10, hc19, hc28, hc37, hc46] using M_PAUSE, N0, rfl⟩
            · have sg56 : ∀ t, own_S p e below s₁ (mkF m 56 #[.val (.int p0)] [(.int (6 : Int32)), (.int p0)]) t → own_S p e below s₁ (mkF m 46 #[.val (.int p0)] [(.int (5 : Int32)), (.int p0)]) t := by
                intro t k
                show own_S p e below s₁ (mkF m 46 #[.val (.int p0)] [(.int (5 : Int32)), (.int p0)]) _
                refine XS.icmpYes X0.here hx rfl (pc0 := 46) (pc' := 53) rfl (hb hby d1_46) rfl (feq hc46).2 (by decide) (by decide) ?_
                show own_S p e below s₁ (mkF m 53 #[.val (.int p0)] []) _
                refine XS.iloadN X0.here hx rfl (hb hby d1_53) rfl ?_
                show own_S p e below s₁ (mkF m 54 #[.val (.int p0)] [(.int p0)]) _
                refine XS.bipush X0.here hx rfl (hb hby d1_54) ?_
                exact k
              refine own_by sg56 ?_
              by_cases hc56 : p0 = (6 : Int32)
              · have sg59 : ∀ t, own_S p e below s₁ (mkF m 59 #[.val (.int p0)] []) t → own_S p e below s₁ (mkF m 56 #[.val (.int p0)] [(.int (6 : Int32)), (.int p0)]) t := by
                  intro t k
                  show own_S p e below s₁ (mkF m 56 #[.val (.int p0)] [(.int (6 : Int32)), (.int p0)]) _
                  refine XS.icmpNo X0.here hx rfl (hb hby d1_56) rfl (teq hc56).2 ?_
                  exact k
                refine own_by sg59 ?_
                obtain ⟨T59, X59, e59, st59⟩ := getS2 X0 hx hZ hown (host := "") (Or.inl (hw _ (List.mem_of_getElem? (i := 23) rfl))) Via.refl e0 S_RESUME (g := (mkF m 59 #[.val (.int p0)] [])) rfl (hb hby d1_59)
                refine own_by st59 ?_
                obtain ⟨fs, hr, hrun, hended, hW, hsame⟩ := X59.leave (v := some (.ref wRESUME)) (fun h => by rw [Bd.returns] at h; cases h)
                refine ⟨_, _, ?_, hrun, hended, _, _, rfl, ?_, ⟨_, rfl⟩, hW, hsame.mono (by decide) (by decide)⟩
                · show Steps p.tables e below (T59.setTop (mkF m 62 #[.val (.int p0)] [(.ref wRESUME)])) _
                  jvm_step X59.here [X59.here.top, hx, (hb hby d1_62), X59.method', Bd.returns, Value.isRef, FieldType.isReference]
                  first | (intro acts; rw [hr _ acts rfl rfl rfl]) | rw [hr _ _ rfl rfl rfl]
                  exact Steps.refl _
                · show Q1 Z p0 wSET_COLUMN wSET_MANAGED wSET_EXPRESSION wGET wLIST wPAUSE wRESUME wRESET wEXPIRY wSWEEP wSTATUS wRUN h0 n0 _ T59.heap _
                  rw [e59]
                  exact ⟨_, rfl, E_RESUME, by simpa [own_lo, hc1, hc10, hc19, hc28, hc37, hc46, hc56] using F_RESUME, by simpa [own_hi, hc1, hc10, hc19, hc28, hc37, hc46, hc56] using M_RESUME, N0, rfl⟩
              · have sg66 : ∀ t, own_S p e below s₁ (mkF m 66 #[.val (.int p0)] [(.int (7 : Int32)), (.int p0)]) t → own_S p e below s₁ (mkF m 56 #[.val (.int p0)] [(.int (6 : Int32)), (.int p0)]) t := by
                  intro t k
                  show own_S p e below s₁ (mkF m 56 #[.val (.int p0)] [(.int (6 : Int32)), (.int p0)]) _
                  refine XS.icmpYes X0.here hx rfl (pc0 := 56) (pc' := 63) rfl (hb hby d1_56) rfl (feq hc56).2 (by decide) (by decide) ?_
                  show own_S p e below s₁ (mkF m 63 #[.val (.int p0)] []) _
                  refine XS.iloadN X0.here hx rfl (hb hby d1_63) rfl ?_
                  show own_S p e below s₁ (mkF m 64 #[.val (.int p0)] [(.int p0)]) _
                  refine XS.bipush X0.here hx rfl (hb hby d1_64) ?_
                  exact k
                refine own_by sg66 ?_
                by_cases hc66 : p0 = (7 : Int32)
                · have sg69 : ∀ t, own_S p e below s₁ (mkF m 69 #[.val (.int p0)] []) t → own_S p e below s₁ (mkF m 66 #[.val (.int p0)] [(.int (7 : Int32)), (.int p0)]) t := by
                    intro t k
                    show own_S p e below s₁ (mkF m 66 #[.val (.int p0)] [(.int (7 : Int32)), (.int p0)]) _
                    refine XS.icmpNo X0.here hx rfl (hb hby d1_66) rfl (teq hc66).2 ?_
                    exact k
                  refine own_by sg69 ?_
                  obtain ⟨T69, X69, e69, st69⟩ := getS2 X0 hx hZ hown (host := "") (Or.inl (hw _ (List.mem_of_getElem? (i := 25) rfl))) Via.refl e0 S_RESET (g := (mkF m 69 #[.val (.int p0)] [])) rfl (hb hby d1_69)
                  refine own_by st69 ?_
                  obtain ⟨fs, hr, hrun, hended, hW, hsame⟩ := X69.leave (v := some (.ref wRESET)) (fun h => by rw [Bd.returns] at h; cases h)
                  refine ⟨_, _, ?_, hrun, hended, _, _, rfl, ?_, ⟨_, rfl⟩, hW, hsame.mono (by decide) (by decide)⟩
                  · show Steps p.tables e below (T69.setTop (mkF m 72 #[.val (.int p0)] [(.ref wRESET)])) _
                    jvm_step X69.here [X69.here.top, hx, (hb hby d1_72), X69.method', Bd.returns, Value.isRef, FieldType.isReference]
                    first | (intro acts; rw [hr _ acts rfl rfl rfl]) | rw [hr _ _ rfl rfl rfl]
                    exact Steps.refl _
                  · show Q1 Z p0 wSET_COLUMN wSET_MANAGED wSET_EXPRESSION wGET wLIST wPAUSE wRESUME wRESET wEXPIRY wSWEEP wSTATUS wRUN h0 n0 _ T69.heap _
                    rw [e69]
                    exact ⟨_, rfl, E_RESET, by simpa [own_lo, hc1, hc10, hc19, hc28, hc37, hc46, hc56, hc66] using F_RESET, by simpa [own_hi, hc1, hc10, hc19, hc28, hc37, hc46, hc56, hc66] using M_RESET, N0, rfl⟩
                · have sg76 : ∀ t, own_S p e below s₁ (mkF m 76 #[.val (.int p0)] [(.int (8 : Int32)), (.int p0)]) t → own_S p e below s₁ (mkF m 66 #[.val (.int p0)] [(.int (7 : Int32)), (.int p0)]) t := by
                    intro t k
                    show own_S p e below s₁ (mkF m 66 #[.val (.int p0)] [(.int (7 : Int32)), (.int p0)]) _
                    refine XS.icmpYes X0.here hx rfl (pc0 := 66) (pc' := 73) rfl (hb hby d1_66) rfl (feq hc66).2 (by decide) (by decide) ?_
                    show own_S p e below s₁ (mkF m 73 #[.val (.int p0)] []) _
                    refine XS.iloadN X0.here hx rfl (hb hby d1_73) rfl ?_
                    show own_S p e below s₁ (mkF m 74 #[.val (.int p0)] [(.int p0)]) _
                    refine XS.bipush X0.here hx rfl (hb hby d1_74) ?_
                    exact k
                  refine own_by sg76 ?_
                  by_cases hc76 : p0 = (8 : Int32)
                  · have sg79 : ∀ t, own_S p e below s₁ (mkF m 79 #[.val (.int p0)] []) t → own_S p e below s₁ (mkF m 76 #[.val (.int p0)] [(.int (8 : Int32)), (.int p0)]) t := by
                      intro t k
                      show own_S p e below s₁ (mkF m 76 #[.val (.int p0)] [(.int (8 : Int32)), (.int p0)]) _
                      refine XS.icmpNo X0.here hx rfl (hb hby d1_76) rfl (teq hc76).2 ?_
                      exact k
                    refine own_by sg79 ?_
                    obtain ⟨T79, X79, e79, st79⟩ := getS2 X0 hx hZ hown (host := "") (Or.inl (hw _ (List.mem_of_getElem? (i := 19) rfl))) Via.refl e0 S_EXPIRY (g := (mkF m 79 #[.val (.int p0)] [])) rfl (hb hby d1_79)
                    refine own_by st79 ?_
                    obtain ⟨fs, hr, hrun, hended, hW, hsame⟩ := X79.leave (v := some (.ref wEXPIRY)) (fun h => by rw [Bd.returns] at h; cases h)
                    refine ⟨_, _, ?_, hrun, hended, _, _, rfl, ?_, ⟨_, rfl⟩, hW, hsame.mono (by decide) (by decide)⟩
                    · show Steps p.tables e below (T79.setTop (mkF m 82 #[.val (.int p0)] [(.ref wEXPIRY)])) _
                      jvm_step X79.here [X79.here.top, hx, (hb hby d1_82), X79.method', Bd.returns, Value.isRef, FieldType.isReference]
                      first | (intro acts; rw [hr _ acts rfl rfl rfl]) | rw [hr _ _ rfl rfl rfl]
                      exact Steps.refl _
                    · show Q1 Z p0 wSET_COLUMN wSET_MANAGED wSET_EXPRESSION wGET wLIST wPAUSE wRESUME wRESET wEXPIRY wSWEEP wSTATUS wRUN h0 n0 _ T79.heap _
                      rw [e79]
                      exact ⟨_, rfl, E_EXPIRY, by simpa [own_lo, hc1, hc10, hc19, hc28, hc37, hc46, hc56, hc66, hc76] using F_EXPIRY, by simpa [own_hi, hc1, hc10, hc19, hc28, hc37, hc46, hc56, hc66, hc76] using M_EXPIRY, N0, rfl⟩
                  · have sg86 : ∀ t, own_S p e below s₁ (mkF m 86 #[.val (.int p0)] [(.int (9 : Int32)), (.int p0)]) t → own_S p e below s₁ (mkF m 76 #[.val (.int p0)] [(.int (8 : Int32)), (.int p0)]) t := by
                      intro t k
                      show own_S p e below s₁ (mkF m 76 #[.val (.int p0)] [(.int (8 : Int32)), (.int p0)]) _
                      refine XS.icmpYes X0.here hx rfl (pc0 := 76) (pc' := 83) rfl (hb hby d1_76) rfl (feq hc76).2 (by decide) (by decide) ?_
                      show own_S p e below s₁ (mkF m 83 #[.val (.int p0)] []) _
                      refine XS.iloadN X0.here hx rfl (hb hby d1_83) rfl ?_
                      show own_S p e below s₁ (mkF m 84 #[.val (.int p0)] [(.int p0)]) _
                      refine XS.bipush X0.here hx rfl (hb hby d1_84) ?_
                      exact k
                    refine own_by sg86 ?_
                    by_cases hc86 : p0 = (9 : Int32)
                    · have sg89 : ∀ t, own_S p e below s₁ (mkF m 89 #[.val (.int p0)] []) t → own_S p e below s₁ (mkF m 86 #[.val (.int p0)] [(.int (9 : Int32)), (.int p0)]) t := by
                        intro t k
                        show own_S p e below s₁ (mkF m 86 #[.val (.int p0)] [(.int (9 : Int32)), (.int p0)]) _
                        refine XS.icmpNo X0.here hx rfl (hb hby d1_86) rfl (teq hc86).2 ?_
                        exact k
                      refine own_by sg89 ?_
                      obtain ⟨T89, X89, e89, st89⟩ := getS2 X0 hx hZ hown (host := "") (Or.inl (hw _ (List.mem_of_getElem? (i := 37) rfl))) Via.refl e0 S_SWEEP (g := (mkF m 89 #[.val (.int p0)] [])) rfl (hb hby d1_89)
                      refine own_by st89 ?_
                      obtain ⟨fs, hr, hrun, hended, hW, hsame⟩ := X89.leave (v := some (.ref wSWEEP)) (fun h => by rw [Bd.returns] at h; cases h)
                      refine ⟨_, _, ?_, hrun, hended, _, _, rfl, ?_, ⟨_, rfl⟩, hW, hsame.mono (by decide) (by decide)⟩
                      · show Steps p.tables e below (T89.setTop (mkF m 92 #[.val (.int p0)] [(.ref wSWEEP)])) _
                        jvm_step X89.here [X89.here.top, hx, (hb hby d1_92), X89.method', Bd.returns, Value.isRef, FieldType.isReference]
                        first | (intro acts; rw [hr _ acts rfl rfl rfl]) | rw [hr _ _ rfl rfl rfl]
                        exact Steps.refl _
                      · show Q1 Z p0 wSET_COLUMN wSET_MANAGED wSET_EXPRESSION wGET wLIST wPAUSE wRESUME wRESET wEXPIRY wSWEEP wSTATUS wRUN h0 n0 _ T89.heap _
                        rw [e89]
                        exact ⟨_, rfl, E_SWEEP, by simpa [own_lo, hc1, hc10, hc19, hc28, hc37, hc46, hc56, hc66, hc76, hc86] using F_SWEEP, by simpa [own_hi, hc1, hc10, hc19, hc28, hc37, hc46, hc56, hc66, hc76, hc86] using M_SWEEP, N0, rfl⟩
                    · have sg96 : ∀ t, own_S p e below s₁ (mkF m 96 #[.val (.int p0)] [(.int (10 : Int32)), (.int p0)]) t → own_S p e below s₁ (mkF m 86 #[.val (.int p0)] [(.int (9 : Int32)), (.int p0)]) t := by
                        intro t k
                        show own_S p e below s₁ (mkF m 86 #[.val (.int p0)] [(.int (9 : Int32)), (.int p0)]) _
                        refine XS.icmpYes X0.here hx rfl (pc0 := 86) (pc' := 93) rfl (hb hby d1_86) rfl (feq hc86).2 (by decide) (by decide) ?_
                        show own_S p e below s₁ (mkF m 93 #[.val (.int p0)] []) _
                        refine XS.iloadN X0.here hx rfl (hb hby d1_93) rfl ?_
                        show own_S p e below s₁ (mkF m 94 #[.val (.int p0)] [(.int p0)]) _
                        refine XS.bipush X0.here hx rfl (hb hby d1_94) ?_
                        exact k
                      refine own_by sg96 ?_
                      by_cases hc96 : p0 = (10 : Int32)
                      · have sg99 : ∀ t, own_S p e below s₁ (mkF m 99 #[.val (.int p0)] []) t → own_S p e below s₁ (mkF m 96 #[.val (.int p0)] [(.int (10 : Int32)), (.int p0)]) t := by
                          intro t k
                          show own_S p e below s₁ (mkF m 96 #[.val (.int p0)] [(.int (10 : Int32)), (.int p0)]) _
                          refine XS.icmpNo X0.here hx rfl (hb hby d1_96) rfl (teq hc96).2 ?_
                          exact k
                        refine own_by sg99 ?_
                        obtain ⟨T99, X99, e99, st99⟩ := getS2 X0 hx hZ hown (host := "") (Or.inl (hw _ (List.mem_of_getElem? (i := 29) rfl))) Via.refl e0 S_STATUS (g := (mkF m 99 #[.val (.int p0)] [])) rfl (hb hby d1_99)
                        refine own_by st99 ?_
                        obtain ⟨fs, hr, hrun, hended, hW, hsame⟩ := X99.leave (v := some (.ref wSTATUS)) (fun h => by rw [Bd.returns] at h; cases h)
                        refine ⟨_, _, ?_, hrun, hended, _, _, rfl, ?_, ⟨_, rfl⟩, hW, hsame.mono (by decide) (by decide)⟩
                        · show Steps p.tables e below (T99.setTop (mkF m 102 #[.val (.int p0)] [(.ref wSTATUS)])) _
                          jvm_step X99.here [X99.here.top, hx, (hb hby d1_102), X99.method', Bd.returns, Value.isRef, FieldType.isReference]
                          first | (intro acts; rw [hr _ acts rfl rfl rfl]) | rw [hr _ _ rfl rfl rfl]
                          exact Steps.refl _
                        · show Q1 Z p0 wSET_COLUMN wSET_MANAGED wSET_EXPRESSION wGET wLIST wPAUSE wRESUME wRESET wEXPIRY wSWEEP wSTATUS wRUN h0 n0 _ T99.heap _
                          rw [e99]
                          exact ⟨_, rfl, E_STATUS, by simpa [own_lo, hc1, hc10, hc19, hc28, hc37, hc46, hc56, hc66, hc76, hc86, hc96] using F_STATUS, by simpa [own_hi, hc1, hc10, hc19, hc28, hc37, hc46, hc56, hc66, hc76, hc86, hc96] using M_STATUS, N0, rfl⟩
                      · have sg103 : ∀ t, own_S p e below s₁ (mkF m 103 #[.val (.int p0)] []) t → own_S p e below s₁ (mkF m 96 #[.val (.int p0)] [(.int (10 : Int32)), (.int p0)]) t := by
                          intro t k
                          show own_S p e below s₁ (mkF m 96 #[.val (.int p0)] [(.int (10 : Int32)), (.int p0)]) _
                          refine XS.icmpYes X0.here hx rfl (pc0 := 96) (pc' := 103) rfl (hb hby d1_96) rfl (feq hc96).2 (by decide) (by decide) ?_
                          exact k
                        refine own_by sg103 ?_
                        obtain ⟨T103, X103, e103, st103⟩ := getS2 X0 hx hZ hown (host := "") (Or.inl (hw _ (List.mem_of_getElem? (i := 21) rfl))) Via.refl e0 S_RUN (g := (mkF m 103 #[.val (.int p0)] [])) rfl (hb hby d1_103)
                        refine own_by st103 ?_
                        obtain ⟨fs, hr, hrun, hended, hW, hsame⟩ := X103.leave (v := some (.ref wRUN)) (fun h => by rw [Bd.returns] at h; cases h)
                        refine ⟨_, _, ?_, hrun, hended, _, _, rfl, ?_, ⟨_, rfl⟩, hW, hsame.mono (by decide) (by decide)⟩
                        · show Steps p.tables e below (T103.setTop (mkF m 106 #[.val (.int p0)] [(.ref wRUN)])) _
                          jvm_step X103.here [X103.here.top, hx, (hb hby d1_106), X103.method', Bd.returns, Value.isRef, FieldType.isReference]
                          first | (intro acts; rw [hr _ acts rfl rfl rfl]) | rw [hr _ _ rfl rfl rfl]
                          exact Steps.refl _
                        · show Q1 Z p0 wSET_COLUMN wSET_MANAGED wSET_EXPRESSION wGET wLIST wPAUSE wRESUME wRESET wEXPIRY wSWEEP wSTATUS wRUN h0 n0 _ T103.heap _
                          rw [e103]
                          exact ⟨_, rfl, E_RUN, by simpa [own_lo, hc1, hc10, hc19, hc28, hc37, hc46, hc56, hc66, hc76, hc86, hc96] using F_RUN, by simpa [own_hi, hc1, hc10, hc19, hc28, hc37, hc46, hc56, hc66, hc76, hc86, hc96] using M_RUN, N0, rfl⟩
theorem d2_0 : decode prog_1_method_10_code 0 = .ok (.iload_n 1, 1) := by decide +kernel
theorem d2_1 : decode prog_1_method_10_code 1 = .ok (.aload_n 0, 1) := by decide +kernel
theorem d2_2 : decode prog_1_method_10_code 2 = .ok (.getfield 66, 3) := by decide +kernel
theorem d2_5 : decode prog_1_method_10_code 5 = .ok (.if_icmp .lt 15, 3) := by decide +kernel
theorem d2_8 : decode prog_1_method_10_code 8 = .ok (.iload_n 1, 1) := by decide +kernel
theorem d2_9 : decode prog_1_method_10_code 9 = .ok (.aload_n 0, 1) := by decide +kernel
theorem d2_10 : decode prog_1_method_10_code 10 = .ok (.getfield 70, 3) := by decide +kernel
theorem d2_13 : decode prog_1_method_10_code 13 = .ok (.if_icmp .gt 7, 3) := by decide +kernel
theorem d2_16 : decode prog_1_method_10_code 16 = .ok (.iconst 1, 1) := by decide +kernel
theorem d2_17 : decode prog_1_method_10_code 17 = .ok (.goto 4, 3) := by decide +kernel
theorem d2_20 : decode prog_1_method_10_code 20 = .ok (.iconst 0, 1) := by decide +kernel
theorem d2_21 : decode prog_1_method_10_code 21 = .ok (.ireturn, 1) := by decide +kernel
theorem pn_2 : plainFor (⟨"com/example/forget_by_time/forgetbytime/cli/Command", "takesArguments", "(I)Z"⟩ : MethodName) = true := by first | exact plainFor_of_name (by first | (simp [plainName, overriddenIn]; done) | decide +kernel) | decide +kernel | exact Jvm.Free.JP.mathPlain rfl (by decide +kernel)
theorem ef_2 (m : MethodId) (a1 : Addr) (p2 : Int32) : entryFrame m #[(.ref a1), (.int p2)] 2 = mkF m 0 #[.val (.ref a1), .val (.int p2)] [] := by first | (simp [entryFrame, mkF, argsToLocals, Value.category]; done) | rfl
def Q2 (Z : State) (a1 : Addr) (p2 : Int32) (lo : Int32) (hi : Int32) (h0 : Heap) (n0 : Nat) (v : Option Value) (h : Heap) (L : List Loc) : Prop := v = some (.int (if p2 < lo then (0 : Int32) else if hi < p2 then (0 : Int32) else (1 : Int32))) ∧ Fr n0 L ∧ h = h0
set_option maxRecDepth 65536 in
set_option maxHeartbeats 40000000 in
theorem rm2 (l : Launch) (Z : State) (a0 : Array Value) (hw : ∀ d ∈ tables_1, d.before a0 Z = true) (ws : List Jvm.Cond) (a1 : Addr) (p2 : Int32) (lo : Int32) (hi : Int32) (h0 : Heap) (n0 : Nat) (Z0 : n0 ≤ h0.size) (F : Fld Z h0 a1 "com/example/forget_by_time/forgetbytime/cli/Command" "fewestArguments" "I" (.int lo)) (M : Fld Z h0 a1 "com/example/forget_by_time/forgetbytime/cli/Command" "mostArguments" "I" (.int hi)) :
    MetFree l (⟨"com/example/forget_by_time/forgetbytime/cli/Command", "takesArguments", "(I)Z"⟩ : MethodName) (head1 (Jvm.Cond.code (⟨"com/example/forget_by_time/forgetbytime/cli/Command", "takesArguments", "(I)Z"⟩ : MethodName) prog_1_method_10_code 2 (some .boolean) :: ws) ({ frames := 0, cells := 0, slots := 0, locals := 0 } : Room)) (fun a U => a = #[(.ref a1), (.int p2)] ∧ Z.Warmed39 U.vm ∧ U.heap = h0) (fun _ _ _ _ _ => True) (fun _ U o U' => ∃ v L, o = .returned v ∧ Q2 Z a1 p2 lo hi h0 n0 v U'.heap L ∧ FrameEnd U o U' L ({ frames := 0, cells := 0, slots := 0, locals := 0 } : Room).cells ({ frames := 0, cells := 0, slots := 0, locals := 0 } : Room).slots) := by
  refine MetFree.of_bodySF pn_2 hisR ?_
  intro p e s m args below meth c s₁ Bd hml0 hP hK
  obtain ⟨rfl, hZ, hh⟩ := hP
  have hx := Bd.exec
  have hby := Bd.bytes
  have hml : c.maxLocals = 2 := hml0
  have hown : s.vm.findClass "com/example/forget_by_time/forgetbytime/cli/Command" = some m.cls := findClass_of_methodNamed Bd.named
  have hnm := (name_of_methodNamed Bd.named Bd.method).1
  have X0 : Stand p l e ({ frames := 0, cells := 0, slots := 0, locals := 0 } : Room) s m #[(.ref a1), (.int p2)] below meth c s₁ [] 0 0 := Stand.of_body Bd
  have e0 : s₁.heap = h0 := by rw [← hh, Bd.state]; rfl
  have N0 := Fr.nil n0
  refine own_at (castTop (ef_2 m a1 p2)) ?_
  have sg2 : ∀ t, own_S p e below s₁ (mkF m 2 #[.val (.ref a1), .val (.int p2)] [(.ref a1), (.int p2)]) t → own_S p e below s₁ (mkF m 0 #[.val (.ref a1), .val (.int p2)] []) t := by
    intro t k
    show own_S p e below s₁ (mkF m 0 #[.val (.ref a1), .val (.int p2)] []) _
    refine XS.iloadN X0.here hx rfl (hb hby d2_0) rfl ?_
    show own_S p e below s₁ (mkF m 1 #[.val (.ref a1), .val (.int p2)] [(.int p2)]) _
    refine XS.aloadN X0.here hx rfl (hb hby d2_1) rfl rfl ?_
    exact k
  refine own_by sg2 ?_
  obtain ⟨T2, X2, e2, st2⟩ := getF X0 hx hZ hown (host := "") (Or.inl (hw _ (List.mem_of_getElem? (i := 13) rfl))) Via.refl e0 F (g := (mkF m 2 #[.val (.ref a1), .val (.int p2)] [(.ref a1), (.int p2)])) rfl rfl (hb hby d2_2)
  refine own_by st2 ?_
  by_cases hc5 : p2 < lo
  · have sg21 : ∀ t, own_S p e below T2 (mkF m 21 #[.val (.ref a1), .val (.int p2)] [(.int (0 : Int32))]) t → own_S p e below T2 (mkF m 5 #[.val (.ref a1), .val (.int p2)] [(.int lo), (.int p2)]) t := by
      intro t k
      show own_S p e below T2 (mkF m 5 #[.val (.ref a1), .val (.int p2)] [(.int lo), (.int p2)]) _
      refine XS.icmpYes X2.here hx rfl (pc0 := 5) (pc' := 20) rfl (hb hby d2_5) rfl (tlt hc5).1 (by decide) (by decide) ?_
      show own_S p e below T2 (mkF m 20 #[.val (.ref a1), .val (.int p2)] []) _
      refine XS.iconst X2.here hx rfl (hb hby d2_20) ?_
      exact k
    refine own_by sg21 ?_
    obtain ⟨fs, hr, hrun, hended, hW, hsame⟩ := X2.leave (v := some (.int (0 : Int32))) (fun h => by rw [Bd.returns] at h; cases h)
    refine ⟨_, _, ?_, hrun, hended, _, _, rfl, ?_, ⟨_, rfl⟩, hW, hsame.mono (by decide) (by decide)⟩
    · exact retN X2 hx (t := .boolean) Bd.returns (by simp) (hb hby d2_21) hr
    · show Q2 Z a1 p2 lo hi h0 n0 _ T2.heap _
      rw [e2]
      exact ⟨by simp [hc5], N0, rfl⟩
  · have sg10 : ∀ t, own_S p e below T2 (mkF m 10 #[.val (.ref a1), .val (.int p2)] [(.ref a1), (.int p2)]) t → own_S p e below T2 (mkF m 5 #[.val (.ref a1), .val (.int p2)] [(.int lo), (.int p2)]) t := by
      intro t k
      show own_S p e below T2 (mkF m 5 #[.val (.ref a1), .val (.int p2)] [(.int lo), (.int p2)]) _
      refine XS.icmpNo X2.here hx rfl (hb hby d2_5) rfl (flt hc5).1 ?_
      show own_S p e below T2 (mkF m 8 #[.val (.ref a1), .val (.int p2)] []) _
      refine XS.iloadN X2.here hx rfl (hb hby d2_8) rfl ?_
      show own_S p e below T2 (mkF m 9 #[.val (.ref a1), .val (.int p2)] [(.int p2)]) _
      refine XS.aloadN X2.here hx rfl (hb hby d2_9) rfl rfl ?_
      exact k
    refine own_by sg10 ?_
    obtain ⟨T10, X10, e10, st10⟩ := getF X2 hx hZ hown (host := "") (Or.inl (hw _ (List.mem_of_getElem? (i := 15) rfl))) Via.refl e2 M (g := (mkF m 10 #[.val (.ref a1), .val (.int p2)] [(.ref a1), (.int p2)])) rfl rfl (hb hby d2_10)
    refine own_by st10 ?_
    by_cases hc13 : hi < p2
    · have sg21 : ∀ t, own_S p e below T10 (mkF m 21 #[.val (.ref a1), .val (.int p2)] [(.int (0 : Int32))]) t → own_S p e below T10 (mkF m 13 #[.val (.ref a1), .val (.int p2)] [(.int hi), (.int p2)]) t := by
        intro t k
        show own_S p e below T10 (mkF m 13 #[.val (.ref a1), .val (.int p2)] [(.int hi), (.int p2)]) _
        refine XS.icmpYes X10.here hx rfl (pc0 := 13) (pc' := 20) rfl (hb hby d2_13) rfl (tlt hc13).2.2.1 (by decide) (by decide) ?_
        show own_S p e below T10 (mkF m 20 #[.val (.ref a1), .val (.int p2)] []) _
        refine XS.iconst X10.here hx rfl (hb hby d2_20) ?_
        exact k
      refine own_by sg21 ?_
      obtain ⟨fs, hr, hrun, hended, hW, hsame⟩ := X10.leave (v := some (.int (0 : Int32))) (fun h => by rw [Bd.returns] at h; cases h)
      refine ⟨_, _, ?_, hrun, hended, _, _, rfl, ?_, ⟨_, rfl⟩, hW, hsame.mono (by decide) (by decide)⟩
      · exact retN X10 hx (t := .boolean) Bd.returns (by simp) (hb hby d2_21) hr
      · show Q2 Z a1 p2 lo hi h0 n0 _ T10.heap _
        rw [e10]
        exact ⟨by simp [hc5, hc13], N0, rfl⟩
    · have sg21 : ∀ t, own_S p e below T10 (mkF m 21 #[.val (.ref a1), .val (.int p2)] [(.int (1 : Int32))]) t → own_S p e below T10 (mkF m 13 #[.val (.ref a1), .val (.int p2)] [(.int hi), (.int p2)]) t := by
        intro t k
        show own_S p e below T10 (mkF m 13 #[.val (.ref a1), .val (.int p2)] [(.int hi), (.int p2)]) _
        refine XS.icmpNo X10.here hx rfl (hb hby d2_13) rfl (flt hc13).2.2.1 ?_
        show own_S p e below T10 (mkF m 16 #[.val (.ref a1), .val (.int p2)] []) _
        refine XS.iconst X10.here hx rfl (hb hby d2_16) ?_
        show own_S p e below T10 (mkF m 17 #[.val (.ref a1), .val (.int p2)] [(.int (1 : Int32))]) _
        refine XS.goto X10.here hx rfl (pc0 := 17) (pc' := 21) rfl (hb hby d2_17) (by decide) (by decide) ?_
        exact k
      refine own_by sg21 ?_
      obtain ⟨fs, hr, hrun, hended, hW, hsame⟩ := X10.leave (v := some (.int (1 : Int32))) (fun h => by rw [Bd.returns] at h; cases h)
      refine ⟨_, _, ?_, hrun, hended, _, _, rfl, ?_, ⟨_, rfl⟩, hW, hsame.mono (by decide) (by decide)⟩
      · exact retN X10 hx (t := .boolean) Bd.returns (by simp) (hb hby d2_21) hr
      · show Q2 Z a1 p2 lo hi h0 n0 _ T10.heap _
        rw [e10]
        exact ⟨by simp [hc5, hc13], N0, rfl⟩
theorem pn_0 : plainFor x = true := by first | exact plainFor_of_name (by first | (simp [plainName, overriddenIn]; done) | decide +kernel) | decide +kernel | exact Jvm.Free.JP.mathPlain rfl (by decide +kernel)
theorem pd_0_0 : parseMethodDescriptor "(I)Lcom/example/forget_by_time/forgetbytime/cli/Command;" = some ⟨[.int], some (.object "com/example/forget_by_time/forgetbytime/cli/Command")⟩ := by decide +kernel
theorem pd_0_1 : parseMethodDescriptor "(I)Z" = some ⟨[.int], some .boolean⟩ := by decide +kernel
theorem ef_0 (m : MethodId) (p0 : Int32) (p1 : Int32) (p2 : Int32) : entryFrame m #[(.int p0), (.int p1), (.int p2)] maxLocals = mkF m 0 #[.val (.int p0), .val (.int p1), .val (.int p2), .unset, .unset, .unset, .unset] [] := by first | (simp [entryFrame, mkF, argsToLocals, Value.category, maxLocals]; done) | rfl
def Q0 (Z : State) (p0 : Int32) (p1 : Int32) (p2 : Int32) (wSET_COLUMN : Addr) (wSET_MANAGED : Addr) (wSET_EXPRESSION : Addr) (wGET : Addr) (wLIST : Addr) (wPAUSE : Addr) (wRESUME : Addr) (wRESET : Addr) (wEXPIRY : Addr) (wSWEEP : Addr) (wSTATUS : Addr) (wRUN : Addr) (h0 : Heap) (n0 : Nat) (v : Option Value) (h : Heap) (L : List Loc) : Prop := v = some (.int 1) ∧ Fr n0 L
set_option maxRecDepth 65536 in
set_option maxHeartbeats 40000000 in
theorem rm0 (l : Launch) (Z : State) (a0 : Array Value) (hw : ∀ d ∈ tables_1, d.before a0 Z = true) (ws : List Jvm.Cond) (p0 : Int32) (p1 : Int32) (p2 : Int32) (wSET_COLUMN : Addr) (wSET_MANAGED : Addr) (wSET_EXPRESSION : Addr) (wGET : Addr) (wLIST : Addr) (wPAUSE : Addr) (wRESUME : Addr) (wRESET : Addr) (wEXPIRY : Addr) (wSWEEP : Addr) (wSTATUS : Addr) (wRUN : Addr) (h0 : Heap) (n0 : Nat) (Z0 : n0 ≤ h0.size) (S_SET_COLUMN : Sta Z h0 "com/example/forget_by_time/forgetbytime/cli/Command" "SET_COLUMN" "Lcom/example/forget_by_time/forgetbytime/cli/Command;" (.ref wSET_COLUMN)) (S_SET_MANAGED : Sta Z h0 "com/example/forget_by_time/forgetbytime/cli/Command" "SET_MANAGED" "Lcom/example/forget_by_time/forgetbytime/cli/Command;" (.ref wSET_MANAGED)) (S_SET_EXPRESSION : Sta Z h0 "com/example/forget_by_time/forgetbytime/cli/Command" "SET_EXPRESSION" "Lcom/example/forget_by_time/forgetbytime/cli/Command;" (.ref wSET_EXPRESSION)) (S_GET : Sta Z h0 "com/example/forget_by_time/forgetbytime/cli/Command" "GET" "Lcom/example/forget_by_time/forgetbytime/cli/Command;" (.ref wGET)) (S_LIST : Sta Z h0 "com/example/forget_by_time/forgetbytime/cli/Command" "LIST" "Lcom/example/forget_by_time/forgetbytime/cli/Command;" (.ref wLIST)) (S_PAUSE : Sta Z h0 "com/example/forget_by_time/forgetbytime/cli/Command" "PAUSE" "Lcom/example/forget_by_time/forgetbytime/cli/Command;" (.ref wPAUSE)) (S_RESUME : Sta Z h0 "com/example/forget_by_time/forgetbytime/cli/Command" "RESUME" "Lcom/example/forget_by_time/forgetbytime/cli/Command;" (.ref wRESUME)) (S_RESET : Sta Z h0 "com/example/forget_by_time/forgetbytime/cli/Command" "RESET" "Lcom/example/forget_by_time/forgetbytime/cli/Command;" (.ref wRESET)) (S_EXPIRY : Sta Z h0 "com/example/forget_by_time/forgetbytime/cli/Command" "EXPIRY" "Lcom/example/forget_by_time/forgetbytime/cli/Command;" (.ref wEXPIRY)) (S_SWEEP : Sta Z h0 "com/example/forget_by_time/forgetbytime/cli/Command" "SWEEP" "Lcom/example/forget_by_time/forgetbytime/cli/Command;" (.ref wSWEEP)) (S_STATUS : Sta Z h0 "com/example/forget_by_time/forgetbytime/cli/Command" "STATUS" "Lcom/example/forget_by_time/forgetbytime/cli/Command;" (.ref wSTATUS)) (S_RUN : Sta Z h0 "com/example/forget_by_time/forgetbytime/cli/Command" "RUN" "Lcom/example/forget_by_time/forgetbytime/cli/Command;" (.ref wRUN)) (E_SET_COLUMN : Exa Z h0 wSET_COLUMN "com/example/forget_by_time/forgetbytime/cli/Command") (E_SET_MANAGED : Exa Z h0 wSET_MANAGED "com/example/forget_by_time/forgetbytime/cli/Command") (E_SET_EXPRESSION : Exa Z h0 wSET_EXPRESSION "com/example/forget_by_time/forgetbytime/cli/Command") (E_GET : Exa Z h0 wGET "com/example/forget_by_time/forgetbytime/cli/Command") (E_LIST : Exa Z h0 wLIST "com/example/forget_by_time/forgetbytime/cli/Command") (E_PAUSE : Exa Z h0 wPAUSE "com/example/forget_by_time/forgetbytime/cli/Command") (E_RESUME : Exa Z h0 wRESUME "com/example/forget_by_time/forgetbytime/cli/Command") (E_RESET : Exa Z h0 wRESET "com/example/forget_by_time/forgetbytime/cli/Command") (E_EXPIRY : Exa Z h0 wEXPIRY "com/example/forget_by_time/forgetbytime/cli/Command") (E_SWEEP : Exa Z h0 wSWEEP "com/example/forget_by_time/forgetbytime/cli/Command") (E_STATUS : Exa Z h0 wSTATUS "com/example/forget_by_time/forgetbytime/cli/Command") (E_RUN : Exa Z h0 wRUN "com/example/forget_by_time/forgetbytime/cli/Command") (F_SET_COLUMN : Fld Z h0 wSET_COLUMN "com/example/forget_by_time/forgetbytime/cli/Command" "fewestArguments" "I" (.int (1 : Int32))) (F_SET_MANAGED : Fld Z h0 wSET_MANAGED "com/example/forget_by_time/forgetbytime/cli/Command" "fewestArguments" "I" (.int (1 : Int32))) (F_SET_EXPRESSION : Fld Z h0 wSET_EXPRESSION "com/example/forget_by_time/forgetbytime/cli/Command" "fewestArguments" "I" (.int (1 : Int32))) (F_GET : Fld Z h0 wGET "com/example/forget_by_time/forgetbytime/cli/Command" "fewestArguments" "I" (.int (1 : Int32))) (F_LIST : Fld Z h0 wLIST "com/example/forget_by_time/forgetbytime/cli/Command" "fewestArguments" "I" (.int (0 : Int32))) (F_PAUSE : Fld Z h0 wPAUSE "com/example/forget_by_time/forgetbytime/cli/Command" "fewestArguments" "I" (.int (1 : Int32))) (F_RESUME : Fld Z h0 wRESUME "com/example/forget_by_time/forgetbytime/cli/Command" "fewestArguments" "I" (.int (1 : Int32))) (F_RESET : Fld Z h0 wRESET "com/example/forget_by_time/forgetbytime/cli/Command" "fewestArguments" "I" (.int (1 : Int32))) (F_EXPIRY : Fld Z h0 wEXPIRY "com/example/forget_by_time/forgetbytime/cli/Command" "fewestArguments" "I" (.int (1 : Int32))) (F_SWEEP : Fld Z h0 wSWEEP "com/example/forget_by_time/forgetbytime/cli/Command" "fewestArguments" "I" (.int (0 : Int32))) (F_STATUS : Fld Z h0 wSTATUS "com/example/forget_by_time/forgetbytime/cli/Command" "fewestArguments" "I" (.int (0 : Int32))) (F_RUN : Fld Z h0 wRUN "com/example/forget_by_time/forgetbytime/cli/Command" "fewestArguments" "I" (.int (0 : Int32))) (M_SET_COLUMN : Fld Z h0 wSET_COLUMN "com/example/forget_by_time/forgetbytime/cli/Command" "mostArguments" "I" (.int (1 : Int32))) (M_SET_MANAGED : Fld Z h0 wSET_MANAGED "com/example/forget_by_time/forgetbytime/cli/Command" "mostArguments" "I" (.int (1 : Int32))) (M_SET_EXPRESSION : Fld Z h0 wSET_EXPRESSION "com/example/forget_by_time/forgetbytime/cli/Command" "mostArguments" "I" (.int (1 : Int32))) (M_GET : Fld Z h0 wGET "com/example/forget_by_time/forgetbytime/cli/Command" "mostArguments" "I" (.int (1 : Int32))) (M_LIST : Fld Z h0 wLIST "com/example/forget_by_time/forgetbytime/cli/Command" "mostArguments" "I" (.int (0 : Int32))) (M_PAUSE : Fld Z h0 wPAUSE "com/example/forget_by_time/forgetbytime/cli/Command" "mostArguments" "I" (.int (1 : Int32))) (M_RESUME : Fld Z h0 wRESUME "com/example/forget_by_time/forgetbytime/cli/Command" "mostArguments" "I" (.int (1 : Int32))) (M_RESET : Fld Z h0 wRESET "com/example/forget_by_time/forgetbytime/cli/Command" "mostArguments" "I" (.int (1 : Int32))) (M_EXPIRY : Fld Z h0 wEXPIRY "com/example/forget_by_time/forgetbytime/cli/Command" "mostArguments" "I" (.int (1 : Int32))) (M_SWEEP : Fld Z h0 wSWEEP "com/example/forget_by_time/forgetbytime/cli/Command" "mostArguments" "I" (.int (1 : Int32))) (M_STATUS : Fld Z h0 wSTATUS "com/example/forget_by_time/forgetbytime/cli/Command" "mostArguments" "I" (.int (1 : Int32))) (M_RUN : Fld Z h0 wRUN "com/example/forget_by_time/forgetbytime/cli/Command" "mostArguments" "I" (.int (0 : Int32))) :
    MetFree l x (head1 (Jvm.Cond.code x code maxLocals ret :: ws) room_1) (fun a U => a = #[(.int p0), (.int p1), (.int p2)] ∧ Z.Warmed39 U.vm ∧ U.heap = h0) (fun _ _ _ _ _ => True) (fun _ U o U' => ∃ v L, o = .returned v ∧ Q0 Z p0 p1 p2 wSET_COLUMN wSET_MANAGED wSET_EXPRESSION wGET wLIST wPAUSE wRESUME wRESET wEXPIRY wSWEEP wSTATUS wRUN h0 n0 v U'.heap L ∧ FrameEnd U o U' L room_1.cells room_1.slots) := by
  refine MetFree.of_bodySF pn_0 hisR ?_
  intro p e s m args below meth c s₁ Bd hml0 hP hK
  obtain ⟨rfl, hZ, hh⟩ := hP
  have hx := Bd.exec
  have hby := Bd.bytes
  have hml : c.maxLocals = 7 := hml0
  have hown : s.vm.findClass "com/example/forget_by_time/forgetbytime/cli/CommandTakesArgumentsPinLaw" = some m.cls := findClass_of_methodNamed Bd.named
  have hnm := (name_of_methodNamed Bd.named Bd.method).1
  have X0 : Stand p l e room_1 s m #[(.int p0), (.int p1), (.int p2)] below meth c s₁ [] 0 0 := Stand.of_body Bd
  have e0 : s₁.heap = h0 := by rw [← hh, Bd.state]; rfl
  have N0 := Fr.nil n0
  refine own_at (castTop (ef_0 m p0 p1 p2)) ?_
  obtain ⟨v7, hv7⟩ : ∃ z : Int32, z = ((p0 &&& (2147483647 : Int32)) % (12 : Int32)) := ⟨_, rfl⟩
  have sg7 : ∀ t, own_S p e below s₁ (mkF m 7 (own_AIIIUUUU p0 p1 p2) [(.int v7)]) t → own_S p e below s₁ (mkF m 0 (own_AIIIUUUU p0 p1 p2) []) t := by
    intro t k
    rw [hv7] at k
    show own_S p e below s₁ (mkF m 0 (own_AIIIUUUU p0 p1 p2) []) _
    refine XS.iloadN X0.here hx rfl (hb hby at_0) rfl ?_
    show own_S p e below s₁ (mkF m 1 (own_AIIIUUUU p0 p1 p2) [(.int p0)]) _
    refine X0.ldcInt hx hown (mvT hZ (hw _ (List.mem_of_getElem? (i := 0) rfl))) (g := (mkF m 1 (own_AIIIUUUU p0 p1 p2) [(.int p0)])) rfl (hb hby at_1) _ ?_
    show own_S p e below s₁ (mkF m 3 (own_AIIIUUUU p0 p1 p2) [(.int (2147483647 : Int32)), (.int p0)]) _
    refine XS.iand X0.here hx rfl (hb hby at_3) rfl ?_
    show own_S p e below s₁ (mkF m 4 (own_AIIIUUUU p0 p1 p2) [(.int (p0 &&& (2147483647 : Int32)))]) _
    refine XS.bipush X0.here hx rfl (hb hby at_4) ?_
    show own_S p e below s₁ (mkF m 6 (own_AIIIUUUU p0 p1 p2) [(.int (12 : Int32)), (.int (p0 &&& (2147483647 : Int32)))]) _
    refine iremM X0 hx rfl (hb hby at_6) rfl (by decide) ?_
    exact k
  refine own_by sg7 ?_
  have sg8 : ∀ t, own_S p e below s₁ (mkF m 8 (own_AIIIIUUU p0 p1 p2 v7) []) t → own_S p e below s₁ (mkF m 7 (own_AIIIUUUU p0 p1 p2) [(.int v7)]) t := by
    intro t k
    show own_S p e below s₁ (mkF m 7 (own_AIIIUUUU p0 p1 p2) [(.int v7)]) _
    refine XS.istoreN X0.here hx rfl (hb hby at_7) rfl (l' := (own_AIIIIUUU p0 p1 p2 v7)) rfl ?_
    exact k
  refine own_by sg8 ?_
  obtain ⟨r8_s0, hr8_s0⟩ : ∃ z : Int32, z = (if (p1 &&& (1 : Int32)) = (0 : Int32) then ((p2 &&& (3 : Int32)) - (1 : Int32)) else p2) := ⟨_, rfl⟩
  have str8 : ∀ t, own_S p e below s₁ (mkF m 23 (own_AIIIIUUU p0 p1 p2 v7) [(.int r8_s0)]) t → own_S p e below s₁ (mkF m 8 (own_AIIIIUUU p0 p1 p2 v7) []) t := by
    have sg11 : ∀ t, own_S p e below s₁ (mkF m 11 (own_AIIIIUUU p0 p1 p2 v7) [(.int (p1 &&& (1 : Int32)))]) t → own_S p e below s₁ (mkF m 8 (own_AIIIIUUU p0 p1 p2 v7) []) t := by
      intro t k
      show own_S p e below s₁ (mkF m 8 (own_AIIIIUUU p0 p1 p2 v7) []) _
      refine XS.iloadN X0.here hx rfl (hb hby at_8) rfl ?_
      show own_S p e below s₁ (mkF m 9 (own_AIIIIUUU p0 p1 p2 v7) [(.int p1)]) _
      refine XS.iconst X0.here hx rfl (hb hby at_9) ?_
      show own_S p e below s₁ (mkF m 10 (own_AIIIIUUU p0 p1 p2 v7) [(.int (1 : Int32)), (.int p1)]) _
      refine XS.iand X0.here hx rfl (hb hby at_10) rfl ?_
      exact k
    by_cases hc11 : (p1 &&& (1 : Int32)) = (0 : Int32)
    · rw [if_pos hc11] at hr8_s0
      have sg23 : ∀ t, own_S p e below s₁ (mkF m 23 (own_AIIIIUUU p0 p1 p2 v7) [(.int ((p2 &&& (3 : Int32)) - (1 : Int32)))]) t → own_S p e below s₁ (mkF m 11 (own_AIIIIUUU p0 p1 p2 v7) [(.int (p1 &&& (1 : Int32)))]) t := by
        intro t k
        show own_S p e below s₁ (mkF m 11 (own_AIIIIUUU p0 p1 p2 v7) [(.int (p1 &&& (1 : Int32)))]) _
        refine XS.ifYes X0.here hx rfl (pc0 := 11) (pc' := 18) rfl (hb hby at_11) rfl ((if0 _ _).trans (teq hc11).1) (by decide) (by decide) ?_
        show own_S p e below s₁ (mkF m 18 (own_AIIIIUUU p0 p1 p2 v7) []) _
        refine XS.iloadN X0.here hx rfl (hb hby at_18) rfl ?_
        show own_S p e below s₁ (mkF m 19 (own_AIIIIUUU p0 p1 p2 v7) [(.int p2)]) _
        refine XS.iconst X0.here hx rfl (hb hby at_19) ?_
        show own_S p e below s₁ (mkF m 20 (own_AIIIIUUU p0 p1 p2 v7) [(.int (3 : Int32)), (.int p2)]) _
        refine XS.iand X0.here hx rfl (hb hby at_20) rfl ?_
        show own_S p e below s₁ (mkF m 21 (own_AIIIIUUU p0 p1 p2 v7) [(.int (p2 &&& (3 : Int32)))]) _
        refine XS.iconst X0.here hx rfl (hb hby at_21) ?_
        show own_S p e below s₁ (mkF m 22 (own_AIIIIUUU p0 p1 p2 v7) [(.int (1 : Int32)), (.int (p2 &&& (3 : Int32)))]) _
        refine XS.isub X0.here hx rfl (hb hby at_22) rfl ?_
        exact k
      rw [hr8_s0]
      exact fun t k => (sg11 t (sg23 t k))
    · rw [if_neg hc11] at hr8_s0
      have sg23 : ∀ t, own_S p e below s₁ (mkF m 23 (own_AIIIIUUU p0 p1 p2 v7) [(.int p2)]) t → own_S p e below s₁ (mkF m 11 (own_AIIIIUUU p0 p1 p2 v7) [(.int (p1 &&& (1 : Int32)))]) t := by
        intro t k
        show own_S p e below s₁ (mkF m 11 (own_AIIIIUUU p0 p1 p2 v7) [(.int (p1 &&& (1 : Int32)))]) _
        refine XS.ifNo X0.here hx rfl (hb hby at_11) rfl ((if0 _ _).trans (feq hc11).1) ?_
        show own_S p e below s₁ (mkF m 14 (own_AIIIIUUU p0 p1 p2 v7) []) _
        refine XS.iloadN X0.here hx rfl (hb hby at_14) rfl ?_
        show own_S p e below s₁ (mkF m 15 (own_AIIIIUUU p0 p1 p2 v7) [(.int p2)]) _
        refine XS.goto X0.here hx rfl (pc0 := 15) (pc' := 23) rfl (hb hby at_15) (by decide) (by decide) ?_
        exact k
      rw [hr8_s0]
      exact fun t k => (sg11 t (sg23 t k))
  refine own_by str8 ?_
  have sg26 : ∀ t, own_S p e below s₁ (mkF m 26 (own_AIIIIIUU p0 p1 p2 v7 r8_s0) [(.int v7)]) t → own_S p e below s₁ (mkF m 23 (own_AIIIIUUU p0 p1 p2 v7) [(.int r8_s0)]) t := by
    intro t k
    show own_S p e below s₁ (mkF m 23 (own_AIIIIUUU p0 p1 p2 v7) [(.int r8_s0)]) _
    refine XS.istore X0.here hx rfl (hb hby at_23) rfl (l' := (own_AIIIIIUU p0 p1 p2 v7 r8_s0)) rfl ?_
    show own_S p e below s₁ (mkF m 25 (own_AIIIIIUU p0 p1 p2 v7 r8_s0) []) _
    refine XS.iloadN X0.here hx rfl (hb hby at_25) rfl ?_
    exact k
  refine own_by sg26 ?_
  obtain ⟨_, _, ⟨T26, L26, k26, n26⟩, -, X26, ⟨Lc26, hQ26, l26, y26, z26⟩, st26⟩ := Jvm.LawKit.callS X0 hx (y := (⟨"com/example/forget_by_time/forgetbytime/cli/CommandTakesArgumentsPinLaw", "pick", "(I)Lcom/example/forget_by_time/forgetbytime/cli/Command;"⟩ : MethodName)) hown (mvT hZ (hw _ (List.mem_of_getElem? (i := 1) rfl))) (mvT hZ (hw _ (List.mem_of_getElem? (i := 2) rfl))) (mvT hZ (hw _ (List.mem_of_getElem? (i := 3) rfl))) (mvT hZ (hw _ (List.mem_of_getElem? (i := 4) rfl))) (by decide) (backOf (W := 0) (rm1 l Z a0 hw [] v7 wSET_COLUMN wSET_MANAGED wSET_EXPRESSION wGET wLIST wPAUSE wRESUME wRESET wEXPIRY wSWEEP wSTATUS wRUN h0 n0 Z0 S_SET_COLUMN S_SET_MANAGED S_SET_EXPRESSION S_GET S_LIST S_PAUSE S_RESUME S_RESET S_EXPIRY S_SWEEP S_STATUS S_RUN E_SET_COLUMN E_SET_MANAGED E_SET_EXPRESSION E_GET E_LIST E_PAUSE E_RESUME E_RESET E_EXPIRY E_SWEEP E_STATUS E_RUN F_SET_COLUMN F_SET_MANAGED F_SET_EXPRESSION F_GET F_LIST F_PAUSE F_RESUME F_RESET F_EXPIRY F_SWEEP F_STATUS F_RUN M_SET_COLUMN M_SET_MANAGED M_SET_EXPRESSION M_GET M_LIST M_PAUSE M_RESUME M_RESET M_EXPIRY M_SWEEP M_STATUS M_RUN) hZ (hw _ (List.mem_of_getElem? (i := 4) rfl)) (hw _ (List.mem_of_getElem? (i := 3) rfl)) (by decide) (by decide)) (g := (mkF m 26 (own_AIIIIIUU p0 p1 p2 v7 r8_s0) [(.int v7)])) rfl (by rw [hml]; rfl) (argsL := [(.int v7)]) (rest := []) (lenOf pd_0_0 rfl) rfl (by show 2 * 0 + _ ≤ _; exact Nat.le_of_eq rfl) (hb hby at_26) (fun _ _ => ⟨rfl, e0, (by decide : 0 + 0 ≤ _), (by decide : 0 + 0 ≤ _)⟩)
  dsimp only [Pt.U, Pt.locs, Pt.cells, Pt.slots] at X26 l26 y26 z26 st26 hQ26
  subst l26 y26 z26
  obtain ⟨r26, rfl, E26, F26, M26, N26q, hq26⟩ := hQ26
  have N26 := Fr.app N0 N26q
  refine own_by st26 ?_
  have sg31 : ∀ t, own_S p e below T26 (mkF m 31 (own_AIIIIIRU p0 p1 p2 v7 r8_s0 r26) []) t → own_S p e below T26 (mkF m 29 (own_AIIIIIUU p0 p1 p2 v7 r8_s0) [(.ref r26)]) t := by
    intro t k
    show own_S p e below T26 (mkF m 29 (own_AIIIIIUU p0 p1 p2 v7 r8_s0) [(.ref r26)]) _
    refine XS.astore X26.here hx rfl (hb hby at_29) rfl rfl (l' := (own_AIIIIIRU p0 p1 p2 v7 r8_s0 r26)) rfl ?_
    exact k
  refine own_by sg31 ?_
  obtain ⟨r31_l6, hr31_l6⟩ : ∃ z : Int32, z = (if v7 = (4 : Int32) then (if r8_s0 = (0 : Int32) then (1 : Int32) else (0 : Int32)) else (if v7 = (11 : Int32) then (if r8_s0 = (0 : Int32) then (1 : Int32) else (0 : Int32)) else (if v7 = (9 : Int32) then (if r8_s0 = (0 : Int32) then (1 : Int32) else (if r8_s0 = (1 : Int32) then (1 : Int32) else (0 : Int32))) else (if v7 = (10 : Int32) then (if r8_s0 = (0 : Int32) then (1 : Int32) else (if r8_s0 = (1 : Int32) then (1 : Int32) else (0 : Int32))) else (if r8_s0 = (1 : Int32) then (1 : Int32) else (0 : Int32)))))) := ⟨_, rfl⟩
  have str31 : ∀ t, own_S p e below T26 (mkF m 103 (own_AIIIIIRI p0 p1 p2 v7 r8_s0 r26 r31_l6) []) t → own_S p e below T26 (mkF m 31 (own_AIIIIIRU p0 p1 p2 v7 r8_s0 r26) []) t := by
    have sg33 : ∀ t, own_S p e below T26 (mkF m 33 (own_AIIIIIRU p0 p1 p2 v7 r8_s0 r26) [(.int (4 : Int32)), (.int v7)]) t → own_S p e below T26 (mkF m 31 (own_AIIIIIRU p0 p1 p2 v7 r8_s0 r26) []) t := by
      intro t k
      show own_S p e below T26 (mkF m 31 (own_AIIIIIRU p0 p1 p2 v7 r8_s0 r26) []) _
      refine XS.iloadN X26.here hx rfl (hb hby at_31) rfl ?_
      show own_S p e below T26 (mkF m 32 (own_AIIIIIRU p0 p1 p2 v7 r8_s0 r26) [(.int v7)]) _
      refine XS.iconst X26.here hx rfl (hb hby at_32) ?_
      exact k
    by_cases hc33 : v7 = (4 : Int32)
    · rw [if_pos hc33] at hr31_l6
      have sg44 : ∀ t, own_S p e below T26 (mkF m 44 (own_AIIIIIRU p0 p1 p2 v7 r8_s0 r26) [(.int r8_s0)]) t → own_S p e below T26 (mkF m 33 (own_AIIIIIRU p0 p1 p2 v7 r8_s0 r26) [(.int (4 : Int32)), (.int v7)]) t := by
        intro t k
        show own_S p e below T26 (mkF m 33 (own_AIIIIIRU p0 p1 p2 v7 r8_s0 r26) [(.int (4 : Int32)), (.int v7)]) _
        refine XS.icmpYes X26.here hx rfl (pc0 := 33) (pc' := 42) rfl (hb hby at_33) rfl (teq hc33).1 (by decide) (by decide) ?_
        show own_S p e below T26 (mkF m 42 (own_AIIIIIRU p0 p1 p2 v7 r8_s0 r26) []) _
        refine XS.iload X26.here hx rfl (hb hby at_42) rfl ?_
        exact k
      by_cases hc44 : r8_s0 = (0 : Int32)
      · rw [if_pos hc44] at hr31_l6
        have sg103 : ∀ t, own_S p e below T26 (mkF m 103 (own_AIIIIIRI p0 p1 p2 v7 r8_s0 r26 (1 : Int32)) []) t → own_S p e below T26 (mkF m 44 (own_AIIIIIRU p0 p1 p2 v7 r8_s0 r26) [(.int r8_s0)]) t := by
          intro t k
          show own_S p e below T26 (mkF m 44 (own_AIIIIIRU p0 p1 p2 v7 r8_s0 r26) [(.int r8_s0)]) _
          refine XS.ifNo X26.here hx rfl (hb hby at_44) rfl ((if0 _ _).trans (teq hc44).2) ?_
          show own_S p e below T26 (mkF m 47 (own_AIIIIIRU p0 p1 p2 v7 r8_s0 r26) []) _
          refine XS.iconst X26.here hx rfl (hb hby at_47) ?_
          show own_S p e below T26 (mkF m 48 (own_AIIIIIRU p0 p1 p2 v7 r8_s0 r26) [(.int (1 : Int32))]) _
          refine XS.goto X26.here hx rfl (pc0 := 48) (pc' := 52) rfl (hb hby at_48) (by decide) (by decide) ?_
          show own_S p e below T26 (mkF m 52 (own_AIIIIIRU p0 p1 p2 v7 r8_s0 r26) [(.int (1 : Int32))]) _
          refine XS.istore X26.here hx rfl (hb hby at_52) rfl (l' := (own_AIIIIIRI p0 p1 p2 v7 r8_s0 r26 (1 : Int32))) rfl ?_
          show own_S p e below T26 (mkF m 54 (own_AIIIIIRI p0 p1 p2 v7 r8_s0 r26 (1 : Int32)) []) _
          refine XS.goto X26.here hx rfl (pc0 := 54) (pc' := 103) rfl (hb hby at_54) (by decide) (by decide) ?_
          exact k
        rw [hr31_l6]
        exact fun t k => (sg33 t (sg44 t (sg103 t k)))
      · rw [if_neg hc44] at hr31_l6
        have sg103 : ∀ t, own_S p e below T26 (mkF m 103 (own_AIIIIIRI p0 p1 p2 v7 r8_s0 r26 (0 : Int32)) []) t → own_S p e below T26 (mkF m 44 (own_AIIIIIRU p0 p1 p2 v7 r8_s0 r26) [(.int r8_s0)]) t := by
          intro t k
          show own_S p e below T26 (mkF m 44 (own_AIIIIIRU p0 p1 p2 v7 r8_s0 r26) [(.int r8_s0)]) _
          refine XS.ifYes X26.here hx rfl (pc0 := 44) (pc' := 51) rfl (hb hby at_44) rfl ((if0 _ _).trans (feq hc44).2) (by decide) (by decide) ?_
          show own_S p e below T26 (mkF m 51 (own_AIIIIIRU p0 p1 p2 v7 r8_s0 r26) []) _
          refine XS.iconst X26.here hx rfl (hb hby at_51) ?_
          show own_S p e below T26 (mkF m 52 (own_AIIIIIRU p0 p1 p2 v7 r8_s0 r26) [(.int (0 : Int32))]) _
          refine XS.istore X26.here hx rfl (hb hby at_52) rfl (l' := (own_AIIIIIRI p0 p1 p2 v7 r8_s0 r26 (0 : Int32))) rfl ?_
          show own_S p e below T26 (mkF m 54 (own_AIIIIIRI p0 p1 p2 v7 r8_s0 r26 (0 : Int32)) []) _
          refine XS.goto X26.here hx rfl (pc0 := 54) (pc' := 103) rfl (hb hby at_54) (by decide) (by decide) ?_
          exact k
        rw [hr31_l6]
        exact fun t k => (sg33 t (sg44 t (sg103 t k)))
    · rw [if_neg hc33] at hr31_l6
      have sg39 : ∀ t, own_S p e below T26 (mkF m 39 (own_AIIIIIRU p0 p1 p2 v7 r8_s0 r26) [(.int (11 : Int32)), (.int v7)]) t → own_S p e below T26 (mkF m 33 (own_AIIIIIRU p0 p1 p2 v7 r8_s0 r26) [(.int (4 : Int32)), (.int v7)]) t := by
        intro t k
        show own_S p e below T26 (mkF m 33 (own_AIIIIIRU p0 p1 p2 v7 r8_s0 r26) [(.int (4 : Int32)), (.int v7)]) _
        refine XS.icmpNo X26.here hx rfl (hb hby at_33) rfl (feq hc33).1 ?_
        show own_S p e below T26 (mkF m 36 (own_AIIIIIRU p0 p1 p2 v7 r8_s0 r26) []) _
        refine XS.iloadN X26.here hx rfl (hb hby at_36) rfl ?_
        show own_S p e below T26 (mkF m 37 (own_AIIIIIRU p0 p1 p2 v7 r8_s0 r26) [(.int v7)]) _
        refine XS.bipush X26.here hx rfl (hb hby at_37) ?_
        exact k
      by_cases hc39 : v7 = (11 : Int32)
      · rw [if_pos hc39] at hr31_l6
        have sg44 : ∀ t, own_S p e below T26 (mkF m 44 (own_AIIIIIRU p0 p1 p2 v7 r8_s0 r26) [(.int r8_s0)]) t → own_S p e below T26 (mkF m 39 (own_AIIIIIRU p0 p1 p2 v7 r8_s0 r26) [(.int (11 : Int32)), (.int v7)]) t := by
          intro t k
          show own_S p e below T26 (mkF m 39 (own_AIIIIIRU p0 p1 p2 v7 r8_s0 r26) [(.int (11 : Int32)), (.int v7)]) _
          refine XS.icmpNo X26.here hx rfl (hb hby at_39) rfl (teq hc39).2 ?_
          show own_S p e below T26 (mkF m 42 (own_AIIIIIRU p0 p1 p2 v7 r8_s0 r26) []) _
          refine XS.iload X26.here hx rfl (hb hby at_42) rfl ?_
          exact k
        by_cases hc44 : r8_s0 = (0 : Int32)
        · rw [if_pos hc44] at hr31_l6
          have sg103 : ∀ t, own_S p e below T26 (mkF m 103 (own_AIIIIIRI p0 p1 p2 v7 r8_s0 r26 (1 : Int32)) []) t → own_S p e below T26 (mkF m 44 (own_AIIIIIRU p0 p1 p2 v7 r8_s0 r26) [(.int r8_s0)]) t := by
            intro t k
            show own_S p e below T26 (mkF m 44 (own_AIIIIIRU p0 p1 p2 v7 r8_s0 r26) [(.int r8_s0)]) _
            refine XS.ifNo X26.here hx rfl (hb hby at_44) rfl ((if0 _ _).trans (teq hc44).2) ?_
            show own_S p e below T26 (mkF m 47 (own_AIIIIIRU p0 p1 p2 v7 r8_s0 r26) []) _
            refine XS.iconst X26.here hx rfl (hb hby at_47) ?_
            show own_S p e below T26 (mkF m 48 (own_AIIIIIRU p0 p1 p2 v7 r8_s0 r26) [(.int (1 : Int32))]) _
            refine XS.goto X26.here hx rfl (pc0 := 48) (pc' := 52) rfl (hb hby at_48) (by decide) (by decide) ?_
            show own_S p e below T26 (mkF m 52 (own_AIIIIIRU p0 p1 p2 v7 r8_s0 r26) [(.int (1 : Int32))]) _
            refine XS.istore X26.here hx rfl (hb hby at_52) rfl (l' := (own_AIIIIIRI p0 p1 p2 v7 r8_s0 r26 (1 : Int32))) rfl ?_
            show own_S p e below T26 (mkF m 54 (own_AIIIIIRI p0 p1 p2 v7 r8_s0 r26 (1 : Int32)) []) _
            refine XS.goto X26.here hx rfl (pc0 := 54) (pc' := 103) rfl (hb hby at_54) (by decide) (by decide) ?_
            exact k
          rw [hr31_l6]
          exact fun t k => (sg33 t (sg39 t (sg44 t (sg103 t k))))
        · rw [if_neg hc44] at hr31_l6
          have sg103 : ∀ t, own_S p e below T26 (mkF m 103 (own_AIIIIIRI p0 p1 p2 v7 r8_s0 r26 (0 : Int32)) []) t → own_S p e below T26 (mkF m 44 (own_AIIIIIRU p0 p1 p2 v7 r8_s0 r26) [(.int r8_s0)]) t := by
            intro t k
            show own_S p e below T26 (mkF m 44 (own_AIIIIIRU p0 p1 p2 v7 r8_s0 r26) [(.int r8_s0)]) _
            refine XS.ifYes X26.here hx rfl (pc0 := 44) (pc' := 51) rfl (hb hby at_44) rfl ((if0 _ _).trans (feq hc44).2) (by decide) (by decide) ?_
            show own_S p e below T26 (mkF m 51 (own_AIIIIIRU p0 p1 p2 v7 r8_s0 r26) []) _
            refine XS.iconst X26.here hx rfl (hb hby at_51) ?_
            show own_S p e below T26 (mkF m 52 (own_AIIIIIRU p0 p1 p2 v7 r8_s0 r26) [(.int (0 : Int32))]) _
            refine XS.istore X26.here hx rfl (hb hby at_52) rfl (l' := (own_AIIIIIRI p0 p1 p2 v7 r8_s0 r26 (0 : Int32))) rfl ?_
            show own_S p e below T26 (mkF m 54 (own_AIIIIIRI p0 p1 p2 v7 r8_s0 r26 (0 : Int32)) []) _
            refine XS.goto X26.here hx rfl (pc0 := 54) (pc' := 103) rfl (hb hby at_54) (by decide) (by decide) ?_
            exact k
          rw [hr31_l6]
          exact fun t k => (sg33 t (sg39 t (sg44 t (sg103 t k))))
      · rw [if_neg hc39] at hr31_l6
        have sg60 : ∀ t, own_S p e below T26 (mkF m 60 (own_AIIIIIRU p0 p1 p2 v7 r8_s0 r26) [(.int (9 : Int32)), (.int v7)]) t → own_S p e below T26 (mkF m 39 (own_AIIIIIRU p0 p1 p2 v7 r8_s0 r26) [(.int (11 : Int32)), (.int v7)]) t := by
          intro t k
          show own_S p e below T26 (mkF m 39 (own_AIIIIIRU p0 p1 p2 v7 r8_s0 r26) [(.int (11 : Int32)), (.int v7)]) _
          refine XS.icmpYes X26.here hx rfl (pc0 := 39) (pc' := 57) rfl (hb hby at_39) rfl (feq hc39).2 (by decide) (by decide) ?_
          show own_S p e below T26 (mkF m 57 (own_AIIIIIRU p0 p1 p2 v7 r8_s0 r26) []) _
          refine XS.iloadN X26.here hx rfl (hb hby at_57) rfl ?_
          show own_S p e below T26 (mkF m 58 (own_AIIIIIRU p0 p1 p2 v7 r8_s0 r26) [(.int v7)]) _
          refine XS.bipush X26.here hx rfl (hb hby at_58) ?_
          exact k
        by_cases hc60 : v7 = (9 : Int32)
        · rw [if_pos hc60] at hr31_l6
          have sg71 : ∀ t, own_S p e below T26 (mkF m 71 (own_AIIIIIRU p0 p1 p2 v7 r8_s0 r26) [(.int r8_s0)]) t → own_S p e below T26 (mkF m 60 (own_AIIIIIRU p0 p1 p2 v7 r8_s0 r26) [(.int (9 : Int32)), (.int v7)]) t := by
            intro t k
            show own_S p e below T26 (mkF m 60 (own_AIIIIIRU p0 p1 p2 v7 r8_s0 r26) [(.int (9 : Int32)), (.int v7)]) _
            refine XS.icmpYes X26.here hx rfl (pc0 := 60) (pc' := 69) rfl (hb hby at_60) rfl (teq hc60).1 (by decide) (by decide) ?_
            show own_S p e below T26 (mkF m 69 (own_AIIIIIRU p0 p1 p2 v7 r8_s0 r26) []) _
            refine XS.iload X26.here hx rfl (hb hby at_69) rfl ?_
            exact k
          by_cases hc71 : r8_s0 = (0 : Int32)
          · rw [if_pos hc71] at hr31_l6
            have sg103 : ∀ t, own_S p e below T26 (mkF m 103 (own_AIIIIIRI p0 p1 p2 v7 r8_s0 r26 (1 : Int32)) []) t → own_S p e below T26 (mkF m 71 (own_AIIIIIRU p0 p1 p2 v7 r8_s0 r26) [(.int r8_s0)]) t := by
              intro t k
              show own_S p e below T26 (mkF m 71 (own_AIIIIIRU p0 p1 p2 v7 r8_s0 r26) [(.int r8_s0)]) _
              refine XS.ifYes X26.here hx rfl (pc0 := 71) (pc' := 80) rfl (hb hby at_71) rfl ((if0 _ _).trans (teq hc71).1) (by decide) (by decide) ?_
              show own_S p e below T26 (mkF m 80 (own_AIIIIIRU p0 p1 p2 v7 r8_s0 r26) []) _
              refine XS.iconst X26.here hx rfl (hb hby at_80) ?_
              show own_S p e below T26 (mkF m 81 (own_AIIIIIRU p0 p1 p2 v7 r8_s0 r26) [(.int (1 : Int32))]) _
              refine XS.goto X26.here hx rfl (pc0 := 81) (pc' := 85) rfl (hb hby at_81) (by decide) (by decide) ?_
              show own_S p e below T26 (mkF m 85 (own_AIIIIIRU p0 p1 p2 v7 r8_s0 r26) [(.int (1 : Int32))]) _
              refine XS.istore X26.here hx rfl (hb hby at_85) rfl (l' := (own_AIIIIIRI p0 p1 p2 v7 r8_s0 r26 (1 : Int32))) rfl ?_
              show own_S p e below T26 (mkF m 87 (own_AIIIIIRI p0 p1 p2 v7 r8_s0 r26 (1 : Int32)) []) _
              refine XS.goto X26.here hx rfl (pc0 := 87) (pc' := 103) rfl (hb hby at_87) (by decide) (by decide) ?_
              exact k
            rw [hr31_l6]
            exact fun t k => (sg33 t (sg39 t (sg60 t (sg71 t (sg103 t k)))))
          · rw [if_neg hc71] at hr31_l6
            have sg77 : ∀ t, own_S p e below T26 (mkF m 77 (own_AIIIIIRU p0 p1 p2 v7 r8_s0 r26) [(.int (1 : Int32)), (.int r8_s0)]) t → own_S p e below T26 (mkF m 71 (own_AIIIIIRU p0 p1 p2 v7 r8_s0 r26) [(.int r8_s0)]) t := by
              intro t k
              show own_S p e below T26 (mkF m 71 (own_AIIIIIRU p0 p1 p2 v7 r8_s0 r26) [(.int r8_s0)]) _
              refine XS.ifNo X26.here hx rfl (hb hby at_71) rfl ((if0 _ _).trans (feq hc71).1) ?_
              show own_S p e below T26 (mkF m 74 (own_AIIIIIRU p0 p1 p2 v7 r8_s0 r26) []) _
              refine XS.iload X26.here hx rfl (hb hby at_74) rfl ?_
              show own_S p e below T26 (mkF m 76 (own_AIIIIIRU p0 p1 p2 v7 r8_s0 r26) [(.int r8_s0)]) _
              refine XS.iconst X26.here hx rfl (hb hby at_76) ?_
              exact k
            by_cases hc77 : r8_s0 = (1 : Int32)
            · rw [if_pos hc77] at hr31_l6
              have sg103 : ∀ t, own_S p e below T26 (mkF m 103 (own_AIIIIIRI p0 p1 p2 v7 r8_s0 r26 (1 : Int32)) []) t → own_S p e below T26 (mkF m 77 (own_AIIIIIRU p0 p1 p2 v7 r8_s0 r26) [(.int (1 : Int32)), (.int r8_s0)]) t := by
                intro t k
                show own_S p e below T26 (mkF m 77 (own_AIIIIIRU p0 p1 p2 v7 r8_s0 r26) [(.int (1 : Int32)), (.int r8_s0)]) _
                refine XS.icmpNo X26.here hx rfl (hb hby at_77) rfl (teq hc77).2 ?_
                show own_S p e below T26 (mkF m 80 (own_AIIIIIRU p0 p1 p2 v7 r8_s0 r26) []) _
                refine XS.iconst X26.here hx rfl (hb hby at_80) ?_
                show own_S p e below T26 (mkF m 81 (own_AIIIIIRU p0 p1 p2 v7 r8_s0 r26) [(.int (1 : Int32))]) _
                refine XS.goto X26.here hx rfl (pc0 := 81) (pc' := 85) rfl (hb hby at_81) (by decide) (by decide) ?_
                show own_S p e below T26 (mkF m 85 (own_AIIIIIRU p0 p1 p2 v7 r8_s0 r26) [(.int (1 : Int32))]) _
                refine XS.istore X26.here hx rfl (hb hby at_85) rfl (l' := (own_AIIIIIRI p0 p1 p2 v7 r8_s0 r26 (1 : Int32))) rfl ?_
                show own_S p e below T26 (mkF m 87 (own_AIIIIIRI p0 p1 p2 v7 r8_s0 r26 (1 : Int32)) []) _
                refine XS.goto X26.here hx rfl (pc0 := 87) (pc' := 103) rfl (hb hby at_87) (by decide) (by decide) ?_
                exact k
              rw [hr31_l6]
              exact fun t k => (sg33 t (sg39 t (sg60 t (sg71 t (sg77 t (sg103 t k))))))
            · rw [if_neg hc77] at hr31_l6
              have sg103 : ∀ t, own_S p e below T26 (mkF m 103 (own_AIIIIIRI p0 p1 p2 v7 r8_s0 r26 (0 : Int32)) []) t → own_S p e below T26 (mkF m 77 (own_AIIIIIRU p0 p1 p2 v7 r8_s0 r26) [(.int (1 : Int32)), (.int r8_s0)]) t := by
                intro t k
                show own_S p e below T26 (mkF m 77 (own_AIIIIIRU p0 p1 p2 v7 r8_s0 r26) [(.int (1 : Int32)), (.int r8_s0)]) _
                refine XS.icmpYes X26.here hx rfl (pc0 := 77) (pc' := 84) rfl (hb hby at_77) rfl (feq hc77).2 (by decide) (by decide) ?_
                show own_S p e below T26 (mkF m 84 (own_AIIIIIRU p0 p1 p2 v7 r8_s0 r26) []) _
                refine XS.iconst X26.here hx rfl (hb hby at_84) ?_
                show own_S p e below T26 (mkF m 85 (own_AIIIIIRU p0 p1 p2 v7 r8_s0 r26) [(.int (0 : Int32))]) _
                refine XS.istore X26.here hx rfl (hb hby at_85) rfl (l' := (own_AIIIIIRI p0 p1 p2 v7 r8_s0 r26 (0 : Int32))) rfl ?_
                show own_S p e below T26 (mkF m 87 (own_AIIIIIRI p0 p1 p2 v7 r8_s0 r26 (0 : Int32)) []) _
                refine XS.goto X26.here hx rfl (pc0 := 87) (pc' := 103) rfl (hb hby at_87) (by decide) (by decide) ?_
                exact k
              rw [hr31_l6]
              exact fun t k => (sg33 t (sg39 t (sg60 t (sg71 t (sg77 t (sg103 t k))))))
        · rw [if_neg hc60] at hr31_l6
          have sg66 : ∀ t, own_S p e below T26 (mkF m 66 (own_AIIIIIRU p0 p1 p2 v7 r8_s0 r26) [(.int (10 : Int32)), (.int v7)]) t → own_S p e below T26 (mkF m 60 (own_AIIIIIRU p0 p1 p2 v7 r8_s0 r26) [(.int (9 : Int32)), (.int v7)]) t := by
            intro t k
            show own_S p e below T26 (mkF m 60 (own_AIIIIIRU p0 p1 p2 v7 r8_s0 r26) [(.int (9 : Int32)), (.int v7)]) _
            refine XS.icmpNo X26.here hx rfl (hb hby at_60) rfl (feq hc60).1 ?_
            show own_S p e below T26 (mkF m 63 (own_AIIIIIRU p0 p1 p2 v7 r8_s0 r26) []) _
            refine XS.iloadN X26.here hx rfl (hb hby at_63) rfl ?_
            show own_S p e below T26 (mkF m 64 (own_AIIIIIRU p0 p1 p2 v7 r8_s0 r26) [(.int v7)]) _
            refine XS.bipush X26.here hx rfl (hb hby at_64) ?_
            exact k
          by_cases hc66 : v7 = (10 : Int32)
          · rw [if_pos hc66] at hr31_l6
            have sg71 : ∀ t, own_S p e below T26 (mkF m 71 (own_AIIIIIRU p0 p1 p2 v7 r8_s0 r26) [(.int r8_s0)]) t → own_S p e below T26 (mkF m 66 (own_AIIIIIRU p0 p1 p2 v7 r8_s0 r26) [(.int (10 : Int32)), (.int v7)]) t := by
              intro t k
              show own_S p e below T26 (mkF m 66 (own_AIIIIIRU p0 p1 p2 v7 r8_s0 r26) [(.int (10 : Int32)), (.int v7)]) _
              refine XS.icmpNo X26.here hx rfl (hb hby at_66) rfl (teq hc66).2 ?_
              show own_S p e below T26 (mkF m 69 (own_AIIIIIRU p0 p1 p2 v7 r8_s0 r26) []) _
              refine XS.iload X26.here hx rfl (hb hby at_69) rfl ?_
              exact k
            by_cases hc71 : r8_s0 = (0 : Int32)
            · rw [if_pos hc71] at hr31_l6
              have sg103 : ∀ t, own_S p e below T26 (mkF m 103 (own_AIIIIIRI p0 p1 p2 v7 r8_s0 r26 (1 : Int32)) []) t → own_S p e below T26 (mkF m 71 (own_AIIIIIRU p0 p1 p2 v7 r8_s0 r26) [(.int r8_s0)]) t := by
                intro t k
                show own_S p e below T26 (mkF m 71 (own_AIIIIIRU p0 p1 p2 v7 r8_s0 r26) [(.int r8_s0)]) _
                refine XS.ifYes X26.here hx rfl (pc0 := 71) (pc' := 80) rfl (hb hby at_71) rfl ((if0 _ _).trans (teq hc71).1) (by decide) (by decide) ?_
                show own_S p e below T26 (mkF m 80 (own_AIIIIIRU p0 p1 p2 v7 r8_s0 r26) []) _
                refine XS.iconst X26.here hx rfl (hb hby at_80) ?_
                show own_S p e below T26 (mkF m 81 (own_AIIIIIRU p0 p1 p2 v7 r8_s0 r26) [(.int (1 : Int32))]) _
                refine XS.goto X26.here hx rfl (pc0 := 81) (pc' := 85) rfl (hb hby at_81) (by decide) (by decide) ?_
                show own_S p e below T26 (mkF m 85 (own_AIIIIIRU p0 p1 p2 v7 r8_s0 r26) [(.int (1 : Int32))]) _
                refine XS.istore X26.here hx rfl (hb hby at_85) rfl (l' := (own_AIIIIIRI p0 p1 p2 v7 r8_s0 r26 (1 : Int32))) rfl ?_
                show own_S p e below T26 (mkF m 87 (own_AIIIIIRI p0 p1 p2 v7 r8_s0 r26 (1 : Int32)) []) _
                refine XS.goto X26.here hx rfl (pc0 := 87) (pc' := 103) rfl (hb hby at_87) (by decide) (by decide) ?_
                exact k
              rw [hr31_l6]
              exact fun t k => (sg33 t (sg39 t (sg60 t (sg66 t (sg71 t (sg103 t k))))))
            · rw [if_neg hc71] at hr31_l6
              have sg77 : ∀ t, own_S p e below T26 (mkF m 77 (own_AIIIIIRU p0 p1 p2 v7 r8_s0 r26) [(.int (1 : Int32)), (.int r8_s0)]) t → own_S p e below T26 (mkF m 71 (own_AIIIIIRU p0 p1 p2 v7 r8_s0 r26) [(.int r8_s0)]) t := by
                intro t k
                show own_S p e below T26 (mkF m 71 (own_AIIIIIRU p0 p1 p2 v7 r8_s0 r26) [(.int r8_s0)]) _
                refine XS.ifNo X26.here hx rfl (hb hby at_71) rfl ((if0 _ _).trans (feq hc71).1) ?_
                show own_S p e below T26 (mkF m 74 (own_AIIIIIRU p0 p1 p2 v7 r8_s0 r26) []) _
                refine XS.iload X26.here hx rfl (hb hby at_74) rfl ?_
                show own_S p e below T26 (mkF m 76 (own_AIIIIIRU p0 p1 p2 v7 r8_s0 r26) [(.int r8_s0)]) _
                refine XS.iconst X26.here hx rfl (hb hby at_76) ?_
                exact k
              by_cases hc77 : r8_s0 = (1 : Int32)
              · rw [if_pos hc77] at hr31_l6
                have sg103 : ∀ t, own_S p e below T26 (mkF m 103 (own_AIIIIIRI p0 p1 p2 v7 r8_s0 r26 (1 : Int32)) []) t → own_S p e below T26 (mkF m 77 (own_AIIIIIRU p0 p1 p2 v7 r8_s0 r26) [(.int (1 : Int32)), (.int r8_s0)]) t := by
                  intro t k
                  show own_S p e below T26 (mkF m 77 (own_AIIIIIRU p0 p1 p2 v7 r8_s0 r26) [(.int (1 : Int32)), (.int r8_s0)]) _
                  refine XS.icmpNo X26.here hx rfl (hb hby at_77) rfl (teq hc77).2 ?_
                  show own_S p e below T26 (mkF m 80 (own_AIIIIIRU p0 p1 p2 v7 r8_s0 r26) []) _
                  refine XS.iconst X26.here hx rfl (hb hby at_80) ?_
                  show own_S p e below T26 (mkF m 81 (own_AIIIIIRU p0 p1 p2 v7 r8_s0 r26) [(.int (1 : Int32))]) _
                  refine XS.goto X26.here hx rfl (pc0 := 81) (pc' := 85) rfl (hb hby at_81) (by decide) (by decide) ?_
                  show own_S p e below T26 (mkF m 85 (own_AIIIIIRU p0 p1 p2 v7 r8_s0 r26) [(.int (1 : Int32))]) _
                  refine XS.istore X26.here hx rfl (hb hby at_85) rfl (l' := (own_AIIIIIRI p0 p1 p2 v7 r8_s0 r26 (1 : Int32))) rfl ?_
                  show own_S p e below T26 (mkF m 87 (own_AIIIIIRI p0 p1 p2 v7 r8_s0 r26 (1 : Int32)) []) _
                  refine XS.goto X26.here hx rfl (pc0 := 87) (pc' := 103) rfl (hb hby at_87) (by decide) (by decide) ?_
                  exact k
                rw [hr31_l6]
                exact fun t k => (sg33 t (sg39 t (sg60 t (sg66 t (sg71 t (sg77 t (sg103 t k)))))))
              · rw [if_neg hc77] at hr31_l6
                have sg103 : ∀ t, own_S p e below T26 (mkF m 103 (own_AIIIIIRI p0 p1 p2 v7 r8_s0 r26 (0 : Int32)) []) t → own_S p e below T26 (mkF m 77 (own_AIIIIIRU p0 p1 p2 v7 r8_s0 r26) [(.int (1 : Int32)), (.int r8_s0)]) t := by
                  intro t k
                  show own_S p e below T26 (mkF m 77 (own_AIIIIIRU p0 p1 p2 v7 r8_s0 r26) [(.int (1 : Int32)), (.int r8_s0)]) _
                  refine XS.icmpYes X26.here hx rfl (pc0 := 77) (pc' := 84) rfl (hb hby at_77) rfl (feq hc77).2 (by decide) (by decide) ?_
                  show own_S p e below T26 (mkF m 84 (own_AIIIIIRU p0 p1 p2 v7 r8_s0 r26) []) _
                  refine XS.iconst X26.here hx rfl (hb hby at_84) ?_
                  show own_S p e below T26 (mkF m 85 (own_AIIIIIRU p0 p1 p2 v7 r8_s0 r26) [(.int (0 : Int32))]) _
                  refine XS.istore X26.here hx rfl (hb hby at_85) rfl (l' := (own_AIIIIIRI p0 p1 p2 v7 r8_s0 r26 (0 : Int32))) rfl ?_
                  show own_S p e below T26 (mkF m 87 (own_AIIIIIRI p0 p1 p2 v7 r8_s0 r26 (0 : Int32)) []) _
                  refine XS.goto X26.here hx rfl (pc0 := 87) (pc' := 103) rfl (hb hby at_87) (by decide) (by decide) ?_
                  exact k
                rw [hr31_l6]
                exact fun t k => (sg33 t (sg39 t (sg60 t (sg66 t (sg71 t (sg77 t (sg103 t k)))))))
          · rw [if_neg hc66] at hr31_l6
            have sg93 : ∀ t, own_S p e below T26 (mkF m 93 (own_AIIIIIRU p0 p1 p2 v7 r8_s0 r26) [(.int (1 : Int32)), (.int r8_s0)]) t → own_S p e below T26 (mkF m 66 (own_AIIIIIRU p0 p1 p2 v7 r8_s0 r26) [(.int (10 : Int32)), (.int v7)]) t := by
              intro t k
              show own_S p e below T26 (mkF m 66 (own_AIIIIIRU p0 p1 p2 v7 r8_s0 r26) [(.int (10 : Int32)), (.int v7)]) _
              refine XS.icmpYes X26.here hx rfl (pc0 := 66) (pc' := 90) rfl (hb hby at_66) rfl (feq hc66).2 (by decide) (by decide) ?_
              show own_S p e below T26 (mkF m 90 (own_AIIIIIRU p0 p1 p2 v7 r8_s0 r26) []) _
              refine XS.iload X26.here hx rfl (hb hby at_90) rfl ?_
              show own_S p e below T26 (mkF m 92 (own_AIIIIIRU p0 p1 p2 v7 r8_s0 r26) [(.int r8_s0)]) _
              refine XS.iconst X26.here hx rfl (hb hby at_92) ?_
              exact k
            by_cases hc93 : r8_s0 = (1 : Int32)
            · rw [if_pos hc93] at hr31_l6
              have sg103 : ∀ t, own_S p e below T26 (mkF m 103 (own_AIIIIIRI p0 p1 p2 v7 r8_s0 r26 (1 : Int32)) []) t → own_S p e below T26 (mkF m 93 (own_AIIIIIRU p0 p1 p2 v7 r8_s0 r26) [(.int (1 : Int32)), (.int r8_s0)]) t := by
                intro t k
                show own_S p e below T26 (mkF m 93 (own_AIIIIIRU p0 p1 p2 v7 r8_s0 r26) [(.int (1 : Int32)), (.int r8_s0)]) _
                refine XS.icmpNo X26.here hx rfl (hb hby at_93) rfl (teq hc93).2 ?_
                show own_S p e below T26 (mkF m 96 (own_AIIIIIRU p0 p1 p2 v7 r8_s0 r26) []) _
                refine XS.iconst X26.here hx rfl (hb hby at_96) ?_
                show own_S p e below T26 (mkF m 97 (own_AIIIIIRU p0 p1 p2 v7 r8_s0 r26) [(.int (1 : Int32))]) _
                refine XS.goto X26.here hx rfl (pc0 := 97) (pc' := 101) rfl (hb hby at_97) (by decide) (by decide) ?_
                show own_S p e below T26 (mkF m 101 (own_AIIIIIRU p0 p1 p2 v7 r8_s0 r26) [(.int (1 : Int32))]) _
                refine XS.istore X26.here hx rfl (hb hby at_101) rfl (l' := (own_AIIIIIRI p0 p1 p2 v7 r8_s0 r26 (1 : Int32))) rfl ?_
                exact k
              rw [hr31_l6]
              exact fun t k => (sg33 t (sg39 t (sg60 t (sg66 t (sg93 t (sg103 t k))))))
            · rw [if_neg hc93] at hr31_l6
              have sg103 : ∀ t, own_S p e below T26 (mkF m 103 (own_AIIIIIRI p0 p1 p2 v7 r8_s0 r26 (0 : Int32)) []) t → own_S p e below T26 (mkF m 93 (own_AIIIIIRU p0 p1 p2 v7 r8_s0 r26) [(.int (1 : Int32)), (.int r8_s0)]) t := by
                intro t k
                show own_S p e below T26 (mkF m 93 (own_AIIIIIRU p0 p1 p2 v7 r8_s0 r26) [(.int (1 : Int32)), (.int r8_s0)]) _
                refine XS.icmpYes X26.here hx rfl (pc0 := 93) (pc' := 100) rfl (hb hby at_93) rfl (feq hc93).2 (by decide) (by decide) ?_
                show own_S p e below T26 (mkF m 100 (own_AIIIIIRU p0 p1 p2 v7 r8_s0 r26) []) _
                refine XS.iconst X26.here hx rfl (hb hby at_100) ?_
                show own_S p e below T26 (mkF m 101 (own_AIIIIIRU p0 p1 p2 v7 r8_s0 r26) [(.int (0 : Int32))]) _
                refine XS.istore X26.here hx rfl (hb hby at_101) rfl (l' := (own_AIIIIIRI p0 p1 p2 v7 r8_s0 r26 (0 : Int32))) rfl ?_
                exact k
              rw [hr31_l6]
              exact fun t k => (sg33 t (sg39 t (sg60 t (sg66 t (sg93 t (sg103 t k))))))
  refine own_by str31 ?_
  have sg107 : ∀ t, own_S p e below T26 (mkF m 107 (own_AIIIIIRI p0 p1 p2 v7 r8_s0 r26 r31_l6) [(.int r8_s0), (.ref r26)]) t → own_S p e below T26 (mkF m 103 (own_AIIIIIRI p0 p1 p2 v7 r8_s0 r26 r31_l6) []) t := by
    intro t k
    show own_S p e below T26 (mkF m 103 (own_AIIIIIRI p0 p1 p2 v7 r8_s0 r26 r31_l6) []) _
    refine XS.aload X26.here hx rfl (hb hby at_103) rfl rfl ?_
    show own_S p e below T26 (mkF m 105 (own_AIIIIIRI p0 p1 p2 v7 r8_s0 r26 r31_l6) [(.ref r26)]) _
    refine XS.iload X26.here hx rfl (hb hby at_105) rfl ?_
    exact k
  refine own_by sg107 ?_
  obtain ⟨cq107, kq107, q107a, q107b, q107c⟩ := isOf hZ hq26 E26
  obtain ⟨_, _, ⟨T107, L107, k107, n107⟩, -, X107, ⟨Lc107, hQ107, l107, y107, z107⟩, st107⟩ := X26.virtualBack hx (y := (⟨"com/example/forget_by_time/forgetbytime/cli/Command", "takesArguments", "(I)Z"⟩ : MethodName)) (z := (⟨"com/example/forget_by_time/forgetbytime/cli/Command", "takesArguments", "(I)Z"⟩ : MethodName)) hown (mvT hZ (hw _ (List.mem_of_getElem? (i := 8) rfl))) (mvT hZ (hw _ (List.mem_of_getElem? (i := 9) rfl))) (notFace_of_selects (args := #[]) (mvT hZ (hw _ (List.mem_of_getElem? (i := 11) rfl)))) (mvT hZ (hw _ (List.mem_of_getElem? (i := 11) rfl))) (mvT hZ (hw _ (List.mem_of_getElem? (i := 10) rfl))) (by decide) (backOf (W := 0) (rm2 l Z a0 hw [] r26 r8_s0 (own_lo v7) (own_hi v7) h0 n0 Z0 F26 M26) hZ (hw _ (List.mem_of_getElem? (i := 12) rfl)) (hw _ (List.mem_of_getElem? (i := 6) rfl)) (by decide) (by decide)) q107a q107c (g := (mkF m 107 (own_AIIIIIRI p0 p1 p2 v7 r8_s0 r26 r31_l6) [(.int r8_s0), (.ref r26)])) rfl (by rw [hml]; rfl) (Steps.refl _) (argsL := [(.int r8_s0)]) (rest := []) (lenOf pd_0_1 rfl) rfl (by show 2 * 0 + _ ≤ _; exact Nat.le_of_eq rfl) (hb hby at_107) (fun _ _ => ⟨rfl, hq26, (by decide : 0 + 0 ≤ _), (by decide : 0 + 0 ≤ _)⟩)
  dsimp only [Pt.U, Pt.locs, Pt.cells, Pt.slots] at X107 l107 y107 z107 st107 hQ107
  subst l107 y107 z107
  obtain ⟨rfl, N107q, hq107⟩ := hQ107
  have N107 := Fr.app N26 N107q
  obtain ⟨c107, hc107⟩ : ∃ z : Int32, z = (if r8_s0 < own_lo v7 then (0 : Int32) else if own_hi v7 < r8_s0 then (0 : Int32) else (1 : Int32)) := ⟨_, rfl⟩
  rw [← hc107] at st107
  refine own_by (fun t k => st107.trans k) ?_
  have sg120 : ∀ t, own_S p e below T107 (mkF m 120 (own_AIIIIIRI p0 p1 p2 v7 r8_s0 r26 r31_l6) [(.int (1 : Int32))]) t → own_S p e below T107 (mkF m 110 (own_AIIIIIRI p0 p1 p2 v7 r8_s0 r26 r31_l6) [(.int c107)]) t := by
    intro t k
    show own_S p e below T107 (mkF m 110 (own_AIIIIIRI p0 p1 p2 v7 r8_s0 r26 r31_l6) [(.int c107)]) _
    refine XS.iload X107.here hx rfl (hb hby at_110) rfl ?_
    show own_S p e below T107 (mkF m 112 (own_AIIIIIRI p0 p1 p2 v7 r8_s0 r26 r31_l6) [(.int r31_l6), (.int c107)]) _
    refine XS.icmpNo X107.here hx rfl (hb hby at_112) rfl (teq (by rw [hc107, hr31_l6]; exact own_law _ _ (by rw [hv7]; exact own_m12 _) : c107 = r31_l6)).2 ?_
    show own_S p e below T107 (mkF m 115 (own_AIIIIIRI p0 p1 p2 v7 r8_s0 r26 r31_l6) []) _
    refine XS.iconst X107.here hx rfl (hb hby at_115) ?_
    show own_S p e below T107 (mkF m 116 (own_AIIIIIRI p0 p1 p2 v7 r8_s0 r26 r31_l6) [(.int (1 : Int32))]) _
    refine XS.goto X107.here hx rfl (pc0 := 116) (pc' := 120) rfl (hb hby at_116) (by decide) (by decide) ?_
    exact k
  refine own_by sg120 ?_
  obtain ⟨fs, hr, hrun, hended, hW, hsame⟩ := X107.leave (v := some (.int (1 : Int32))) (fun h => by rw [Bd.returns] at h; cases h)
  refine ⟨_, _, ?_, hrun, hended, _, _, rfl, ?_, ⟨_, rfl⟩, hW, hsame.mono (by decide) (by decide)⟩
  · exact retN X107 hx (t := .boolean) Bd.returns (by simp) (hb hby at_120) hr
  · show Q0 Z p0 p1 p2 wSET_COLUMN wSET_MANAGED wSET_EXPRESSION wGET wLIST wPAUSE wRESUME wRESET wEXPIRY wSWEEP wSTATUS wRUN h0 n0 _ T107.heap _
    rw [hq107]
    exact ⟨rfl, N107⟩
set_option maxRecDepth 65536 in
set_option maxHeartbeats 40000000 in
theorem comes_1 {Post : Tables → Env → Array Value → State → Outcome → State → Prop} (hpost : ∀ tb e args s v u, (limb_1_1.after args s (.returned v) u = true ∧ limb_1_2.after args s (.returned v) u = true ∧ True) → FrameEnd s (.returned v) u (Jvm.fieldLocs frame_1_writes args s ++ Jvm.arrayLocs frame_1_arrays args s ++ Jvm.staticLocs frame_1_statics s) 0 0 → Post tb e args s (.returned v) u) :
    ArmFor flags0 classFile x code maxLocals ret World_1 tables_1 room_1 Calls_1 rest_1 Pre_1 Post := by
  intro l hfl _ _ p e ha hc hk s m args below hf hA hF happ hP
  obtain ⟨hcalls, hrest, hpre⟩ := hP
  obtain ⟨-, -, -, hnamed, -, -, -, hat⟩ := (Spec.applies_iff hf).mp happ
  obtain ⟨hg, nn⟩ := and_e (Cond.before_iff.mp (show (Jvm.Cond.and given_1 narrow_1).before args s = true from hpre))
  obtain ⟨hh0, hh1⟩ := and_e hg
  obtain ⟨hh2, hh3⟩ := and_e hh1
  obtain ⟨hh4, hh5⟩ := and_e hh3
  obtain ⟨w0, w1, w2, rfl⟩ : ∃ w0 w1 w2 : Value, args = #[w0, w1, w2] := by
    have hs : args.size = 3 := by simpa [Cond.value, given_1] using hh0
    obtain ⟨L⟩ := args
    match L, hs with
    | [w0, w1, w2], _ => exact ⟨w0, w1, w2, rfl⟩
  have hw := fun d (hd : d ∈ tables_1) => atoms_spec (ws := Jvm.Cond.code x code maxLocals ret :: tables_1) hat d (List.mem_cons_of_mem _ hd)
  have hfit : Fit s := fun {y c} hc i hi => by
    obtain ⟨ha, rfl⟩ := Array.getElem?_eq_some_iff.mp hc
    have q := List.all_eq_true.mp ((Array.all_eq_true_iff_forall_mem.mp hF) _ (Array.getElem_mem ha)) i (List.mem_range.mpr hi)
    simpa [Array.getElem?_eq_getElem hi] using q
  obtain ⟨i0, ei0⟩ := is_v hh2
  obtain rfl : w0 = (.int i0) := Option.some.inj ei0
  obtain ⟨i1, ei1⟩ := is_v hh4
  obtain rfl : w1 = (.int i1) := Option.some.inj ei1
  obtain ⟨i2, ei2⟩ := is_v hh5
  obtain rfl : w2 = (.int i2) := Option.some.inj ei2
  obtain ⟨nn0, nn1⟩ := and_e nn
  obtain ⟨nn2, nn3⟩ := and_e nn1
  obtain ⟨nn4, nn5⟩ := and_e nn3
  obtain ⟨nn6, nn7⟩ := and_e nn5
  obtain ⟨nn8, nn9⟩ := and_e nn7
  obtain ⟨nn10, nn11⟩ := and_e nn9
  obtain ⟨nn12, nn13⟩ := and_e nn11
  obtain ⟨nn14, nn15⟩ := and_e nn13
  obtain ⟨nn16, nn17⟩ := and_e nn15
  obtain ⟨nn18, nn19⟩ := and_e nn17
  obtain ⟨nn20, nn21⟩ := and_e nn19
  obtain ⟨nn22, nn23⟩ := and_e nn21
  obtain ⟨nn24, nn25⟩ := and_e nn23
  obtain ⟨nn26, nn27⟩ := and_e nn25
  obtain ⟨nn28, nn29⟩ := and_e nn27
  obtain ⟨nn30, nn31⟩ := and_e nn29
  obtain ⟨nn32, nn33⟩ := and_e nn31
  obtain ⟨nn34, nn35⟩ := and_e nn33
  obtain ⟨nn36, nn37⟩ := and_e nn35
  obtain ⟨nn38, nn39⟩ := and_e nn37
  obtain ⟨nn40, nn41⟩ := and_e nn39
  obtain ⟨nn42, nn43⟩ := and_e nn41
  obtain ⟨nn44, nn45⟩ := and_e nn43
  obtain ⟨nn46, nn47⟩ := and_e nn45
  obtain ⟨nn48, nn49⟩ := and_e nn47
  obtain ⟨nn50, nn51⟩ := and_e nn49
  obtain ⟨nn52, nn53⟩ := and_e nn51
  obtain ⟨nn54, nn55⟩ := and_e nn53
  obtain ⟨nn56, nn57⟩ := and_e nn55
  obtain ⟨nn58, nn59⟩ := and_e nn57
  obtain ⟨nn60, nn61⟩ := and_e nn59
  obtain ⟨nn62, nn63⟩ := and_e nn61
  obtain ⟨nn64, nn65⟩ := and_e nn63
  obtain ⟨nn66, nn67⟩ := and_e nn65
  obtain ⟨nn68, nn69⟩ := and_e nn67
  obtain ⟨u_SET_COLUMN, ev_u_SET_COLUMN⟩ := exa_v nn0
  have Ex_u_SET_COLUMN := Exa.start ev_u_SET_COLUMN nn0
  have St_u_SET_COLUMN := Sta.start ev_u_SET_COLUMN (Or.inr ⟨(hw _ (List.mem_of_getElem? (i := 6) rfl)), (hw _ (List.mem_of_getElem? (i := 7) rfl))⟩)
  obtain ⟨u_SET_MANAGED, ev_u_SET_MANAGED⟩ := exa_v nn6
  have Ex_u_SET_MANAGED := Exa.start ev_u_SET_MANAGED nn6
  have St_u_SET_MANAGED := Sta.start ev_u_SET_MANAGED (Or.inr ⟨(hw _ (List.mem_of_getElem? (i := 6) rfl)), (hw _ (List.mem_of_getElem? (i := 18) rfl))⟩)
  obtain ⟨u_EXPIRY, ev_u_EXPIRY⟩ := exa_v nn12
  have Ex_u_EXPIRY := Exa.start ev_u_EXPIRY nn12
  have St_u_EXPIRY := Sta.start ev_u_EXPIRY (Or.inr ⟨(hw _ (List.mem_of_getElem? (i := 6) rfl)), (hw _ (List.mem_of_getElem? (i := 20) rfl))⟩)
  obtain ⟨u_RUN, ev_u_RUN⟩ := exa_v nn18
  have Ex_u_RUN := Exa.start ev_u_RUN nn18
  have St_u_RUN := Sta.start ev_u_RUN (Or.inr ⟨(hw _ (List.mem_of_getElem? (i := 6) rfl)), (hw _ (List.mem_of_getElem? (i := 22) rfl))⟩)
  obtain ⟨u_RESUME, ev_u_RESUME⟩ := exa_v nn24
  have Ex_u_RESUME := Exa.start ev_u_RESUME nn24
  have St_u_RESUME := Sta.start ev_u_RESUME (Or.inr ⟨(hw _ (List.mem_of_getElem? (i := 6) rfl)), (hw _ (List.mem_of_getElem? (i := 24) rfl))⟩)
  obtain ⟨u_RESET, ev_u_RESET⟩ := exa_v nn28
  have Ex_u_RESET := Exa.start ev_u_RESET nn28
  have St_u_RESET := Sta.start ev_u_RESET (Or.inr ⟨(hw _ (List.mem_of_getElem? (i := 6) rfl)), (hw _ (List.mem_of_getElem? (i := 26) rfl))⟩)
  obtain ⟨u_GET, ev_u_GET⟩ := exa_v nn34
  have Ex_u_GET := Exa.start ev_u_GET nn34
  have St_u_GET := Sta.start ev_u_GET (Or.inr ⟨(hw _ (List.mem_of_getElem? (i := 6) rfl)), (hw _ (List.mem_of_getElem? (i := 28) rfl))⟩)
  obtain ⟨u_STATUS, ev_u_STATUS⟩ := exa_v nn38
  have Ex_u_STATUS := Exa.start ev_u_STATUS nn38
  have St_u_STATUS := Sta.start ev_u_STATUS (Or.inr ⟨(hw _ (List.mem_of_getElem? (i := 6) rfl)), (hw _ (List.mem_of_getElem? (i := 30) rfl))⟩)
  obtain ⟨u_LIST, ev_u_LIST⟩ := exa_v nn44
  have Ex_u_LIST := Exa.start ev_u_LIST nn44
  have St_u_LIST := Sta.start ev_u_LIST (Or.inr ⟨(hw _ (List.mem_of_getElem? (i := 6) rfl)), (hw _ (List.mem_of_getElem? (i := 32) rfl))⟩)
  obtain ⟨u_PAUSE, ev_u_PAUSE⟩ := exa_v nn50
  have Ex_u_PAUSE := Exa.start ev_u_PAUSE nn50
  have St_u_PAUSE := Sta.start ev_u_PAUSE (Or.inr ⟨(hw _ (List.mem_of_getElem? (i := 6) rfl)), (hw _ (List.mem_of_getElem? (i := 34) rfl))⟩)
  obtain ⟨u_SET_EXPRESSION, ev_u_SET_EXPRESSION⟩ := exa_v nn56
  have Ex_u_SET_EXPRESSION := Exa.start ev_u_SET_EXPRESSION nn56
  have St_u_SET_EXPRESSION := Sta.start ev_u_SET_EXPRESSION (Or.inr ⟨(hw _ (List.mem_of_getElem? (i := 6) rfl)), (hw _ (List.mem_of_getElem? (i := 36) rfl))⟩)
  obtain ⟨u_SWEEP, ev_u_SWEEP⟩ := exa_v nn64
  have Ex_u_SWEEP := Exa.start ev_u_SWEEP nn64
  have St_u_SWEEP := Sta.start ev_u_SWEEP (Or.inr ⟨(hw _ (List.mem_of_getElem? (i := 6) rfl)), (hw _ (List.mem_of_getElem? (i := 38) rfl))⟩)
  have Fl_u_SET_COLUMN_fewestArguments := own_fld ev_u_SET_COLUMN nn2
  have Fl_u_SET_COLUMN_mostArguments := own_fld ev_u_SET_COLUMN nn4
  have Fl_u_SET_MANAGED_fewestArguments := own_fld ev_u_SET_MANAGED nn8
  have Fl_u_SET_MANAGED_mostArguments := own_fld ev_u_SET_MANAGED nn10
  have Fl_u_EXPIRY_fewestArguments := own_fld ev_u_EXPIRY nn14
  have Fl_u_EXPIRY_mostArguments := own_fld ev_u_EXPIRY nn16
  have Fl_u_RUN_fewestArguments := own_fld ev_u_RUN nn20
  have Fl_u_RUN_mostArguments := own_fld ev_u_RUN nn22
  have Fl_u_RESUME_fewestArguments := own_fld ev_u_RESUME nn26
  have Fl_u_RESET_fewestArguments := own_fld ev_u_RESET nn30
  have Fl_u_RESET_mostArguments := own_fld ev_u_RESET nn32
  have Fl_u_GET_fewestArguments := own_fld ev_u_GET nn36
  have Fl_u_STATUS_fewestArguments := own_fld ev_u_STATUS nn40
  have Fl_u_STATUS_mostArguments := own_fld ev_u_STATUS nn42
  have Fl_u_LIST_fewestArguments := own_fld ev_u_LIST nn46
  have Fl_u_LIST_mostArguments := own_fld ev_u_LIST nn48
  have Fl_u_PAUSE_fewestArguments := own_fld ev_u_PAUSE nn52
  have Fl_u_PAUSE_mostArguments := own_fld ev_u_PAUSE nn54
  have Fl_u_SET_EXPRESSION_fewestArguments := own_fld ev_u_SET_EXPRESSION nn58
  have Fl_u_SET_EXPRESSION_mostArguments := own_fld ev_u_SET_EXPRESSION nn60
  have Fl_u_GET_mostArguments := own_fld ev_u_GET nn62
  have Fl_u_SWEEP_fewestArguments := own_fld ev_u_SWEEP nn66
  have Fl_u_SWEEP_mostArguments := own_fld ev_u_SWEEP nn68
  have Fl_u_RESUME_mostArguments := own_fld ev_u_RESUME nn69
  obtain ⟨n, o, h1, h2, h3, _, L, rfl, ⟨rfl, N⟩, hq⟩ := rm0 l s _ hw tables_1 i0 i1 i2 u_SET_COLUMN u_SET_MANAGED u_SET_EXPRESSION u_GET u_LIST u_PAUSE u_RESUME u_RESET u_EXPIRY u_SWEEP u_STATUS u_RUN s.heap s.heap.size (Nat.le_refl _) St_u_SET_COLUMN St_u_SET_MANAGED St_u_SET_EXPRESSION St_u_GET St_u_LIST St_u_PAUSE St_u_RESUME St_u_RESET St_u_EXPIRY St_u_SWEEP St_u_STATUS St_u_RUN Ex_u_SET_COLUMN Ex_u_SET_MANAGED Ex_u_SET_EXPRESSION Ex_u_GET Ex_u_LIST Ex_u_PAUSE Ex_u_RESUME Ex_u_RESET Ex_u_EXPIRY Ex_u_SWEEP Ex_u_STATUS Ex_u_RUN Fl_u_SET_COLUMN_fewestArguments Fl_u_SET_MANAGED_fewestArguments Fl_u_SET_EXPRESSION_fewestArguments Fl_u_GET_fewestArguments Fl_u_LIST_fewestArguments Fl_u_PAUSE_fewestArguments Fl_u_RESUME_fewestArguments Fl_u_RESET_fewestArguments Fl_u_EXPIRY_fewestArguments Fl_u_SWEEP_fewestArguments Fl_u_STATUS_fewestArguments Fl_u_RUN_fewestArguments Fl_u_SET_COLUMN_mostArguments Fl_u_SET_MANAGED_mostArguments Fl_u_SET_EXPRESSION_mostArguments Fl_u_GET_mostArguments Fl_u_LIST_mostArguments Fl_u_PAUSE_mostArguments Fl_u_RESUME_mostArguments Fl_u_RESET_mostArguments Fl_u_EXPIRY_mostArguments Fl_u_SWEEP_mostArguments Fl_u_STATUS_mostArguments Fl_u_RUN_mostArguments p e ha hc hk s m _ below hf ((Spec.applies_iff_loose hf).mp happ).1 ⟨rfl, State.Warmed39.refl s, rfl⟩ trivial
  refine ⟨n, _, h1, h2, h3, hpost _ _ _ _ _ _ ⟨Cond.after_iff.mpr rfl, Cond.after_iff.mpr (eq_i res_at (Term.int_eval (1)) rfl), trivial⟩ ⟨hq.1, hq.2.1, (hq.2.2.sift fun y hy => Or.inr (N y hy)).mono (by decide) (by decide)⟩⟩
theorem main_1_1 : Claimed_1_1 := comes_1 fun _ _ _ _ _ _ h hF => ⟨h.1, hF⟩
theorem main_1_2 : Claimed_1_2 := comes_1 fun _ _ _ _ _ _ h hF => ⟨h.2.1, hF⟩
end Jvm.Pilot.@@N@@
namespace Jvm.Pilot.@@N@@
open Jvm Jvm.ClassFile Sem Op Lib Jvm.Free Jvm.Stand Jvm.Pilot.@@N@@.Jvm.D
/-! MADE BY PROGRAM (witnessworld.py) out of the Statement's table words and the real class files: 12 classes; the members and pool entries that the words name. The judged class is class 1, her method 1. -/
namespace start1
open Jvm.ClassFile
def u (s : String) : CpInfo := .utf8 (stringToUtf16 s)
/-- a pool by its gaps: so many unusable entries, then the entry; so many at the end -/
def gap : Nat → List CpInfo → List CpInfo
  | 0, r => r
  | n + 1, r => .unusable :: gap n r
def poolList (es : List (Nat × CpInfo)) (last : Nat) : List CpInfo := es.foldr (fun e r => gap e.1 (e.2 :: r)) (gap last [])
def pool (es : List (Nat × CpInfo)) (last : Nat) : Array CpInfo := ⟨poolList es last⟩
def fileOf (pool : Array CpInfo) (this : Nat) (attrs : Array Attribute := #[]) (ms : Array MethodInfo := #[]) (fl : Nat := 33) (sup : Nat := 0) (ifs : Array Nat := #[]) (fds : Array FieldInfo := #[]) : ClassFile where
  minorVersion := 0
  majorVersion := 65
  constantPool := pool
  accessFlags := fl
  thisClass := this
  superClass := sup
  interfaces := ifs
  fields := fds
  methods := ms
  attributes := attrs
def plain (name : String) (sup : Option ClassId) : Class where
  name := name
  kind := .ordinary
  loader := none
  accessFlags := 33
  super := sup
  interfaces := #[]
  cf := none
  fields := #[]
  methods := #[]
  instanceTypes := #[]
  staticTypes := #[]
  resolved := #[]
  callSites := []
  init := .initialized
  statics := none
  mirror := none

def pool0 : Array CpInfo := pool [(5, u "<init>"), (0, u "()V"), (1, .class_ 10), (1, u "java/lang/Object")] 113

def k0m0 : Method := { name := "<init>", desc := "()V", sig := { parameters := [], returnType := none }, accessFlags := 1, code := none }
/-- java/lang/Object -/
def k0 : Class := { plain "java/lang/Object" none with
  accessFlags := 33
  interfaces := #[]
  cf := some (fileOf pool0 8 #[] #[{ accessFlags := 1, nameIndex := 5, descriptorIndex := 6, attributes := #[] }] 33 0 #[] #[])
  fields := #[]
  methods := #[k0m0]
  instanceTypes := #[]
  staticTypes := #[]
  resolved := Array.replicate 124 none
  statics := none }

def pool1 : Array CpInfo := pool [(2, .class_ 4), (1, u "java/lang/Object"), (0, u "<init>"), (0, u "()V"), (0, .integer 2147483647), (0, .methodref 9 10), (0, .class_ 11), (0, .nameAndType 12 13), (0, u "com/example/forget_by_time/forgetbytime/cli/CommandTakesArgumentsPinLaw"), (0, u "pick"), (0, u "(I)Lcom/example/forget_by_time/forgetbytime/cli/Command;"), (0, .methodref 15 16), (0, .class_ 17), (0, .nameAndType 18 19), (0, u "com/example/forget_by_time/forgetbytime/cli/Command"), (0, u "takesArguments"), (0, u "(I)Z"), (0, .fieldref 15 21), (0, .nameAndType 22 23), (0, u "SET_COLUMN"), (0, u "Lcom/example/forget_by_time/forgetbytime/cli/Command;"), (0, .fieldref 15 25), (0, .nameAndType 26 23), (0, u "SET_MANAGED"), (0, .fieldref 15 28), (0, .nameAndType 29 23), (0, u "SET_EXPRESSION"), (0, .fieldref 15 31), (0, .nameAndType 32 23), (0, u "GET"), (0, .fieldref 15 34), (0, .nameAndType 35 23), (0, u "LIST"), (0, .fieldref 15 37), (0, .nameAndType 38 23), (0, u "PAUSE"), (0, .fieldref 15 40), (0, .nameAndType 41 23), (0, u "RESUME"), (0, .fieldref 15 43), (0, .nameAndType 44 23), (0, u "RESET"), (0, .fieldref 15 46), (0, .nameAndType 47 23), (0, u "EXPIRY"), (0, .fieldref 15 49), (0, .nameAndType 50 23), (0, u "SWEEP"), (0, .fieldref 15 52), (0, .nameAndType 53 23), (0, u "STATUS"), (0, .fieldref 15 55), (0, .nameAndType 56 23), (0, u "RUN"), (2, u "law"), (0, u "(III)Z")] 3

def k1m0 : Method := { name := "<init>", desc := "()V", sig := { parameters := [], returnType := none }, accessFlags := 1, code := none }
def k1c1 : Code := { maxStack := 2, maxLocals := 7, code := code, exceptionTable := #[], attributes := #[] }
def k1m1 : Method := { name := "law", desc := "(III)Z", sig := { parameters := [.int, .int, .int], returnType := some .boolean }, accessFlags := 9, code := some k1c1 }
def k1c2 : Code := { maxStack := 2, maxLocals := 1, code := method_3_code, exceptionTable := #[], attributes := #[] }
def k1m2 : Method := { name := "pick", desc := "(I)Lcom/example/forget_by_time/forgetbytime/cli/Command;", sig := { parameters := [.int], returnType := some (.object "com/example/forget_by_time/forgetbytime/cli/Command") }, accessFlags := 10, code := some k1c2 }
/-- com/example/forget_by_time/forgetbytime/cli/CommandTakesArgumentsPinLaw -/
def k1 : Class := { plain "com/example/forget_by_time/forgetbytime/cli/CommandTakesArgumentsPinLaw" (some 0) with
  accessFlags := 49
  interfaces := #[]
  cf := some (fileOf pool1 9 #[] #[{ accessFlags := 1, nameIndex := 5, descriptorIndex := 6, attributes := #[] }, { accessFlags := 9, nameIndex := 59, descriptorIndex := 60, attributes := #[] }, { accessFlags := 10, nameIndex := 12, descriptorIndex := 13, attributes := #[] }] 49 2 #[] #[])
  fields := #[]
  methods := #[k1m0, k1m1, k1m2]
  instanceTypes := #[]
  staticTypes := #[]
  resolved := Array.replicate 64 none
  statics := none }

def pool2 : Array CpInfo := pool [(1, .class_ 2), (0, u "java/lang/constant/Constable"), (0, .class_ 4), (0, u "java/lang/Object")] 6

/-- java/lang/constant/Constable -/
def k2 : Class := { plain "java/lang/constant/Constable" (some 0) with
  accessFlags := 1537
  interfaces := #[]
  cf := some (fileOf pool2 1 #[] #[] 1537 3 #[] #[])
  fields := #[]
  methods := #[]
  instanceTypes := #[]
  staticTypes := #[]
  resolved := Array.replicate 11 none
  statics := none }

def pool3 : Array CpInfo := pool [(1, .class_ 2), (0, u "java/lang/Comparable"), (0, .class_ 4), (0, u "java/lang/Object")] 7

/-- java/lang/Comparable -/
def k3 : Class := { plain "java/lang/Comparable" (some 0) with
  accessFlags := 1537
  interfaces := #[]
  cf := some (fileOf pool3 1 #[] #[] 1537 3 #[] #[])
  fields := #[]
  methods := #[]
  instanceTypes := #[]
  staticTypes := #[]
  resolved := Array.replicate 12 none
  statics := none }

def pool4 : Array CpInfo := pool [(1, .class_ 2), (0, u "java/io/Serializable"), (0, .class_ 4), (0, u "java/lang/Object")] 2

/-- java/io/Serializable -/
def k4 : Class := { plain "java/io/Serializable" (some 0) with
  accessFlags := 1537
  interfaces := #[]
  cf := some (fileOf pool4 1 #[] #[] 1537 3 #[] #[])
  fields := #[]
  methods := #[]
  instanceTypes := #[]
  staticTypes := #[]
  resolved := Array.replicate 7 none
  statics := none }

def pool5 : Array CpInfo := pool [(2, .class_ 4), (1, u "java/lang/Enum"), (0, u "name"), (0, u "Ljava/lang/String;"), (2, u "ordinal"), (0, u "I"), (1, .class_ 14), (1, u "java/lang/Object"), (4, u "hash"), (86, .class_ 108), (1, u "java/lang/Enum$EnumDesc"), (2, .class_ 112), (0, u "java/lang/constant/Constable"), (0, .class_ 114), (0, u "java/lang/Comparable"), (0, .class_ 116), (0, u "java/io/Serializable")] 87

/-- java/lang/Enum -/
def k5 : Class := { plain "java/lang/Enum" (some 0) with
  accessFlags := 1057
  interfaces := #[2, 3, 4]
  cf := some (fileOf pool5 2 #[.nestMembers #[106]] #[] 1057 12 #[111, 113, 115] #[{ accessFlags := 18, nameIndex := 5, descriptorIndex := 6, attributes := #[] }, { accessFlags := 18, nameIndex := 9, descriptorIndex := 10, attributes := #[] }, { accessFlags := 2, nameIndex := 19, descriptorIndex := 10, attributes := #[] }])
  fields := #[{ name := "name", type := (.object "java/lang/String"), accessFlags := 18, slot := 0, constantValue := 0 }, { name := "ordinal", type := .int, accessFlags := 18, slot := 1, constantValue := 0 }, { name := "hash", type := .int, accessFlags := 2, slot := 2, constantValue := 0 }]
  methods := #[]
  instanceTypes := #[(.object "java/lang/String"), .int, .int]
  staticTypes := #[]
  resolved := Array.replicate 204 none
  statics := none }

def pool6 : Array CpInfo := pool [(1, .class_ 2), (0, u "com/example/forget_by_time/forgetbytime/cli/Command"), (2, u "SET_COLUMN"), (0, u "Lcom/example/forget_by_time/forgetbytime/cli/Command;"), (2, u "SET_MANAGED"), (2, u "SET_EXPRESSION"), (2, u "GET"), (2, u "LIST"), (2, u "PAUSE"), (2, u "RESUME"), (2, u "RESET"), (2, u "EXPIRY"), (2, u "SWEEP"), (2, u "STATUS"), (2, u "RUN"), (2, u "$VALUES"), (0, u "[Lcom/example/forget_by_time/forgetbytime/cli/Command;"), (6, .class_ 52), (1, u "java/lang/Enum"), (8, u "synopsis"), (0, u "Ljava/lang/String;"), (2, u "summary"), (0, .fieldref 1 67), (0, .nameAndType 68 69), (0, u "fewestArguments"), (0, u "I"), (0, .fieldref 1 71), (0, .nameAndType 72 69), (0, u "mostArguments"), (2, u "options"), (0, u "Ljava/util/List;"), (2, u "requiredOptions"), (190, u "DB"), (19, u "takesArguments"), (0, u "(I)Z")] 54

def k6c0 : Code := { maxStack := 2, maxLocals := 2, code := prog_1_method_10_code, exceptionTable := #[], attributes := #[] }
def k6m0 : Method := { name := "takesArguments", desc := "(I)Z", sig := { parameters := [.int], returnType := some .boolean }, accessFlags := 0, code := some k6c0 }
/-- com/example/forget_by_time/forgetbytime/cli/Command -/
def k6 : Class := { plain "com/example/forget_by_time/forgetbytime/cli/Command" (some 5) with
  accessFlags := 16432
  interfaces := #[]
  cf := some (fileOf pool6 1 #[] #[{ accessFlags := 0, nameIndex := 290, descriptorIndex := 291, attributes := #[] }] 16432 50 #[] #[{ accessFlags := 16409, nameIndex := 5, descriptorIndex := 6, attributes := #[] }, { accessFlags := 16409, nameIndex := 9, descriptorIndex := 6, attributes := #[] }, { accessFlags := 16409, nameIndex := 12, descriptorIndex := 6, attributes := #[] }, { accessFlags := 16409, nameIndex := 15, descriptorIndex := 6, attributes := #[] }, { accessFlags := 16409, nameIndex := 18, descriptorIndex := 6, attributes := #[] }, { accessFlags := 16409, nameIndex := 21, descriptorIndex := 6, attributes := #[] }, { accessFlags := 16409, nameIndex := 24, descriptorIndex := 6, attributes := #[] }, { accessFlags := 16409, nameIndex := 27, descriptorIndex := 6, attributes := #[] }, { accessFlags := 16409, nameIndex := 30, descriptorIndex := 6, attributes := #[] }, { accessFlags := 16409, nameIndex := 33, descriptorIndex := 6, attributes := #[] }, { accessFlags := 16409, nameIndex := 36, descriptorIndex := 6, attributes := #[] }, { accessFlags := 16409, nameIndex := 39, descriptorIndex := 6, attributes := #[] }, { accessFlags := 24, nameIndex := 270, descriptorIndex := 62, attributes := #[] }, { accessFlags := 18, nameIndex := 61, descriptorIndex := 62, attributes := #[] }, { accessFlags := 18, nameIndex := 65, descriptorIndex := 62, attributes := #[] }, { accessFlags := 18, nameIndex := 68, descriptorIndex := 69, attributes := #[] }, { accessFlags := 18, nameIndex := 72, descriptorIndex := 69, attributes := #[] }, { accessFlags := 18, nameIndex := 75, descriptorIndex := 76, attributes := #[] }, { accessFlags := 18, nameIndex := 79, descriptorIndex := 76, attributes := #[] }, { accessFlags := 4122, nameIndex := 42, descriptorIndex := 43, attributes := #[] }])
  fields := #[{ name := "SET_COLUMN", type := (.object "com/example/forget_by_time/forgetbytime/cli/Command"), accessFlags := 16409, slot := 0, constantValue := 0 }, { name := "SET_MANAGED", type := (.object "com/example/forget_by_time/forgetbytime/cli/Command"), accessFlags := 16409, slot := 1, constantValue := 0 }, { name := "SET_EXPRESSION", type := (.object "com/example/forget_by_time/forgetbytime/cli/Command"), accessFlags := 16409, slot := 2, constantValue := 0 }, { name := "GET", type := (.object "com/example/forget_by_time/forgetbytime/cli/Command"), accessFlags := 16409, slot := 3, constantValue := 0 }, { name := "LIST", type := (.object "com/example/forget_by_time/forgetbytime/cli/Command"), accessFlags := 16409, slot := 4, constantValue := 0 }, { name := "PAUSE", type := (.object "com/example/forget_by_time/forgetbytime/cli/Command"), accessFlags := 16409, slot := 5, constantValue := 0 }, { name := "RESUME", type := (.object "com/example/forget_by_time/forgetbytime/cli/Command"), accessFlags := 16409, slot := 6, constantValue := 0 }, { name := "RESET", type := (.object "com/example/forget_by_time/forgetbytime/cli/Command"), accessFlags := 16409, slot := 7, constantValue := 0 }, { name := "EXPIRY", type := (.object "com/example/forget_by_time/forgetbytime/cli/Command"), accessFlags := 16409, slot := 8, constantValue := 0 }, { name := "SWEEP", type := (.object "com/example/forget_by_time/forgetbytime/cli/Command"), accessFlags := 16409, slot := 9, constantValue := 0 }, { name := "STATUS", type := (.object "com/example/forget_by_time/forgetbytime/cli/Command"), accessFlags := 16409, slot := 10, constantValue := 0 }, { name := "RUN", type := (.object "com/example/forget_by_time/forgetbytime/cli/Command"), accessFlags := 16409, slot := 11, constantValue := 0 }, { name := "DB", type := (.object "java/lang/String"), accessFlags := 24, slot := 12, constantValue := 0 }, { name := "synopsis", type := (.object "java/lang/String"), accessFlags := 18, slot := 3, constantValue := 0 }, { name := "summary", type := (.object "java/lang/String"), accessFlags := 18, slot := 4, constantValue := 0 }, { name := "fewestArguments", type := .int, accessFlags := 18, slot := 5, constantValue := 0 }, { name := "mostArguments", type := .int, accessFlags := 18, slot := 6, constantValue := 0 }, { name := "options", type := (.object "java/util/List"), accessFlags := 18, slot := 7, constantValue := 0 }, { name := "requiredOptions", type := (.object "java/util/List"), accessFlags := 18, slot := 8, constantValue := 0 }, { name := "$VALUES", type := (.array (.object "com/example/forget_by_time/forgetbytime/cli/Command")), accessFlags := 4122, slot := 13, constantValue := 0 }]
  methods := #[k6m0]
  instanceTypes := #[(.object "java/lang/String"), .int, .int, (.object "java/lang/String"), (.object "java/lang/String"), .int, .int, (.object "java/util/List"), (.object "java/util/List")]
  staticTypes := #[(.object "com/example/forget_by_time/forgetbytime/cli/Command"), (.object "com/example/forget_by_time/forgetbytime/cli/Command"), (.object "com/example/forget_by_time/forgetbytime/cli/Command"), (.object "com/example/forget_by_time/forgetbytime/cli/Command"), (.object "com/example/forget_by_time/forgetbytime/cli/Command"), (.object "com/example/forget_by_time/forgetbytime/cli/Command"), (.object "com/example/forget_by_time/forgetbytime/cli/Command"), (.object "com/example/forget_by_time/forgetbytime/cli/Command"), (.object "com/example/forget_by_time/forgetbytime/cli/Command"), (.object "com/example/forget_by_time/forgetbytime/cli/Command"), (.object "com/example/forget_by_time/forgetbytime/cli/Command"), (.object "com/example/forget_by_time/forgetbytime/cli/Command"), (.object "java/lang/String"), (.array (.object "com/example/forget_by_time/forgetbytime/cli/Command"))]
  resolved := Array.replicate 346 none
  statics := some 0 }

def pool7 : Array CpInfo := pool [(1, u "java/lang/Cloneable"), (0, .class_ 1), (0, u "java/lang/Object"), (0, .class_ 3)] 3

/-- java/lang/Cloneable -/
def k7 : Class := { plain "java/lang/Cloneable" (some 0) with
  accessFlags := 1537
  interfaces := #[]
  cf := some (fileOf pool7 2 #[] #[] 1537 4 #[] #[])
  fields := #[]
  methods := #[]
  instanceTypes := #[]
  staticTypes := #[]
  resolved := Array.replicate 8 none
  statics := none }

/-- the primitive byte -/
def k8 : Class := { plain "byte" none with kind := .primitive 'B', accessFlags := 0x411 }
/-- [B -/
def k9 : Class := { plain "[B" (some 0) with kind := .array 8 .byte, interfaces := #[7, 4], accessFlags := 1041 }

/-- the primitive int -/
def k10 : Class := { plain "int" none with kind := .primitive 'I', accessFlags := 0x411 }
/-- [I -/
def k11 : Class := { plain "[I" (some 0) with kind := .array 10 .int, interfaces := #[7, 4], accessFlags := 1041 }

def heap : Heap := #[{ cls := 6, slots := #[.ref 1, .ref 2, .ref 3, .ref 4, .ref 5, .ref 6, .ref 7, .ref 8, .ref 9, .ref 10, .ref 11, .ref 12, .null, .null], vm := .statics 6 },
  { cls := 6, slots := #[.null, .int 0, .int 0, .null, .null, .int 1, .int 1, .null, .null], vm := .none },
  { cls := 6, slots := #[.null, .int 1, .int 0, .null, .null, .int 1, .int 1, .null, .null], vm := .none },
  { cls := 6, slots := #[.null, .int 2, .int 0, .null, .null, .int 1, .int 1, .null, .null], vm := .none },
  { cls := 6, slots := #[.null, .int 3, .int 0, .null, .null, .int 1, .int 1, .null, .null], vm := .none },
  { cls := 6, slots := #[.null, .int 4, .int 0, .null, .null, .int 0, .int 0, .null, .null], vm := .none },
  { cls := 6, slots := #[.null, .int 5, .int 0, .null, .null, .int 1, .int 1, .null, .null], vm := .none },
  { cls := 6, slots := #[.null, .int 6, .int 0, .null, .null, .int 1, .int 1, .null, .null], vm := .none },
  { cls := 6, slots := #[.null, .int 7, .int 0, .null, .null, .int 1, .int 1, .null, .null], vm := .none },
  { cls := 6, slots := #[.null, .int 8, .int 0, .null, .null, .int 1, .int 1, .null, .null], vm := .none },
  { cls := 6, slots := #[.null, .int 9, .int 0, .null, .null, .int 0, .int 1, .null, .null], vm := .none },
  { cls := 6, slots := #[.null, .int 10, .int 0, .null, .null, .int 0, .int 1, .null, .null], vm := .none },
  { cls := 6, slots := #[.null, .int 11, .int 0, .null, .null, .int 0, .int 0, .null, .null], vm := .none }]
def classes : Array Class := #[k0, k1, k2, k3, k4, k5, k6, k7, k8, k9, k10, k11]
def interned : List (Array UInt16 × Addr) := []
def slotsUsed : Nat := 122
def theMethod : MethodId := ⟨1, 1⟩
def args0 : Array Value := #[.int 5, .int 6, .int 7]
def aboutOver (below : List Frame) : State where
  vm := { classes := classes, interned := interned.toArray }
  heap := heap
  slotsUsed := slotsUsed
  threads := #[{ frames := .invoking theMethod args0 :: below }]
def below0 : List Frame := [.native { method := ⟨0, 0⟩, args := #[] }]
def about1 : State := aboutOver below0
def p0 : Program := .bare "" "" ""
def e0 : Env := launch0.env 0 0 0
theorem w_frames : about1.frames = Frame.invoking theMethod args0 :: below0 := rfl
set_option maxRecDepth 65536 in
theorem w_args : argsFit about1.vm theMethod args0 = true := by decide +kernel
set_option maxRecDepth 65536 in
theorem w_heap : heapFits about1 = true := by decide +kernel
set_option maxRecDepth 65536 in
theorem w_runnable : about1.curStatus? = some .runnable := by decide +kernel
set_option maxRecDepth 65536 in
theorem w_alone : about1.alone = true := by decide +kernel
set_option maxRecDepth 65536 in
theorem w_named : about1.methodNamed? x = some theMethod := by decide +kernel
set_option maxRecDepth 65536 in
theorem w_hears : about1.hears theMethod below0 = true := by decide +kernel
set_option maxRecDepth 65536 in
theorem w_ripe : about1.ripe theMethod args0 below0 = true := by decide +kernel
theorem w_running : about1.status = .running := rfl
set_option maxRecDepth 65536 in
theorem w_room : about1.hasRoom e0.platform room_1 = true :=
  launch0.hasRoom_least _ room_1 (by decide +kernel) (by decide +kernel) (by decide +kernel) (by decide +kernel) (by decide +kernel) (by decide +kernel)
theorem allAtoms_all (ts : List Jvm.Cond) (a : Array Jvm.Value) (st : Jvm.State) : (allAtoms ts).before a st = ts.all (fun c => c.before a st) := by
  induction ts with
  | nil => rfl
  | cons c t ih =>
    show (Jvm.Cond.and c (allAtoms t)).before a st = _
    rw [Jvm.Cond.before_and, ih, List.all_cons]
def words1 : List Jvm.Cond := Jvm.Cond.code x code maxLocals ret :: tables_1
/-- a 'code' word, met by the world's own term for the bytes: nothing is compared byte by byte -/
theorem code_word {y : MethodName} {bytes : ByteArray} {mx : Nat} {rt : Option FieldType} {a : Array Value} {s : State} {m : MethodId} {meth : Method} {c : Code} (h1 : s.methodNamed? y = some m) (h2 : s.vm.method? m = some meth) (h3 : meth.code = some c) (h4 : c.code = bytes)
    (h5 : (c.maxLocals == mx && c.exceptionTable.isEmpty && decide (c.maxStack ≤ mostOperands) && decide (meth.sig.returnType = rt) && !meth.locks && decide (parseMethodDescriptor y.desc = some meth.sig)) = true) : (Jvm.Cond.code y bytes mx rt).before a s = true := by
  simp only [Bool.and_eq_true, beq_iff_eq, Bool.not_eq_true', decide_eq_true_eq] at h5
  obtain ⟨⟨⟨⟨⟨g1, g2⟩, g3⟩, g4⟩, g5⟩, g6⟩ := h5
  simp [Cond.before, Cond.holds, Cond.value, h1, h2, h3, h4, g1, g2, g3, g4, g5, g6]
def isCode : Jvm.Cond → Bool
  | .code _ _ _ _ => true
  | _ => false
theorem all_split {L : List Jvm.Cond} {P : Jvm.Cond → Bool} (h1 : L.all (fun c => isCode c || P c) = true) (h2 : ∀ c ∈ L.filter isCode, P c = true) : L.all P = true := by
  refine List.all_eq_true.mpr fun c hc => ?_
  have h := List.all_eq_true.mp h1 c hc
  rcases Bool.eq_false_or_eq_true (isCode c) with hi | hi
  · exact h2 c (List.mem_filter.mpr ⟨hc, hi⟩)
  · simpa [hi] using h
set_option maxRecDepth 65536 in
theorem w_c0 : (Jvm.Cond.code x code maxLocals ret).before args0 about1 = true := code_word (m := ⟨1, 1⟩) (meth := k1m1) (c := k1c1) (by decide +kernel) rfl rfl rfl (by decide +kernel)
set_option maxRecDepth 65536 in
theorem w_c1 : (Jvm.Cond.code ({ cls := "com/example/forget_by_time/forgetbytime/cli/CommandTakesArgumentsPinLaw", name := "pick", desc := "(I)Lcom/example/forget_by_time/forgetbytime/cli/Command;" } : Jvm.MethodName) method_3_code (1 : Nat) (Option.some (Jvm.ClassFile.FieldType.object "com/example/forget_by_time/forgetbytime/cli/Command"))).before args0 about1 = true := code_word (m := ⟨1, 2⟩) (meth := k1m2) (c := k1c2) (by decide +kernel) rfl rfl rfl (by decide +kernel)
set_option maxRecDepth 65536 in
theorem w_c2 : (Jvm.Cond.code ({ cls := "com/example/forget_by_time/forgetbytime/cli/Command", name := "takesArguments", desc := "(I)Z" } : Jvm.MethodName) prog_1_method_10_code (2 : Nat) (Option.some Jvm.ClassFile.FieldType.boolean)).before args0 about1 = true := code_word (m := ⟨6, 0⟩) (meth := k6m0) (c := k6c0) (by decide +kernel) rfl rfl rfl (by decide +kernel)
def codes1 : List Jvm.Cond := [Jvm.Cond.code x code maxLocals ret, Jvm.Cond.code ({ cls := "com/example/forget_by_time/forgetbytime/cli/CommandTakesArgumentsPinLaw", name := "pick", desc := "(I)Lcom/example/forget_by_time/forgetbytime/cli/Command;" } : Jvm.MethodName) method_3_code (1 : Nat) (Option.some (Jvm.ClassFile.FieldType.object "com/example/forget_by_time/forgetbytime/cli/Command")), Jvm.Cond.code ({ cls := "com/example/forget_by_time/forgetbytime/cli/Command", name := "takesArguments", desc := "(I)Z" } : Jvm.MethodName) prog_1_method_10_code (2 : Nat) (Option.some Jvm.ClassFile.FieldType.boolean)]
set_option maxRecDepth 65536 in
theorem codes_eq : words1.filter isCode = codes1 := rfl
theorem w_codes : ∀ c ∈ words1.filter isCode, c.before args0 about1 = true := by
  rw [codes_eq]
  intro c hc
  simp only [codes1, List.mem_cons, List.not_mem_nil, or_false] at hc
  rcases hc with rfl | rfl | rfl
  · exact w_c0
  · exact w_c1
  · exact w_c2
set_option maxRecDepth 65536 in
theorem w_t1 : (words1.take 24).all (fun c => isCode c || c.before args0 about1) = true := by decide +kernel
set_option maxRecDepth 65536 in
theorem w_t2 : (words1.drop 24).all (fun c => isCode c || c.before args0 about1) = true := by decide +kernel
theorem w_tables : (allAtoms (Jvm.Cond.code x code maxLocals ret :: tables_1)).before args0 about1 = true := by
  rw [allAtoms_all]
  show words1.all (fun c => c.before args0 about1) = true
  refine all_split ?_ w_codes
  rw [← List.take_append_drop 24 words1, List.all_append, w_t1, w_t2]
  rfl
set_option maxRecDepth 65536 in
theorem w_case : (Jvm.Cond.and given_1 narrow_1).before args0 about1 = true := by decide +kernel
theorem w_applies : (headSpec (Jvm.Cond.code x code maxLocals ret :: tables_1) room_1).applies x e0.platform about1 = true :=
  (Spec.applies_iff w_frames).mpr ⟨w_running, w_runnable, w_alone, w_named, w_hears, w_ripe, w_room, w_tables⟩
theorem atStart : AtStart classFile x code maxLocals ret World_1 tables_1 room_1 Calls_1 rest_1 Pre_1 launch0 p0 e0 about1 theMethod args0 below0 :=
  ⟨lists_1, trivial, launch0.admits_env _ _ _, launch0.least_env, fairChoices_fair.cas, fairChoices_fair.clock, w_frames, w_args, w_heap, w_applies, trivial, trivial, w_case⟩
end start1
theorem witness_1 : WitnessClaimed_1 := ⟨start1.p0, start1.e0, start1.about1, start1.theMethod, start1.args0, start1.below0, start1.atStart⟩
end Jvm.Pilot.@@N@@
