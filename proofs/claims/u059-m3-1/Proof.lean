import JvmDerived
import JvmDerived.Pilot.@@N@@Statement
import JvmDerived.Pilot.@@N@@Code
set_option linter.unusedVariables false
set_option linter.unusedSimpArgs false
namespace Jvm.RoadKit
open Sem ClassFile Op Lib Jvm.Stand Jvm.Free Jvm.LawKit
section New
variable {p : Program} {l : Launch} {e : Env} {R : Room} {s : State} {m : MethodId} {args : Array Value} {below : List Frame} {meth : Method} {c : Code} {T : State} {locs : List Loc} {cells slots : Nat}
theorem retI (X : Stand p l e R s m args below meth c T locs cells slots) (hx : p.tables.exec = Jvm.exec) {pc : Nat} {Ls : Array Slot} {z : Int32} {rest : List Value} (hret : meth.sig.returnType = some .int) (hd : decode c.code pc = .ok (.ireturn, 1)) {fs : List Frame}
    (hl : ∀ (f : JFrame) (acts : List Action), f.method = m → f.locked = none → f.entered = [] → (doReturn e (T.setTop f) acts (some (.int z))).1 = T.setFrames fs) : Steps p.tables e below (T.setTop (mkF m pc Ls (.int z :: rest))) (T.setFrames fs) := by
  have hm' : T.vm.method? m = some meth := X.method'
  have hn : narrow .int (.int z) = .int z := rfl
  show Steps p.tables e below (T.setTop { method := m, pc := pc, locals := Ls, stack := _ :: rest, locked := none }) _
  jvm_step X.here [X.here.top, hx, hd, hm', hret, hn]
  first | (intro acts; rw [hl _ acts rfl rfl rfl]) | rw [hl _ _ rfl rfl rfl]
  exact Steps.refl _
end New
end Jvm.RoadKit
namespace Jvm.Pilot.@@N@@
open Jvm Jvm.ClassFile Sem Op Lib Jvm.Free Jvm.Stand Jvm.LawKit Jvm.RoadKit Bundle Jvm.Pilot.@@N@@.Jvm.D
/-- what is left of a walk: from the frame f of T the run comes to its end, where Qe holds -/
def own_Rest (p : Program) (e : Env) (below : List Frame) (Qe : Outcome → State → Prop) (T : State) (f : JFrame) : Prop :=
  ∃ s₂ o, Steps p.tables e below (T.setTop f) s₂ ∧ s₂.status = .running ∧ Ended s₂ below o ∧ Qe o s₂
abbrev own_S (p : Program) (e : Env) (below : List Frame) (T : State) (f : JFrame) (t : State) : Prop := Steps p.tables e below (T.setTop f) t
theorem own_by {p : Program} {e : Env} {below : List Frame} {Qe : Outcome → State → Prop} {T T' : State} {f f' : JFrame}
    (h : ∀ t, Steps p.tables e below (T'.setTop f') t → Steps p.tables e below (T.setTop f) t) (k : own_Rest p e below Qe T' f') : own_Rest p e below Qe T f := by
  obtain ⟨s₂, o, h1, h2⟩ := k
  exact ⟨s₂, o, h _ h1, h2⟩
theorem own_at {p : Program} {e : Env} {below : List Frame} {Qe : Outcome → State → Prop} {T : State} {f f' : JFrame}
    (h : ∀ {t}, Steps p.tables e below (T.setTop f') t → Steps p.tables e below (T.setTop f) t) (k : own_Rest p e below Qe T f') :
    ∃ s₂ o, Steps p.tables e below (T.setTop f) s₂ ∧ s₂.status = .running ∧ Ended s₂ below o ∧ Qe o s₂ := by
  obtain ⟨s₂, o, h1, h2⟩ := k
  exact ⟨s₂, o, h h1, h2⟩
theorem own_c255 (x : Int32) : ¬ (x &&& (255 : Int32)).toUInt32.toUInt16.toUInt32.toInt32 < 0 ∧ ¬ (255 : Int32) < (x &&& (255 : Int32)).toUInt32.toUInt16.toUInt32.toInt32 := by
  have h1 := c_mask x 255 8 (by decide) (by decide)
  have h2 := c_i2c (x &&& (255 : Int32))
  simp only [Int32.lt_iff_toInt_lt, Int32.reduceToInt]
  omega
theorem own_narc {z : Int32} (h : ¬ z < 0 ∧ ¬ (255 : Int32) < z) : nar .char z = z := by
  have h2 := c_i2c z
  obtain ⟨h3, h4⟩ := h
  simp only [Int32.lt_iff_toInt_lt, Int32.reduceToInt] at h3 h4
  have e : (nar .char z).toInt = z.toInt := by
    show z.toUInt32.toUInt16.toUInt32.toInt32.toInt = z.toInt
    omega
  exact Int32.toInt_inj.mp e
theorem own_nrb {z : Int32} (h : z = 0 ∨ z = 1) : narrow .boolean (.int z) = .int z := by rcases h with rfl | rfl <;> rfl
theorem own_ftb {z : Int32} (h : z = 0 ∨ z = 1) : fits .boolean (.int z) = true := by rcases h with rfl | rfl <;> rfl
theorem own_eqi {t : Term} {n : Int32} {args : Array Value} {Z : State} (h : (Jvm.Cond.eq t (.int n)).value args Z none Z [] = some true) : t.eval args Z none [] Z = some (.int n) := by
  obtain ⟨x, y, h1, h2, h3, -⟩ := cmp_v (Or.inl h)
  have e : y = .int n := (Option.some.inj h2).symm
  subst e
  cases x <;> simp [Kin, Value.isRef] at h3
  rename_i z
  have : z = n := by simpa [Cond.value, h1, Term.eval] using h
  rw [h1, this]
theorem own_fld {t : Term} {n : Int32} {args : Array Value} {Z : State} {a : Addr} {C f d : String} (ev : t.eval args Z none [] Z = some (.ref a)) (h : (Jvm.Cond.eq (.field t C f d) (.int n)).value args Z none Z [] = some true) : Fld Z Z.heap a C f d (.int n) :=
  Fld.start ((fld_at ev).symm.trans (own_eqi h))
theorem own_nb {z : Int32} (h : z = 0 ∨ z = 1) : nar .boolean z = z := by rcases h with rfl | rfl <;> rfl
abbrev own_AIIIUUUUU (x0 : Int32) (x1 : Int32) (x2 : Int32) : Array Slot := #[.val (.int x0), .val (.int x1), .val (.int x2), .unset, .unset, .unset, .unset, .unset]
abbrev own_AIIIIUUUU (x0 : Int32) (x1 : Int32) (x2 : Int32) (x3 : Int32) : Array Slot := #[.val (.int x0), .val (.int x1), .val (.int x2), .val (.int x3), .unset, .unset, .unset, .unset]
abbrev own_AIIIIIUUU (x0 : Int32) (x1 : Int32) (x2 : Int32) (x3 : Int32) (x4 : Int32) : Array Slot := #[.val (.int x0), .val (.int x1), .val (.int x2), .val (.int x3), .val (.int x4), .unset, .unset, .unset]
abbrev own_AIIIIIFUU (x0 : Int32) (x1 : Int32) (x2 : Int32) (x3 : Int32) (x4 : Int32) (x5 : UInt32) : Array Slot := #[.val (.int x0), .val (.int x1), .val (.int x2), .val (.int x3), .val (.int x4), .val (.float x5), .unset, .unset]
abbrev own_AIIIIIFIU (x0 : Int32) (x1 : Int32) (x2 : Int32) (x3 : Int32) (x4 : Int32) (x5 : UInt32) (x6 : Int32) : Array Slot := #[.val (.int x0), .val (.int x1), .val (.int x2), .val (.int x3), .val (.int x4), .val (.float x5), .val (.int x6), .unset]
abbrev own_AIIIIIFII (x0 : Int32) (x1 : Int32) (x2 : Int32) (x3 : Int32) (x4 : Int32) (x5 : UInt32) (x6 : Int32) (x7 : Int32) : Array Slot := #[.val (.int x0), .val (.int x1), .val (.int x2), .val (.int x3), .val (.int x4), .val (.float x5), .val (.int x6), .val (.int x7)]
theorem own_q (x : Int32) : Jvm.Free.Fl.NoNaN32 (FP.fdiv (FP.i2f ((x &&& (31 : Int32)) - (16 : Int32))) (1082130432 : UInt32)) ∧ ((cmpValue (FP.fcmp (FP.fdiv (FP.i2f ((x &&& (31 : Int32)) - (16 : Int32))) (1082130432 : UInt32)) (1065353216 : UInt32)) .g) < (0 : Int32) ↔ (x &&& (31 : Int32)) - (16 : Int32) < (4 : Int32)) := by
  have t : ∀ k : Fin 32, (FP.fdiv (FP.i2f (Int32.ofNat k.val - (16 : Int32))) (1082130432 : UInt32)) &&& 0x7fffffff ≤ (0x7f800000 : UInt32) ∧ ((cmpValue (FP.fcmp (FP.fdiv (FP.i2f (Int32.ofNat k.val - (16 : Int32))) (1082130432 : UInt32)) (1065353216 : UInt32)) .g) < (0 : Int32) ↔ Int32.ofNat k.val - (16 : Int32) < (4 : Int32)) := by decide +kernel
  have h : (x &&& 31).toBitVec.toNat < 32 := by
    simp only [Int32.toBitVec_and, BitVec.toNat_and]
    exact Nat.lt_succ_of_le Nat.and_le_right
  have e : (x &&& 31) = Int32.ofNat (x &&& 31).toBitVec.toNat := by
    apply Int32.toBitVec_inj.mp
    show _ = BitVec.ofNat 32 _
    rw [BitVec.ofNat_toNat, BitVec.setWidth_eq]
  rw [e]
  exact t ⟨_, h⟩
theorem own_m9 (x : Int32) : ¬ (8 : Int32) < (x &&& 2147483647) % 9 := by
  have h := c_mask x 2147483647 31 (by decide) (by decide)
  have h2 := (c_irem (x &&& 2147483647) 9 9 (by decide)).1 (by omega)
  rw [Int32.lt_iff_toInt_lt]; simp only [Int32.reduceToInt]; omega
theorem own_law (b q s : Int32) (f : UInt32) (hb : ¬ (8 : Int32) < b) (hq : (cmpValue (FP.fcmp f (1065353216 : UInt32)) .g) < (0 : Int32) ↔ q < (4 : Int32)) : (if b < (8 : Int32) then (0 : Int32) else (if (cmpValue (FP.fcmp f (1065353216 : UInt32)) .g) < (0 : Int32) then (if s = (0 : Int32) then (1 : Int32) else (0 : Int32)) else (0 : Int32))) = (if s = (0 : Int32) then (if b = (8 : Int32) then (if q < (4 : Int32) then (1 : Int32) else (0 : Int32)) else (0 : Int32)) else (0 : Int32)) := by
  have hb' : b < (8 : Int32) ↔ ¬ b = (8 : Int32) := by
    simp only [Int32.lt_iff_toInt_lt, ← Int32.toInt_inj, Int32.reduceToInt] at hb ⊢; omega
  simp only [hq, hb']
  by_cases h1 : b = 8 <;> by_cases h2 : q < 4 <;> by_cases h3 : s = 0 <;> simp [h1, h2, h3]
theorem d1_0 : decode prog_14_method_4_code 0 = .ok (.iload_n 0, 1) := by decide +kernel
theorem d1_1 : decode prog_14_method_4_code 1 = .ok (.getstatic 23, 3) := by decide +kernel
theorem d1_4 : decode prog_14_method_4_code 4 = .ok (.if_icmp .lt 17, 3) := by decide +kernel
theorem d1_7 : decode prog_14_method_4_code 7 = .ok (.fload_n 1, 1) := by decide +kernel
theorem d1_8 : decode prog_14_method_4_code 8 = .ok (.fconst 1, 1) := by decide +kernel
theorem d1_9 : decode prog_14_method_4_code 9 = .ok (.fcmp .g, 1) := by decide +kernel
theorem d1_10 : decode prog_14_method_4_code 10 = .ok (.ifCond .ge 11, 3) := by decide +kernel
theorem d1_13 : decode prog_14_method_4_code 13 = .ok (.iload_n 2, 1) := by decide +kernel
theorem d1_14 : decode prog_14_method_4_code 14 = .ok (.ifCond .ne 7, 3) := by decide +kernel
theorem d1_17 : decode prog_14_method_4_code 17 = .ok (.iconst 1, 1) := by decide +kernel
theorem d1_18 : decode prog_14_method_4_code 18 = .ok (.goto 4, 3) := by decide +kernel
theorem d1_21 : decode prog_14_method_4_code 21 = .ok (.iconst 0, 1) := by decide +kernel
theorem d1_22 : decode prog_14_method_4_code 22 = .ok (.ireturn, 1) := by decide +kernel
theorem pn_1 : plainFor (⟨"com/example/reverie/reverie/FusedScore", "isDroppedForAge", "(IFZ)Z"⟩ : MethodName) = true := by first | exact plainFor_of_name (by first | (simp [plainName, overriddenIn]; done) | decide +kernel) | decide +kernel | exact Jvm.Free.JP.mathPlain rfl (by decide +kernel)
theorem ef_1 (m : MethodId) (p0 : Int32) (f1 : UInt32) (p2 : Int32) : entryFrame m #[(.int p0), (.float f1), (.int p2)] 3 = mkF m 0 #[.val (.int p0), .val (.float f1), .val (.int p2)] [] := by first | (simp [entryFrame, mkF, argsToLocals, Value.category]; done) | rfl
def Q1 (Z : State) (p0 : Int32) (f1 : UInt32) (p2 : Int32) (h0 : Heap) (n0 : Nat) (v : Option Value) (h : Heap) (L : List Loc) : Prop := v = some (.int (if p0 < (8 : Int32) then (0 : Int32) else (if (cmpValue (FP.fcmp f1 (1065353216 : UInt32)) .g) < (0 : Int32) then (if p2 = (0 : Int32) then (1 : Int32) else (0 : Int32)) else (0 : Int32)))) ∧ Fr n0 L ∧ h = h0
set_option maxRecDepth 65536 in
set_option maxHeartbeats 40000000 in
theorem rm1 (l : Launch) (Z : State) (a0 : Array Value) (hw : ∀ d ∈ tables_1, d.before a0 Z = true) (ws : List Jvm.Cond) (p0 : Int32) (f1 : UInt32) (p2 : Int32) (h0 : Heap) (n0 : Nat) (Z0 : n0 ≤ h0.size) (S_O : Sta Z h0 "com/example/reverie/reverie/FusedScore" "OLDEST_BUCKET" "I" (.int (8 : Int32))) :
    MetFree l (⟨"com/example/reverie/reverie/FusedScore", "isDroppedForAge", "(IFZ)Z"⟩ : MethodName) (head1 (Jvm.Cond.code (⟨"com/example/reverie/reverie/FusedScore", "isDroppedForAge", "(IFZ)Z"⟩ : MethodName) prog_14_method_4_code 3 (some .boolean) :: ws) ({ frames := 0, cells := 0, slots := 0, locals := 0 } : Room)) (fun a U => a = #[(.int p0), (.float f1), (.int p2)] ∧ Z.Warmed39 U.vm ∧ U.heap = h0) (fun _ _ _ _ _ => True) (fun _ U o U' => ∃ v L, o = .returned v ∧ Q1 Z p0 f1 p2 h0 n0 v U'.heap L ∧ FrameEnd U o U' L ({ frames := 0, cells := 0, slots := 0, locals := 0 } : Room).cells ({ frames := 0, cells := 0, slots := 0, locals := 0 } : Room).slots) := by
  refine MetFree.of_bodySF pn_1 hisR ?_
  intro p e s m args below meth c s₁ Bd hml0 hP hK
  obtain ⟨rfl, hZ, hh⟩ := hP
  have hx := Bd.exec
  have hby := Bd.bytes
  have hml : c.maxLocals = 3 := hml0
  have hown : s.vm.findClass "com/example/reverie/reverie/FusedScore" = some m.cls := findClass_of_methodNamed Bd.named
  have hnm := (name_of_methodNamed Bd.named Bd.method).1
  have X0 : Stand p l e ({ frames := 0, cells := 0, slots := 0, locals := 0 } : Room) s m #[(.int p0), (.float f1), (.int p2)] below meth c s₁ [] 0 0 := Stand.of_body Bd
  have e0 : s₁.heap = h0 := by rw [← hh, Bd.state]; rfl
  have N0 := Fr.nil n0
  refine own_at (castTop (ef_1 m p0 f1 p2)) ?_
  have sg1 : ∀ t, own_S p e below s₁ (mkF m 1 #[.val (.int p0), .val (.float f1), .val (.int p2)] [(.int p0)]) t → own_S p e below s₁ (mkF m 0 #[.val (.int p0), .val (.float f1), .val (.int p2)] []) t := by
    intro t k
    show own_S p e below s₁ (mkF m 0 #[.val (.int p0), .val (.float f1), .val (.int p2)] []) _
    refine XS.iloadN X0.here hx rfl (hb hby d1_0) rfl ?_
    exact k
  refine own_by sg1 ?_
  obtain ⟨T1, X1, e1, st1⟩ := getS2 X0 hx hZ hown (host := "") (Or.inl (hw _ (List.mem_of_getElem? (i := 6) rfl))) Via.refl e0 S_O (g := (mkF m 1 #[.val (.int p0), .val (.float f1), .val (.int p2)] [(.int p0)])) rfl (hb hby d1_1)
  refine own_by st1 ?_
  by_cases hc4 : p0 < (8 : Int32)
  · have sg22 : ∀ t, own_S p e below T1 (mkF m 22 #[.val (.int p0), .val (.float f1), .val (.int p2)] [(.int (0 : Int32))]) t → own_S p e below T1 (mkF m 4 #[.val (.int p0), .val (.float f1), .val (.int p2)] [(.int (8 : Int32)), (.int p0)]) t := by
      intro t k
      show own_S p e below T1 (mkF m 4 #[.val (.int p0), .val (.float f1), .val (.int p2)] [(.int (8 : Int32)), (.int p0)]) _
      refine XS.icmpYes X1.here hx rfl (pc0 := 4) (pc' := 21) rfl (hb hby d1_4) rfl (tlt hc4).1 (by decide) (by decide) ?_
      show own_S p e below T1 (mkF m 21 #[.val (.int p0), .val (.float f1), .val (.int p2)] []) _
      refine XS.iconst X1.here hx rfl (hb hby d1_21) ?_
      exact k
    refine own_by sg22 ?_
    obtain ⟨fs, hr, hrun, hended, hW, hsame⟩ := X1.leave (v := some (.int (0 : Int32))) (fun h => by rw [Bd.returns] at h; cases h)
    refine ⟨_, _, ?_, hrun, hended, _, _, rfl, ?_, ⟨_, rfl⟩, hW, hsame.mono (by decide) (by decide)⟩
    · exact retN X1 hx (t := .boolean) Bd.returns (by simp) (hb hby d1_22) hr
    · show Q1 Z p0 f1 p2 h0 n0 _ T1.heap _
      rw [e1]
      exact ⟨by rw [if_pos hc4], N0, rfl⟩
  · have sg10 : ∀ t, own_S p e below T1 (mkF m 10 #[.val (.int p0), .val (.float f1), .val (.int p2)] [(.int (cmpValue (FP.fcmp f1 (1065353216 : UInt32)) .g))]) t → own_S p e below T1 (mkF m 4 #[.val (.int p0), .val (.float f1), .val (.int p2)] [(.int (8 : Int32)), (.int p0)]) t := by
      intro t k
      show own_S p e below T1 (mkF m 4 #[.val (.int p0), .val (.float f1), .val (.int p2)] [(.int (8 : Int32)), (.int p0)]) _
      refine XS.icmpNo X1.here hx rfl (hb hby d1_4) rfl (flt hc4).1 ?_
      show own_S p e below T1 (mkF m 7 #[.val (.int p0), .val (.float f1), .val (.int p2)] []) _
      refine XS.floadN X1.here hx rfl (hb hby d1_7) rfl ?_
      show own_S p e below T1 (mkF m 8 #[.val (.int p0), .val (.float f1), .val (.int p2)] [(.float f1)]) _
      refine XS.fconst1 X1.here hx rfl (hb hby d1_8) (v := (1065353216 : UInt32)) rfl ?_
      show own_S p e below T1 (mkF m 9 #[.val (.int p0), .val (.float f1), .val (.int p2)] [(.float (1065353216 : UInt32)), (.float f1)]) _
      refine XS.fcmpS X1.here hx rfl (hb hby d1_9) rfl rfl ?_
      exact k
    refine own_by sg10 ?_
    by_cases hc10 : (cmpValue (FP.fcmp f1 (1065353216 : UInt32)) .g) < (0 : Int32)
    · have sg14 : ∀ t, own_S p e below T1 (mkF m 14 #[.val (.int p0), .val (.float f1), .val (.int p2)] [(.int p2)]) t → own_S p e below T1 (mkF m 10 #[.val (.int p0), .val (.float f1), .val (.int p2)] [(.int (cmpValue (FP.fcmp f1 (1065353216 : UInt32)) .g))]) t := by
        intro t k
        show own_S p e below T1 (mkF m 10 #[.val (.int p0), .val (.float f1), .val (.int p2)] [(.int (cmpValue (FP.fcmp f1 (1065353216 : UInt32)) .g))]) _
        refine XS.ifNo X1.here hx rfl (hb hby d1_10) rfl ((if0 _ _).trans (tlt hc10).2.1) ?_
        show own_S p e below T1 (mkF m 13 #[.val (.int p0), .val (.float f1), .val (.int p2)] []) _
        refine XS.iloadN X1.here hx rfl (hb hby d1_13) rfl ?_
        exact k
      refine own_by sg14 ?_
      by_cases hc14 : p2 = (0 : Int32)
      · have sg22 : ∀ t, own_S p e below T1 (mkF m 22 #[.val (.int p0), .val (.float f1), .val (.int p2)] [(.int (1 : Int32))]) t → own_S p e below T1 (mkF m 14 #[.val (.int p0), .val (.float f1), .val (.int p2)] [(.int p2)]) t := by
          intro t k
          show own_S p e below T1 (mkF m 14 #[.val (.int p0), .val (.float f1), .val (.int p2)] [(.int p2)]) _
          refine XS.ifNo X1.here hx rfl (hb hby d1_14) rfl ((if0 _ _).trans (teq hc14).2) ?_
          show own_S p e below T1 (mkF m 17 #[.val (.int p0), .val (.float f1), .val (.int p2)] []) _
          refine XS.iconst X1.here hx rfl (hb hby d1_17) ?_
          show own_S p e below T1 (mkF m 18 #[.val (.int p0), .val (.float f1), .val (.int p2)] [(.int (1 : Int32))]) _
          refine XS.goto X1.here hx rfl (pc0 := 18) (pc' := 22) rfl (hb hby d1_18) (by decide) (by decide) ?_
          exact k
        refine own_by sg22 ?_
        obtain ⟨fs, hr, hrun, hended, hW, hsame⟩ := X1.leave (v := some (.int (1 : Int32))) (fun h => by rw [Bd.returns] at h; cases h)
        refine ⟨_, _, ?_, hrun, hended, _, _, rfl, ?_, ⟨_, rfl⟩, hW, hsame.mono (by decide) (by decide)⟩
        · exact retN X1 hx (t := .boolean) Bd.returns (by simp) (hb hby d1_22) hr
        · show Q1 Z p0 f1 p2 h0 n0 _ T1.heap _
          rw [e1]
          exact ⟨by rw [if_neg hc4, if_pos hc10, if_pos hc14], N0, rfl⟩
      · have sg22 : ∀ t, own_S p e below T1 (mkF m 22 #[.val (.int p0), .val (.float f1), .val (.int p2)] [(.int (0 : Int32))]) t → own_S p e below T1 (mkF m 14 #[.val (.int p0), .val (.float f1), .val (.int p2)] [(.int p2)]) t := by
          intro t k
          show own_S p e below T1 (mkF m 14 #[.val (.int p0), .val (.float f1), .val (.int p2)] [(.int p2)]) _
          refine XS.ifYes X1.here hx rfl (pc0 := 14) (pc' := 21) rfl (hb hby d1_14) rfl ((if0 _ _).trans (feq hc14).2) (by decide) (by decide) ?_
          show own_S p e below T1 (mkF m 21 #[.val (.int p0), .val (.float f1), .val (.int p2)] []) _
          refine XS.iconst X1.here hx rfl (hb hby d1_21) ?_
          exact k
        refine own_by sg22 ?_
        obtain ⟨fs, hr, hrun, hended, hW, hsame⟩ := X1.leave (v := some (.int (0 : Int32))) (fun h => by rw [Bd.returns] at h; cases h)
        refine ⟨_, _, ?_, hrun, hended, _, _, rfl, ?_, ⟨_, rfl⟩, hW, hsame.mono (by decide) (by decide)⟩
        · exact retN X1 hx (t := .boolean) Bd.returns (by simp) (hb hby d1_22) hr
        · show Q1 Z p0 f1 p2 h0 n0 _ T1.heap _
          rw [e1]
          exact ⟨by rw [if_neg hc4, if_pos hc10, if_neg hc14], N0, rfl⟩
    · have sg22 : ∀ t, own_S p e below T1 (mkF m 22 #[.val (.int p0), .val (.float f1), .val (.int p2)] [(.int (0 : Int32))]) t → own_S p e below T1 (mkF m 10 #[.val (.int p0), .val (.float f1), .val (.int p2)] [(.int (cmpValue (FP.fcmp f1 (1065353216 : UInt32)) .g))]) t := by
        intro t k
        show own_S p e below T1 (mkF m 10 #[.val (.int p0), .val (.float f1), .val (.int p2)] [(.int (cmpValue (FP.fcmp f1 (1065353216 : UInt32)) .g))]) _
        refine XS.ifYes X1.here hx rfl (pc0 := 10) (pc' := 21) rfl (hb hby d1_10) rfl ((if0 _ _).trans (flt hc10).2.1) (by decide) (by decide) ?_
        show own_S p e below T1 (mkF m 21 #[.val (.int p0), .val (.float f1), .val (.int p2)] []) _
        refine XS.iconst X1.here hx rfl (hb hby d1_21) ?_
        exact k
      refine own_by sg22 ?_
      obtain ⟨fs, hr, hrun, hended, hW, hsame⟩ := X1.leave (v := some (.int (0 : Int32))) (fun h => by rw [Bd.returns] at h; cases h)
      refine ⟨_, _, ?_, hrun, hended, _, _, rfl, ?_, ⟨_, rfl⟩, hW, hsame.mono (by decide) (by decide)⟩
      · exact retN X1 hx (t := .boolean) Bd.returns (by simp) (hb hby d1_22) hr
      · show Q1 Z p0 f1 p2 h0 n0 _ T1.heap _
        rw [e1]
        exact ⟨by rw [if_neg hc4, if_neg hc10], N0, rfl⟩
theorem pn_0 : plainFor x = true := by first | exact plainFor_of_name (by first | (simp [plainName, overriddenIn]; done) | decide +kernel) | decide +kernel | exact Jvm.Free.JP.mathPlain rfl (by decide +kernel)
theorem pd_0_0 : parseMethodDescriptor "(IFZ)Z" = some ⟨[.int, .float, .boolean], some .boolean⟩ := by decide +kernel
theorem ef_0 (m : MethodId) (p0 : Int32) (p1 : Int32) (p2 : Int32) : entryFrame m #[(.int p0), (.int p1), (.int p2)] maxLocals = mkF m 0 #[.val (.int p0), .val (.int p1), .val (.int p2), .unset, .unset, .unset, .unset, .unset] [] := by first | (simp [entryFrame, mkF, argsToLocals, Value.category, maxLocals]; done) | rfl
def Q0 (Z : State) (p0 : Int32) (p1 : Int32) (p2 : Int32) (h0 : Heap) (n0 : Nat) (v : Option Value) (h : Heap) (L : List Loc) : Prop := v = some (.int 1) ∧ Fr n0 L
set_option maxRecDepth 65536 in
set_option maxHeartbeats 40000000 in
theorem rm0 (l : Launch) (Z : State) (a0 : Array Value) (hw : ∀ d ∈ tables_1, d.before a0 Z = true) (ws : List Jvm.Cond) (p0 : Int32) (p1 : Int32) (p2 : Int32) (h0 : Heap) (n0 : Nat) (Z0 : n0 ≤ h0.size) (S_O : Sta Z h0 "com/example/reverie/reverie/FusedScore" "OLDEST_BUCKET" "I" (.int (8 : Int32))) :
    MetFree l x (head1 (Jvm.Cond.code x code maxLocals ret :: ws) room_1) (fun a U => a = #[(.int p0), (.int p1), (.int p2)] ∧ Z.Warmed39 U.vm ∧ U.heap = h0) (fun _ _ _ _ _ => True) (fun _ U o U' => ∃ v L, o = .returned v ∧ Q0 Z p0 p1 p2 h0 n0 v U'.heap L ∧ FrameEnd U o U' L room_1.cells room_1.slots) := by
  refine MetFree.of_bodySF pn_0 hisR ?_
  intro p e s m args below meth c s₁ Bd hml0 hP hK
  obtain ⟨rfl, hZ, hh⟩ := hP
  have hx := Bd.exec
  have hby := Bd.bytes
  have hml : c.maxLocals = 8 := hml0
  have hown : s.vm.findClass "com/example/reverie/reverie/FusedScoreIsDroppedForAgePinLaw" = some m.cls := findClass_of_methodNamed Bd.named
  have hnm := (name_of_methodNamed Bd.named Bd.method).1
  have X0 : Stand p l e room_1 s m #[(.int p0), (.int p1), (.int p2)] below meth c s₁ [] 0 0 := Stand.of_body Bd
  have e0 : s₁.heap = h0 := by rw [← hh, Bd.state]; rfl
  have N0 := Fr.nil n0
  refine own_at (castTop (ef_0 m p0 p1 p2)) ?_
  obtain ⟨v7, hv7⟩ : ∃ z : Int32, z = ((p0 &&& (2147483647 : Int32)) % (9 : Int32)) := ⟨_, rfl⟩
  have sg7 : ∀ t, own_S p e below s₁ (mkF m 7 (own_AIIIUUUUU p0 p1 p2) [(.int v7)]) t → own_S p e below s₁ (mkF m 0 (own_AIIIUUUUU p0 p1 p2) []) t := by
    intro t k
    rw [hv7] at k
    show own_S p e below s₁ (mkF m 0 (own_AIIIUUUUU p0 p1 p2) []) _
    refine XS.iloadN X0.here hx rfl (hb hby at_0) rfl ?_
    show own_S p e below s₁ (mkF m 1 (own_AIIIUUUUU p0 p1 p2) [(.int p0)]) _
    refine X0.ldcInt hx hown (mvT hZ (hw _ (List.mem_of_getElem? (i := 0) rfl))) (g := (mkF m 1 (own_AIIIUUUUU p0 p1 p2) [(.int p0)])) rfl (hb hby at_1) _ ?_
    show own_S p e below s₁ (mkF m 3 (own_AIIIUUUUU p0 p1 p2) [(.int (2147483647 : Int32)), (.int p0)]) _
    refine XS.iand X0.here hx rfl (hb hby at_3) rfl ?_
    show own_S p e below s₁ (mkF m 4 (own_AIIIUUUUU p0 p1 p2) [(.int (p0 &&& (2147483647 : Int32)))]) _
    refine XS.bipush X0.here hx rfl (hb hby at_4) ?_
    show own_S p e below s₁ (mkF m 6 (own_AIIIUUUUU p0 p1 p2) [(.int (9 : Int32)), (.int (p0 &&& (2147483647 : Int32)))]) _
    refine iremM X0 hx rfl (hb hby at_6) rfl (by decide) ?_
    exact k
  refine own_by sg7 ?_
  obtain ⟨v15, hv15⟩ : ∃ z : Int32, z = ((p1 &&& (31 : Int32)) - (16 : Int32)) := ⟨_, rfl⟩
  have sg15 : ∀ t, own_S p e below s₁ (mkF m 15 (own_AIIIIUUUU p0 p1 p2 v7) [(.int v15)]) t → own_S p e below s₁ (mkF m 7 (own_AIIIUUUUU p0 p1 p2) [(.int v7)]) t := by
    intro t k
    rw [hv15] at k
    show own_S p e below s₁ (mkF m 7 (own_AIIIUUUUU p0 p1 p2) [(.int v7)]) _
    refine XS.istoreN X0.here hx rfl (hb hby at_7) rfl (l' := (own_AIIIIUUUU p0 p1 p2 v7)) rfl ?_
    show own_S p e below s₁ (mkF m 8 (own_AIIIIUUUU p0 p1 p2 v7) []) _
    refine XS.iloadN X0.here hx rfl (hb hby at_8) rfl ?_
    show own_S p e below s₁ (mkF m 9 (own_AIIIIUUUU p0 p1 p2 v7) [(.int p1)]) _
    refine XS.bipush X0.here hx rfl (hb hby at_9) ?_
    show own_S p e below s₁ (mkF m 11 (own_AIIIIUUUU p0 p1 p2 v7) [(.int (31 : Int32)), (.int p1)]) _
    refine XS.iand X0.here hx rfl (hb hby at_11) rfl ?_
    show own_S p e below s₁ (mkF m 12 (own_AIIIIUUUU p0 p1 p2 v7) [(.int (p1 &&& (31 : Int32)))]) _
    refine XS.bipush X0.here hx rfl (hb hby at_12) ?_
    show own_S p e below s₁ (mkF m 14 (own_AIIIIUUUU p0 p1 p2 v7) [(.int (16 : Int32)), (.int (p1 &&& (31 : Int32)))]) _
    refine XS.isub X0.here hx rfl (hb hby at_14) rfl ?_
    exact k
  refine own_by sg15 ?_
  obtain ⟨v23, hv23⟩ : ∃ z : UInt32, z = (FP.fdiv (FP.i2f v15) (1082130432 : UInt32)) := ⟨_, rfl⟩
  have sg23 : ∀ t, own_S p e below s₁ (mkF m 23 (own_AIIIIIUUU p0 p1 p2 v7 v15) [(.float v23)]) t → own_S p e below s₁ (mkF m 15 (own_AIIIIUUUU p0 p1 p2 v7) [(.int v15)]) t := by
    intro t k
    rw [hv23] at k
    show own_S p e below s₁ (mkF m 15 (own_AIIIIUUUU p0 p1 p2 v7) [(.int v15)]) _
    refine XS.istore X0.here hx rfl (hb hby at_15) rfl (l' := (own_AIIIIIUUU p0 p1 p2 v7 v15)) rfl ?_
    show own_S p e below s₁ (mkF m 17 (own_AIIIIIUUU p0 p1 p2 v7 v15) []) _
    refine XS.iload X0.here hx rfl (hb hby at_17) rfl ?_
    show own_S p e below s₁ (mkF m 19 (own_AIIIIIUUU p0 p1 p2 v7 v15) [(.int v15)]) _
    refine XS.i2fS X0.here hx rfl (hb hby at_19) rfl rfl ?_
    show own_S p e below s₁ (mkF m 20 (own_AIIIIIUUU p0 p1 p2 v7 v15) [(.float (FP.i2f v15))]) _
    refine X0.ldcFloatC hx hown (mvT hZ (hw _ (List.mem_of_getElem? (i := 1) rfl))) (g := (mkF m 20 (own_AIIIIIUUU p0 p1 p2 v7 v15) [(.float (FP.i2f v15))])) rfl (hb hby at_20) _ ?_
    show own_S p e below s₁ (mkF m 22 (own_AIIIIIUUU p0 p1 p2 v7 v15) [(.float (1082130432 : UInt32)), (.float (FP.i2f v15))]) _
    refine XS.fdivS X0.here hx rfl (hb hby at_22) rfl (by rw [hv15]; exact (own_q _).1) rfl ?_
    exact k
  refine own_by sg23 ?_
  have sg25 : ∀ t, own_S p e below s₁ (mkF m 25 (own_AIIIIIFUU p0 p1 p2 v7 v15 v23) []) t → own_S p e below s₁ (mkF m 23 (own_AIIIIIUUU p0 p1 p2 v7 v15) [(.float v23)]) t := by
    intro t k
    show own_S p e below s₁ (mkF m 23 (own_AIIIIIUUU p0 p1 p2 v7 v15) [(.float v23)]) _
    refine XS.fstore X0.here hx rfl (hb hby at_23) rfl (l' := (own_AIIIIIFUU p0 p1 p2 v7 v15 v23)) rfl ?_
    exact k
  refine own_by sg25 ?_
  obtain ⟨r25_s0, hr25_s0⟩ : ∃ z : Int32, z = (if (p2 &&& (1 : Int32)) = (0 : Int32) then (0 : Int32) else (1 : Int32)) := ⟨_, rfl⟩
  have str25 : ∀ t, own_S p e below s₁ (mkF m 36 (own_AIIIIIFUU p0 p1 p2 v7 v15 v23) [(.int r25_s0)]) t → own_S p e below s₁ (mkF m 25 (own_AIIIIIFUU p0 p1 p2 v7 v15 v23) []) t := by
    have sg28 : ∀ t, own_S p e below s₁ (mkF m 28 (own_AIIIIIFUU p0 p1 p2 v7 v15 v23) [(.int (p2 &&& (1 : Int32)))]) t → own_S p e below s₁ (mkF m 25 (own_AIIIIIFUU p0 p1 p2 v7 v15 v23) []) t := by
      intro t k
      show own_S p e below s₁ (mkF m 25 (own_AIIIIIFUU p0 p1 p2 v7 v15 v23) []) _
      refine XS.iloadN X0.here hx rfl (hb hby at_25) rfl ?_
      show own_S p e below s₁ (mkF m 26 (own_AIIIIIFUU p0 p1 p2 v7 v15 v23) [(.int p2)]) _
      refine XS.iconst X0.here hx rfl (hb hby at_26) ?_
      show own_S p e below s₁ (mkF m 27 (own_AIIIIIFUU p0 p1 p2 v7 v15 v23) [(.int (1 : Int32)), (.int p2)]) _
      refine XS.iand X0.here hx rfl (hb hby at_27) rfl ?_
      exact k
    by_cases hc28 : (p2 &&& (1 : Int32)) = (0 : Int32)
    · rw [if_pos hc28] at hr25_s0
      have sg36 : ∀ t, own_S p e below s₁ (mkF m 36 (own_AIIIIIFUU p0 p1 p2 v7 v15 v23) [(.int (0 : Int32))]) t → own_S p e below s₁ (mkF m 28 (own_AIIIIIFUU p0 p1 p2 v7 v15 v23) [(.int (p2 &&& (1 : Int32)))]) t := by
        intro t k
        show own_S p e below s₁ (mkF m 28 (own_AIIIIIFUU p0 p1 p2 v7 v15 v23) [(.int (p2 &&& (1 : Int32)))]) _
        refine XS.ifYes X0.here hx rfl (pc0 := 28) (pc' := 35) rfl (hb hby at_28) rfl ((if0 _ _).trans (teq hc28).1) (by decide) (by decide) ?_
        show own_S p e below s₁ (mkF m 35 (own_AIIIIIFUU p0 p1 p2 v7 v15 v23) []) _
        refine XS.iconst X0.here hx rfl (hb hby at_35) ?_
        exact k
      rw [hr25_s0]
      exact fun t k => (sg28 t (sg36 t k))
    · rw [if_neg hc28] at hr25_s0
      have sg36 : ∀ t, own_S p e below s₁ (mkF m 36 (own_AIIIIIFUU p0 p1 p2 v7 v15 v23) [(.int (1 : Int32))]) t → own_S p e below s₁ (mkF m 28 (own_AIIIIIFUU p0 p1 p2 v7 v15 v23) [(.int (p2 &&& (1 : Int32)))]) t := by
        intro t k
        show own_S p e below s₁ (mkF m 28 (own_AIIIIIFUU p0 p1 p2 v7 v15 v23) [(.int (p2 &&& (1 : Int32)))]) _
        refine XS.ifNo X0.here hx rfl (hb hby at_28) rfl ((if0 _ _).trans (feq hc28).1) ?_
        show own_S p e below s₁ (mkF m 31 (own_AIIIIIFUU p0 p1 p2 v7 v15 v23) []) _
        refine XS.iconst X0.here hx rfl (hb hby at_31) ?_
        show own_S p e below s₁ (mkF m 32 (own_AIIIIIFUU p0 p1 p2 v7 v15 v23) [(.int (1 : Int32))]) _
        refine XS.goto X0.here hx rfl (pc0 := 32) (pc' := 36) rfl (hb hby at_32) (by decide) (by decide) ?_
        exact k
      rw [hr25_s0]
      exact fun t k => (sg28 t (sg36 t k))
  refine own_by str25 ?_
  have sg38 : ∀ t, own_S p e below s₁ (mkF m 38 (own_AIIIIIFIU p0 p1 p2 v7 v15 v23 r25_s0) []) t → own_S p e below s₁ (mkF m 36 (own_AIIIIIFUU p0 p1 p2 v7 v15 v23) [(.int r25_s0)]) t := by
    intro t k
    show own_S p e below s₁ (mkF m 36 (own_AIIIIIFUU p0 p1 p2 v7 v15 v23) [(.int r25_s0)]) _
    refine XS.istore X0.here hx rfl (hb hby at_36) rfl (l' := (own_AIIIIIFIU p0 p1 p2 v7 v15 v23 r25_s0)) rfl ?_
    exact k
  refine own_by sg38 ?_
  obtain ⟨r38_s0, hr38_s0⟩ : ∃ z : Int32, z = (if r25_s0 = (0 : Int32) then (if v7 = (8 : Int32) then (if v15 < (4 : Int32) then (1 : Int32) else (0 : Int32)) else (0 : Int32)) else (0 : Int32)) := ⟨_, rfl⟩
  have str38 : ∀ t, own_S p e below s₁ (mkF m 60 (own_AIIIIIFIU p0 p1 p2 v7 v15 v23 r25_s0) [(.int r38_s0)]) t → own_S p e below s₁ (mkF m 38 (own_AIIIIIFIU p0 p1 p2 v7 v15 v23 r25_s0) []) t := by
    have sg40 : ∀ t, own_S p e below s₁ (mkF m 40 (own_AIIIIIFIU p0 p1 p2 v7 v15 v23 r25_s0) [(.int r25_s0)]) t → own_S p e below s₁ (mkF m 38 (own_AIIIIIFIU p0 p1 p2 v7 v15 v23 r25_s0) []) t := by
      intro t k
      show own_S p e below s₁ (mkF m 38 (own_AIIIIIFIU p0 p1 p2 v7 v15 v23 r25_s0) []) _
      refine XS.iload X0.here hx rfl (hb hby at_38) rfl ?_
      exact k
    by_cases hc40 : r25_s0 = (0 : Int32)
    · rw [if_pos hc40] at hr38_s0
      have sg46 : ∀ t, own_S p e below s₁ (mkF m 46 (own_AIIIIIFIU p0 p1 p2 v7 v15 v23 r25_s0) [(.int (8 : Int32)), (.int v7)]) t → own_S p e below s₁ (mkF m 40 (own_AIIIIIFIU p0 p1 p2 v7 v15 v23 r25_s0) [(.int r25_s0)]) t := by
        intro t k
        show own_S p e below s₁ (mkF m 40 (own_AIIIIIFIU p0 p1 p2 v7 v15 v23 r25_s0) [(.int r25_s0)]) _
        refine XS.ifNo X0.here hx rfl (hb hby at_40) rfl ((if0 _ _).trans (teq hc40).2) ?_
        show own_S p e below s₁ (mkF m 43 (own_AIIIIIFIU p0 p1 p2 v7 v15 v23 r25_s0) []) _
        refine XS.iloadN X0.here hx rfl (hb hby at_43) rfl ?_
        show own_S p e below s₁ (mkF m 44 (own_AIIIIIFIU p0 p1 p2 v7 v15 v23 r25_s0) [(.int v7)]) _
        refine XS.bipush X0.here hx rfl (hb hby at_44) ?_
        exact k
      by_cases hc46 : v7 = (8 : Int32)
      · rw [if_pos hc46] at hr38_s0
        have sg52 : ∀ t, own_S p e below s₁ (mkF m 52 (own_AIIIIIFIU p0 p1 p2 v7 v15 v23 r25_s0) [(.int (4 : Int32)), (.int v15)]) t → own_S p e below s₁ (mkF m 46 (own_AIIIIIFIU p0 p1 p2 v7 v15 v23 r25_s0) [(.int (8 : Int32)), (.int v7)]) t := by
          intro t k
          show own_S p e below s₁ (mkF m 46 (own_AIIIIIFIU p0 p1 p2 v7 v15 v23 r25_s0) [(.int (8 : Int32)), (.int v7)]) _
          refine XS.icmpNo X0.here hx rfl (hb hby at_46) rfl (teq hc46).2 ?_
          show own_S p e below s₁ (mkF m 49 (own_AIIIIIFIU p0 p1 p2 v7 v15 v23 r25_s0) []) _
          refine XS.iload X0.here hx rfl (hb hby at_49) rfl ?_
          show own_S p e below s₁ (mkF m 51 (own_AIIIIIFIU p0 p1 p2 v7 v15 v23 r25_s0) [(.int v15)]) _
          refine XS.iconst X0.here hx rfl (hb hby at_51) ?_
          exact k
        by_cases hc52 : v15 < (4 : Int32)
        · rw [if_pos hc52] at hr38_s0
          have sg60 : ∀ t, own_S p e below s₁ (mkF m 60 (own_AIIIIIFIU p0 p1 p2 v7 v15 v23 r25_s0) [(.int (1 : Int32))]) t → own_S p e below s₁ (mkF m 52 (own_AIIIIIFIU p0 p1 p2 v7 v15 v23 r25_s0) [(.int (4 : Int32)), (.int v15)]) t := by
            intro t k
            show own_S p e below s₁ (mkF m 52 (own_AIIIIIFIU p0 p1 p2 v7 v15 v23 r25_s0) [(.int (4 : Int32)), (.int v15)]) _
            refine XS.icmpNo X0.here hx rfl (hb hby at_52) rfl (tlt hc52).2.1 ?_
            show own_S p e below s₁ (mkF m 55 (own_AIIIIIFIU p0 p1 p2 v7 v15 v23 r25_s0) []) _
            refine XS.iconst X0.here hx rfl (hb hby at_55) ?_
            show own_S p e below s₁ (mkF m 56 (own_AIIIIIFIU p0 p1 p2 v7 v15 v23 r25_s0) [(.int (1 : Int32))]) _
            refine XS.goto X0.here hx rfl (pc0 := 56) (pc' := 60) rfl (hb hby at_56) (by decide) (by decide) ?_
            exact k
          rw [hr38_s0]
          exact fun t k => (sg40 t (sg46 t (sg52 t (sg60 t k))))
        · rw [if_neg hc52] at hr38_s0
          have sg60 : ∀ t, own_S p e below s₁ (mkF m 60 (own_AIIIIIFIU p0 p1 p2 v7 v15 v23 r25_s0) [(.int (0 : Int32))]) t → own_S p e below s₁ (mkF m 52 (own_AIIIIIFIU p0 p1 p2 v7 v15 v23 r25_s0) [(.int (4 : Int32)), (.int v15)]) t := by
            intro t k
            show own_S p e below s₁ (mkF m 52 (own_AIIIIIFIU p0 p1 p2 v7 v15 v23 r25_s0) [(.int (4 : Int32)), (.int v15)]) _
            refine XS.icmpYes X0.here hx rfl (pc0 := 52) (pc' := 59) rfl (hb hby at_52) rfl (flt hc52).2.1 (by decide) (by decide) ?_
            show own_S p e below s₁ (mkF m 59 (own_AIIIIIFIU p0 p1 p2 v7 v15 v23 r25_s0) []) _
            refine XS.iconst X0.here hx rfl (hb hby at_59) ?_
            exact k
          rw [hr38_s0]
          exact fun t k => (sg40 t (sg46 t (sg52 t (sg60 t k))))
      · rw [if_neg hc46] at hr38_s0
        have sg60 : ∀ t, own_S p e below s₁ (mkF m 60 (own_AIIIIIFIU p0 p1 p2 v7 v15 v23 r25_s0) [(.int (0 : Int32))]) t → own_S p e below s₁ (mkF m 46 (own_AIIIIIFIU p0 p1 p2 v7 v15 v23 r25_s0) [(.int (8 : Int32)), (.int v7)]) t := by
          intro t k
          show own_S p e below s₁ (mkF m 46 (own_AIIIIIFIU p0 p1 p2 v7 v15 v23 r25_s0) [(.int (8 : Int32)), (.int v7)]) _
          refine XS.icmpYes X0.here hx rfl (pc0 := 46) (pc' := 59) rfl (hb hby at_46) rfl (feq hc46).2 (by decide) (by decide) ?_
          show own_S p e below s₁ (mkF m 59 (own_AIIIIIFIU p0 p1 p2 v7 v15 v23 r25_s0) []) _
          refine XS.iconst X0.here hx rfl (hb hby at_59) ?_
          exact k
        rw [hr38_s0]
        exact fun t k => (sg40 t (sg46 t (sg60 t k)))
    · rw [if_neg hc40] at hr38_s0
      have sg60 : ∀ t, own_S p e below s₁ (mkF m 60 (own_AIIIIIFIU p0 p1 p2 v7 v15 v23 r25_s0) [(.int (0 : Int32))]) t → own_S p e below s₁ (mkF m 40 (own_AIIIIIFIU p0 p1 p2 v7 v15 v23 r25_s0) [(.int r25_s0)]) t := by
        intro t k
        show own_S p e below s₁ (mkF m 40 (own_AIIIIIFIU p0 p1 p2 v7 v15 v23 r25_s0) [(.int r25_s0)]) _
        refine XS.ifYes X0.here hx rfl (pc0 := 40) (pc' := 59) rfl (hb hby at_40) rfl ((if0 _ _).trans (feq hc40).2) (by decide) (by decide) ?_
        show own_S p e below s₁ (mkF m 59 (own_AIIIIIFIU p0 p1 p2 v7 v15 v23 r25_s0) []) _
        refine XS.iconst X0.here hx rfl (hb hby at_59) ?_
        exact k
      rw [hr38_s0]
      exact fun t k => (sg40 t (sg60 t k))
  refine own_by str38 ?_
  have sg67 : ∀ t, own_S p e below s₁ (mkF m 67 (own_AIIIIIFII p0 p1 p2 v7 v15 v23 r25_s0 r38_s0) [(.int r25_s0), (.float v23), (.int v7)]) t → own_S p e below s₁ (mkF m 60 (own_AIIIIIFIU p0 p1 p2 v7 v15 v23 r25_s0) [(.int r38_s0)]) t := by
    intro t k
    show own_S p e below s₁ (mkF m 60 (own_AIIIIIFIU p0 p1 p2 v7 v15 v23 r25_s0) [(.int r38_s0)]) _
    refine XS.istore X0.here hx rfl (hb hby at_60) rfl (l' := (own_AIIIIIFII p0 p1 p2 v7 v15 v23 r25_s0 r38_s0)) rfl ?_
    show own_S p e below s₁ (mkF m 62 (own_AIIIIIFII p0 p1 p2 v7 v15 v23 r25_s0 r38_s0) []) _
    refine XS.iloadN X0.here hx rfl (hb hby at_62) rfl ?_
    show own_S p e below s₁ (mkF m 63 (own_AIIIIIFII p0 p1 p2 v7 v15 v23 r25_s0 r38_s0) [(.int v7)]) _
    refine XS.fload X0.here hx rfl (hb hby at_63) rfl ?_
    show own_S p e below s₁ (mkF m 65 (own_AIIIIIFII p0 p1 p2 v7 v15 v23 r25_s0 r38_s0) [(.float v23), (.int v7)]) _
    refine XS.iload X0.here hx rfl (hb hby at_65) rfl ?_
    exact k
  refine own_by sg67 ?_
  obtain ⟨_, _, ⟨T67, L67, k67, n67⟩, -, X67, ⟨Lc67, hQ67, l67, y67, z67⟩, st67⟩ := Jvm.LawKit.callS X0 hx (y := (⟨"com/example/reverie/reverie/FusedScore", "isDroppedForAge", "(IFZ)Z"⟩ : MethodName)) hown (mvT hZ (hw _ (List.mem_of_getElem? (i := 2) rfl))) (mvT hZ (hw _ (List.mem_of_getElem? (i := 3) rfl))) (mvT hZ (hw _ (List.mem_of_getElem? (i := 4) rfl))) (mvT hZ (hw _ (List.mem_of_getElem? (i := 5) rfl))) (by decide) (backOf (W := 0) (rm1 l Z a0 hw [] v7 v23 r25_s0 h0 n0 Z0 S_O) hZ (hw _ (List.mem_of_getElem? (i := 5) rfl)) (hw _ (List.mem_of_getElem? (i := 4) rfl)) (by decide) (by decide)) (g := (mkF m 67 (own_AIIIIIFII p0 p1 p2 v7 v15 v23 r25_s0 r38_s0) [(.int r25_s0), (.float v23), (.int v7)])) rfl (by rw [hml]; rfl) (argsL := [(.int v7), (.float v23), (.int r25_s0)]) (rest := []) (lenOf pd_0_0 rfl) rfl (by show 2 * 0 + _ ≤ _; exact Nat.le_of_eq rfl) (hb hby at_67) (fun _ _ => ⟨rfl, e0, (by decide : 0 + 0 ≤ _), (by decide : 0 + 0 ≤ _)⟩)
  dsimp only [Pt.U, Pt.locs, Pt.cells, Pt.slots] at X67 l67 y67 z67 st67 hQ67
  subst l67 y67 z67
  obtain ⟨rfl, N67q, hq67⟩ := hQ67
  have N67 := Fr.app N0 N67q
  obtain ⟨c67, hc67⟩ : ∃ z : Int32, z = (if v7 < (8 : Int32) then (0 : Int32) else (if (cmpValue (FP.fcmp v23 (1065353216 : UInt32)) .g) < (0 : Int32) then (if r25_s0 = (0 : Int32) then (1 : Int32) else (0 : Int32)) else (0 : Int32))) := ⟨_, rfl⟩
  rw [← hc67] at st67
  refine own_by st67 ?_
  have sg80 : ∀ t, own_S p e below T67 (mkF m 80 (own_AIIIIIFII p0 p1 p2 v7 v15 v23 r25_s0 r38_s0) [(.int (1 : Int32))]) t → own_S p e below T67 (mkF m 70 (own_AIIIIIFII p0 p1 p2 v7 v15 v23 r25_s0 r38_s0) [(.int c67)]) t := by
    intro t k
    show own_S p e below T67 (mkF m 70 (own_AIIIIIFII p0 p1 p2 v7 v15 v23 r25_s0 r38_s0) [(.int c67)]) _
    refine XS.iload X67.here hx rfl (hb hby at_70) rfl ?_
    show own_S p e below T67 (mkF m 72 (own_AIIIIIFII p0 p1 p2 v7 v15 v23 r25_s0 r38_s0) [(.int r38_s0), (.int c67)]) _
    refine XS.icmpNo X67.here hx rfl (hb hby at_72) rfl (teq (by rw [hc67, hr38_s0]; exact own_law _ _ _ _ (by rw [hv7]; exact own_m9 _) (by rw [hv23, hv15]; exact (own_q _).2) : c67 = r38_s0)).2 ?_
    show own_S p e below T67 (mkF m 75 (own_AIIIIIFII p0 p1 p2 v7 v15 v23 r25_s0 r38_s0) []) _
    refine XS.iconst X67.here hx rfl (hb hby at_75) ?_
    show own_S p e below T67 (mkF m 76 (own_AIIIIIFII p0 p1 p2 v7 v15 v23 r25_s0 r38_s0) [(.int (1 : Int32))]) _
    refine XS.goto X67.here hx rfl (pc0 := 76) (pc' := 80) rfl (hb hby at_76) (by decide) (by decide) ?_
    exact k
  refine own_by sg80 ?_
  obtain ⟨fs, hr, hrun, hended, hW, hsame⟩ := X67.leave (v := some (.int (1 : Int32))) (fun h => by rw [Bd.returns] at h; cases h)
  refine ⟨_, _, ?_, hrun, hended, _, _, rfl, ?_, ⟨_, rfl⟩, hW, hsame.mono (by decide) (by decide)⟩
  · exact retN X67 hx (t := .boolean) Bd.returns (by simp) (hb hby at_80) hr
  · show Q0 Z p0 p1 p2 h0 n0 _ T67.heap _
    rw [hq67]
    exact ⟨rfl, N67⟩
set_option maxRecDepth 65536 in
set_option maxHeartbeats 40000000 in
theorem comes_1 {Post : Tables → Env → Array Value → State → Outcome → State → Prop} (hpost : ∀ tb e args s v u, (limb_1_1.after args s (.returned v) u = true ∧ limb_1_2.after args s (.returned v) u = true ∧ True) → FrameEnd s (.returned v) u (Jvm.fieldLocs frame_1_writes args s ++ Jvm.arrayLocs frame_1_arrays args s ++ Jvm.staticLocs frame_1_statics s) 0 0 → Post tb e args s (.returned v) u) :
    ArmFor flags0 classFile x code maxLocals ret World_1 tables_1 room_1 Calls_1 rest_1 Pre_1 Post := by
  intro l hfl _ _ p e ha hc hk s m args below hf hA hF happ hP
  obtain ⟨hcalls, hrest, hpre⟩ := hP
  obtain ⟨-, -, -, hnamed, -, -, -, hat⟩ := (Spec.applies_iff hf).mp happ
  obtain ⟨hg, nn⟩ := and_e (Cond.before_iff.mp (show (Jvm.Cond.and given_1 narrow_1).before args s = true from hpre))
  obtain ⟨hh0, hh1⟩ := and_e hg
  obtain ⟨hh2, hh3⟩ := and_e hh1
  obtain ⟨hh4, hh5⟩ := and_e hh3
  obtain ⟨w0, w1, w2, rfl⟩ : ∃ w0 w1 w2 : Value, args = #[w0, w1, w2] := by
    have hs : args.size = 3 := by simpa [Cond.value, given_1] using hh0
    obtain ⟨L⟩ := args
    match L, hs with
    | [w0, w1, w2], _ => exact ⟨w0, w1, w2, rfl⟩
  have hw := fun d (hd : d ∈ tables_1) => atoms_spec (ws := Jvm.Cond.code x code maxLocals ret :: tables_1) hat d (List.mem_cons_of_mem _ hd)
  have hfit : Fit s := fun {y c} hc i hi => by
    obtain ⟨ha, rfl⟩ := Array.getElem?_eq_some_iff.mp hc
    have q := List.all_eq_true.mp ((Array.all_eq_true_iff_forall_mem.mp hF) _ (Array.getElem_mem ha)) i (List.mem_range.mpr hi)
    simpa [Array.getElem?_eq_getElem hi] using q
  obtain ⟨i0, ei0⟩ := is_v hh2
  obtain rfl : w0 = (.int i0) := Option.some.inj ei0
  obtain ⟨i1, ei1⟩ := is_v hh4
  obtain rfl : w1 = (.int i1) := Option.some.inj ei1
  obtain ⟨i2, ei2⟩ := is_v hh5
  obtain rfl : w2 = (.int i2) := Option.some.inj ei2
  have St := Sta.start (own_eqi nn) (Or.inr ⟨(hw _ (List.mem_of_getElem? (i := 4) rfl)), (hw _ (List.mem_of_getElem? (i := 7) rfl))⟩)
  obtain ⟨n, o, h1, h2, h3, _, L, rfl, ⟨rfl, N⟩, hq⟩ := rm0 l s _ hw tables_1 i0 i1 i2 s.heap s.heap.size (Nat.le_refl _) St p e ha hc hk s m _ below hf ((Spec.applies_iff_loose hf).mp happ).1 ⟨rfl, State.Warmed39.refl s, rfl⟩ trivial
  refine ⟨n, _, h1, h2, h3, hpost _ _ _ _ _ _ ⟨Cond.after_iff.mpr rfl, Cond.after_iff.mpr (eq_i res_at (Term.int_eval (1)) rfl), trivial⟩ ⟨hq.1, hq.2.1, (hq.2.2.sift fun y hy => Or.inr (N y hy)).mono (by decide) (by decide)⟩⟩
theorem main_1_1 : Claimed_1_1 := comes_1 fun _ _ _ _ _ _ h hF => ⟨h.1, hF⟩
theorem main_1_2 : Claimed_1_2 := comes_1 fun _ _ _ _ _ _ h hF => ⟨h.2.1, hF⟩
end Jvm.Pilot.@@N@@

namespace Jvm.Pilot.@@N@@
open Jvm Jvm.ClassFile Sem Op Lib Jvm.Free Jvm.Stand Jvm.Pilot.@@N@@.Jvm.D
/-! MADE BY PROGRAM (witnessworld.py) out of the Statement's table words and the real class files: 9 classes; the members and pool entries that the words name. The judged class is class 1, her method 1. -/
namespace start1
open Jvm.ClassFile
def u (s : String) : CpInfo := .utf8 (stringToUtf16 s)
/-- a pool by its gaps: so many unusable entries, then the entry; so many at the end -/
def gap : Nat → List CpInfo → List CpInfo
  | 0, r => r
  | n + 1, r => .unusable :: gap n r
def poolList (es : List (Nat × CpInfo)) (last : Nat) : List CpInfo := es.foldr (fun e r => gap e.1 (e.2 :: r)) (gap last [])
def pool (es : List (Nat × CpInfo)) (last : Nat) : Array CpInfo := ⟨poolList es last⟩
def fileOf (pool : Array CpInfo) (this : Nat) (attrs : Array Attribute := #[]) (ms : Array MethodInfo := #[]) (fl : Nat := 33) (sup : Nat := 0) (ifs : Array Nat := #[]) (fds : Array FieldInfo := #[]) : ClassFile where
  minorVersion := 0
  majorVersion := 65
  constantPool := pool
  accessFlags := fl
  thisClass := this
  superClass := sup
  interfaces := ifs
  fields := fds
  methods := ms
  attributes := attrs
def plain (name : String) (sup : Option ClassId) : Class where
  name := name
  kind := .ordinary
  loader := none
  accessFlags := 33
  super := sup
  interfaces := #[]
  cf := none
  fields := #[]
  methods := #[]
  instanceTypes := #[]
  staticTypes := #[]
  resolved := #[]
  callSites := []
  init := .initialized
  statics := none
  mirror := none

def pool0 : Array CpInfo := pool [(5, u "<init>"), (0, u "()V"), (1, .class_ 10), (1, u "java/lang/Object")] 113

def k0m0 : Method := { name := "<init>", desc := "()V", sig := { parameters := [], returnType := none }, accessFlags := 1, code := none }
/-- java/lang/Object -/
def k0 : Class := { plain "java/lang/Object" none with
  accessFlags := 33
  interfaces := #[]
  cf := some (fileOf pool0 8 #[] #[{ accessFlags := 1, nameIndex := 5, descriptorIndex := 6, attributes := #[] }] 33 0 #[] #[])
  fields := #[]
  methods := #[k0m0]
  instanceTypes := #[]
  staticTypes := #[]
  resolved := Array.replicate 124 none
  statics := none }

def pool1 : Array CpInfo := pool [(2, .class_ 4), (1, u "java/lang/Object"), (0, u "<init>"), (0, u "()V"), (0, .integer 2147483647), (0, .float 1082130432), (0, .methodref 10 11), (0, .class_ 12), (0, .nameAndType 13 14), (0, u "com/example/reverie/reverie/FusedScore"), (0, u "isDroppedForAge"), (0, u "(IFZ)Z"), (0, .class_ 16), (0, u "com/example/reverie/reverie/FusedScoreIsDroppedForAgePinLaw"), (2, u "law"), (0, u "(III)Z")] 3

def k1m0 : Method := { name := "<init>", desc := "()V", sig := { parameters := [], returnType := none }, accessFlags := 2, code := none }
def k1c1 : Code := { maxStack := 3, maxLocals := 8, code := code, exceptionTable := #[], attributes := #[] }
def k1m1 : Method := { name := "law", desc := "(III)Z", sig := { parameters := [.int, .int, .int], returnType := some .boolean }, accessFlags := 9, code := some k1c1 }
/-- com/example/reverie/reverie/FusedScoreIsDroppedForAgePinLaw -/
def k1 : Class := { plain "com/example/reverie/reverie/FusedScoreIsDroppedForAgePinLaw" (some 0) with
  accessFlags := 49
  interfaces := #[]
  cf := some (fileOf pool1 15 #[] #[{ accessFlags := 2, nameIndex := 5, descriptorIndex := 6, attributes := #[] }, { accessFlags := 9, nameIndex := 19, descriptorIndex := 20, attributes := #[] }] 49 2 #[] #[])
  fields := #[]
  methods := #[k1m0, k1m1]
  instanceTypes := #[]
  staticTypes := #[]
  resolved := Array.replicate 24 none
  statics := none }

def pool2 : Array CpInfo := pool [(2, .class_ 4), (1, u "java/lang/Object"), (0, u "<init>"), (0, u "()V"), (5, .class_ 14), (1, u "com/example/reverie/reverie/FusedScore"), (0, u "BUCKET_EDGES"), (0, u "[J"), (6, .fieldref 12 24), (0, .nameAndType 25 26), (0, u "OLDEST_BUCKET"), (0, u "I"), (2, u "DECAY"), (0, u "[D"), (2, u "AROUSAL_FACTOR"), (50, u "HOUR_MILLIS"), (0, u "J"), (1, u "AROUSAL_SHIFT"), (1, u "NO_DECAY"), (0, u "D"), (2, u "LASTING_IMPORTANCE"), (0, u "F"), (1, u "RECALLS_PER_BUCKET"), (8, u "isDroppedForAge"), (0, u "(IFZ)Z")] 10

def k2m0 : Method := { name := "<init>", desc := "()V", sig := { parameters := [], returnType := none }, accessFlags := 2, code := none }
def k2c1 : Code := { maxStack := 2, maxLocals := 3, code := prog_14_method_4_code, exceptionTable := #[], attributes := #[] }
def k2m1 : Method := { name := "isDroppedForAge", desc := "(IFZ)Z", sig := { parameters := [.int, .float, .boolean], returnType := some .boolean }, accessFlags := 8, code := some k2c1 }
/-- com/example/reverie/reverie/FusedScore -/
def k2 : Class := { plain "com/example/reverie/reverie/FusedScore" (some 0) with
  accessFlags := 32
  interfaces := #[]
  cf := some (fileOf pool2 12 #[] #[{ accessFlags := 2, nameIndex := 5, descriptorIndex := 6, attributes := #[] }, { accessFlags := 8, nameIndex := 105, descriptorIndex := 106, attributes := #[] }] 32 2 #[] #[{ accessFlags := 26, nameIndex := 84, descriptorIndex := 85, attributes := #[] }, { accessFlags := 26, nameIndex := 15, descriptorIndex := 16, attributes := #[] }, { accessFlags := 26, nameIndex := 29, descriptorIndex := 30, attributes := #[] }, { accessFlags := 26, nameIndex := 33, descriptorIndex := 30, attributes := #[] }, { accessFlags := 26, nameIndex := 87, descriptorIndex := 26, attributes := #[] }, { accessFlags := 26, nameIndex := 89, descriptorIndex := 90, attributes := #[] }, { accessFlags := 26, nameIndex := 25, descriptorIndex := 26, attributes := #[] }, { accessFlags := 26, nameIndex := 93, descriptorIndex := 94, attributes := #[] }, { accessFlags := 26, nameIndex := 96, descriptorIndex := 26, attributes := #[] }])
  fields := #[{ name := "HOUR_MILLIS", type := .long, accessFlags := 26, slot := 0, constantValue := 0 }, { name := "BUCKET_EDGES", type := (.array .long), accessFlags := 26, slot := 1, constantValue := 0 }, { name := "DECAY", type := (.array .double), accessFlags := 26, slot := 2, constantValue := 0 }, { name := "AROUSAL_FACTOR", type := (.array .double), accessFlags := 26, slot := 3, constantValue := 0 }, { name := "AROUSAL_SHIFT", type := .int, accessFlags := 26, slot := 4, constantValue := 0 }, { name := "NO_DECAY", type := .double, accessFlags := 26, slot := 5, constantValue := 0 }, { name := "OLDEST_BUCKET", type := .int, accessFlags := 26, slot := 6, constantValue := 0 }, { name := "LASTING_IMPORTANCE", type := .float, accessFlags := 26, slot := 7, constantValue := 0 }, { name := "RECALLS_PER_BUCKET", type := .int, accessFlags := 26, slot := 8, constantValue := 0 }]
  methods := #[k2m0, k2m1]
  instanceTypes := #[]
  staticTypes := #[.long, (.array .long), (.array .double), (.array .double), .int, .double, .int, .float, .int]
  resolved := Array.replicate 117 none
  statics := some 0 }

def pool3 : Array CpInfo := pool [(1, u "java/lang/Cloneable"), (0, .class_ 1), (0, u "java/lang/Object"), (0, .class_ 3)] 3

/-- java/lang/Cloneable -/
def k3 : Class := { plain "java/lang/Cloneable" (some 0) with
  accessFlags := 1537
  interfaces := #[]
  cf := some (fileOf pool3 2 #[] #[] 1537 4 #[] #[])
  fields := #[]
  methods := #[]
  instanceTypes := #[]
  staticTypes := #[]
  resolved := Array.replicate 8 none
  statics := none }

def pool4 : Array CpInfo := pool [(1, u "java/io/Serializable"), (0, .class_ 1), (0, u "java/lang/Object"), (0, .class_ 3)] 3

/-- java/io/Serializable -/
def k4 : Class := { plain "java/io/Serializable" (some 0) with
  accessFlags := 1537
  interfaces := #[]
  cf := some (fileOf pool4 2 #[] #[] 1537 4 #[] #[])
  fields := #[]
  methods := #[]
  instanceTypes := #[]
  staticTypes := #[]
  resolved := Array.replicate 8 none
  statics := none }

/-- the primitive byte -/
def k5 : Class := { plain "byte" none with kind := .primitive 'B', accessFlags := 0x411 }
/-- [B -/
def k6 : Class := { plain "[B" (some 0) with kind := .array 5 .byte, interfaces := #[3, 4], accessFlags := 1041 }

/-- the primitive int -/
def k7 : Class := { plain "int" none with kind := .primitive 'I', accessFlags := 0x411 }
/-- [I -/
def k8 : Class := { plain "[I" (some 0) with kind := .array 7 .int, interfaces := #[3, 4], accessFlags := 1041 }

def heap : Heap := #[{ cls := 2, slots := #[.long 0, .null, .null, .null, .int 0, .double 0, .int 8, .float 0, .int 0], vm := .statics 2 }]
def classes : Array Class := #[k0, k1, k2, k3, k4, k5, k6, k7, k8]
def interned : List (Array UInt16 × Addr) := []
def slotsUsed : Nat := 9
def theMethod : MethodId := ⟨1, 1⟩
def args0 : Array Value := #[.int 5, .int 6, .int 7]
def aboutOver (below : List Frame) : State where
  vm := { classes := classes, interned := interned.toArray }
  heap := heap
  slotsUsed := slotsUsed
  threads := #[{ frames := .invoking theMethod args0 :: below }]
def below0 : List Frame := [.native { method := ⟨0, 0⟩, args := #[] }]
def about1 : State := aboutOver below0
def p0 : Program := .bare "" "" ""
def e0 : Env := launch0.env 0 0 0
theorem w_frames : about1.frames = Frame.invoking theMethod args0 :: below0 := rfl
set_option maxRecDepth 65536 in
theorem w_args : argsFit about1.vm theMethod args0 = true := by decide +kernel
set_option maxRecDepth 65536 in
theorem w_heap : heapFits about1 = true := by decide +kernel
set_option maxRecDepth 65536 in
theorem w_runnable : about1.curStatus? = some .runnable := by decide +kernel
set_option maxRecDepth 65536 in
theorem w_alone : about1.alone = true := by decide +kernel
set_option maxRecDepth 65536 in
theorem w_named : about1.methodNamed? x = some theMethod := by decide +kernel
set_option maxRecDepth 65536 in
theorem w_hears : about1.hears theMethod below0 = true := by decide +kernel
set_option maxRecDepth 65536 in
theorem w_ripe : about1.ripe theMethod args0 below0 = true := by decide +kernel
theorem w_running : about1.status = .running := rfl
set_option maxRecDepth 65536 in
theorem w_room : about1.hasRoom e0.platform room_1 = true :=
  launch0.hasRoom_least _ room_1 (by decide +kernel) (by decide +kernel) (by decide +kernel) (by decide +kernel) (by decide +kernel) (by decide +kernel)
theorem allAtoms_all (ts : List Jvm.Cond) (a : Array Jvm.Value) (st : Jvm.State) : (allAtoms ts).before a st = ts.all (fun c => c.before a st) := by
  induction ts with
  | nil => rfl
  | cons c t ih =>
    show (Jvm.Cond.and c (allAtoms t)).before a st = _
    rw [Jvm.Cond.before_and, ih, List.all_cons]
def words1 : List Jvm.Cond := Jvm.Cond.code x code maxLocals ret :: tables_1
/-- a 'code' word, met by the world's own term for the bytes: nothing is compared byte by byte -/
theorem code_word {y : MethodName} {bytes : ByteArray} {mx : Nat} {rt : Option FieldType} {a : Array Value} {s : State} {m : MethodId} {meth : Method} {c : Code} (h1 : s.methodNamed? y = some m) (h2 : s.vm.method? m = some meth) (h3 : meth.code = some c) (h4 : c.code = bytes)
    (h5 : (c.maxLocals == mx && c.exceptionTable.isEmpty && decide (c.maxStack ≤ mostOperands) && decide (meth.sig.returnType = rt) && !meth.locks && decide (parseMethodDescriptor y.desc = some meth.sig)) = true) : (Jvm.Cond.code y bytes mx rt).before a s = true := by
  simp only [Bool.and_eq_true, beq_iff_eq, Bool.not_eq_true', decide_eq_true_eq] at h5
  obtain ⟨⟨⟨⟨⟨g1, g2⟩, g3⟩, g4⟩, g5⟩, g6⟩ := h5
  simp [Cond.before, Cond.holds, Cond.value, h1, h2, h3, h4, g1, g2, g3, g4, g5, g6]
def isCode : Jvm.Cond → Bool
  | .code _ _ _ _ => true
  | _ => false
theorem all_split {L : List Jvm.Cond} {P : Jvm.Cond → Bool} (h1 : L.all (fun c => isCode c || P c) = true) (h2 : ∀ c ∈ L.filter isCode, P c = true) : L.all P = true := by
  refine List.all_eq_true.mpr fun c hc => ?_
  have h := List.all_eq_true.mp h1 c hc
  rcases Bool.eq_false_or_eq_true (isCode c) with hi | hi
  · exact h2 c (List.mem_filter.mpr ⟨hc, hi⟩)
  · simpa [hi] using h
set_option maxRecDepth 65536 in
theorem w_c0 : (Jvm.Cond.code x code maxLocals ret).before args0 about1 = true := code_word (m := ⟨1, 1⟩) (meth := k1m1) (c := k1c1) (by decide +kernel) rfl rfl rfl (by decide +kernel)
set_option maxRecDepth 65536 in
theorem w_c1 : (Jvm.Cond.code ({ cls := "com/example/reverie/reverie/FusedScore", name := "isDroppedForAge", desc := "(IFZ)Z" } : Jvm.MethodName) prog_14_method_4_code (3 : Nat) (Option.some Jvm.ClassFile.FieldType.boolean)).before args0 about1 = true := code_word (m := ⟨2, 1⟩) (meth := k2m1) (c := k2c1) (by decide +kernel) rfl rfl rfl (by decide +kernel)
def codes1 : List Jvm.Cond := [Jvm.Cond.code x code maxLocals ret, Jvm.Cond.code ({ cls := "com/example/reverie/reverie/FusedScore", name := "isDroppedForAge", desc := "(IFZ)Z" } : Jvm.MethodName) prog_14_method_4_code (3 : Nat) (Option.some Jvm.ClassFile.FieldType.boolean)]
set_option maxRecDepth 65536 in
theorem codes_eq : words1.filter isCode = codes1 := rfl
theorem w_codes : ∀ c ∈ words1.filter isCode, c.before args0 about1 = true := by
  rw [codes_eq]
  intro c hc
  simp only [codes1, List.mem_cons, List.not_mem_nil, or_false] at hc
  rcases hc with rfl | rfl
  · exact w_c0
  · exact w_c1
set_option maxRecDepth 65536 in
theorem w_t1 : words1.all (fun c => isCode c || c.before args0 about1) = true := by decide +kernel
theorem w_tables : (allAtoms (Jvm.Cond.code x code maxLocals ret :: tables_1)).before args0 about1 = true := by
  rw [allAtoms_all]
  show words1.all (fun c => c.before args0 about1) = true
  refine all_split ?_ w_codes
  rw [w_t1]
set_option maxRecDepth 65536 in
theorem w_case : (Jvm.Cond.and given_1 narrow_1).before args0 about1 = true := by decide +kernel
theorem w_applies : (headSpec (Jvm.Cond.code x code maxLocals ret :: tables_1) room_1).applies x e0.platform about1 = true :=
  (Spec.applies_iff w_frames).mpr ⟨w_running, w_runnable, w_alone, w_named, w_hears, w_ripe, w_room, w_tables⟩
theorem atStart : AtStart classFile x code maxLocals ret World_1 tables_1 room_1 Calls_1 rest_1 Pre_1 launch0 p0 e0 about1 theMethod args0 below0 :=
  ⟨lists_1, trivial, launch0.admits_env _ _ _, launch0.least_env, fairChoices_fair.cas, fairChoices_fair.clock, w_frames, w_args, w_heap, w_applies, trivial, trivial, w_case⟩
end start1
theorem witness_1 : WitnessClaimed_1 := ⟨start1.p0, start1.e0, start1.about1, start1.theMethod, start1.args0, start1.below0, start1.atStart⟩
end Jvm.Pilot.@@N@@
