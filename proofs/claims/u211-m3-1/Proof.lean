import JvmDerived
import JvmDerived.Pilot.@@N@@Statement
import JvmDerived.Pilot.@@N@@Code
set_option linter.unusedVariables false
set_option linter.unusedSimpArgs false
namespace Jvm.RoadKit
open Sem ClassFile Op Lib Jvm.Stand Jvm.Free Jvm.LawKit
section New
variable {p : Program} {l : Launch} {e : Env} {R : Room} {s : State} {m : MethodId} {args : Array Value} {below : List Frame} {meth : Method} {c : Code} {T : State} {locs : List Loc} {cells slots : Nat}
theorem retI (X : Stand p l e R s m args below meth c T locs cells slots) (hx : p.tables.exec = Jvm.exec) {pc : Nat} {Ls : Array Slot} {z : Int32} {rest : List Value} (hret : meth.sig.returnType = some .int) (hd : decode c.code pc = .ok (.ireturn, 1)) {fs : List Frame}
    (hl : ∀ (f : JFrame) (acts : List Action), f.method = m → f.locked = none → f.entered = [] → (doReturn e (T.setTop f) acts (some (.int z))).1 = T.setFrames fs) : Steps p.tables e below (T.setTop (mkF m pc Ls (.int z :: rest))) (T.setFrames fs) := by
  have hm' : T.vm.method? m = some meth := X.method'
  have hn : narrow .int (.int z) = .int z := rfl
  show Steps p.tables e below (T.setTop { method := m, pc := pc, locals := Ls, stack := _ :: rest, locked := none }) _
  jvm_step X.here [X.here.top, hx, hd, hm', hret, hn]
  first | (intro acts; rw [hl _ acts rfl rfl rfl]) | rw [hl _ _ rfl rfl rfl]
  exact Steps.refl _
end New
end Jvm.RoadKit
namespace Jvm.Pilot.@@N@@
open Jvm Jvm.ClassFile Sem Op Lib Jvm.Free Jvm.Stand Jvm.LawKit Jvm.RoadKit Bundle Jvm.Pilot.@@N@@.Jvm.D
/-- what is left of a walk: from the frame f of T the run comes to its end, where Qe holds -/
def own_Rest (p : Program) (e : Env) (below : List Frame) (Qe : Outcome → State → Prop) (T : State) (f : JFrame) : Prop :=
  ∃ s₂ o, Steps p.tables e below (T.setTop f) s₂ ∧ s₂.status = .running ∧ Ended s₂ below o ∧ Qe o s₂
abbrev own_S (p : Program) (e : Env) (below : List Frame) (T : State) (f : JFrame) (t : State) : Prop := Steps p.tables e below (T.setTop f) t
theorem own_by {p : Program} {e : Env} {below : List Frame} {Qe : Outcome → State → Prop} {T T' : State} {f f' : JFrame}
    (h : ∀ t, Steps p.tables e below (T'.setTop f') t → Steps p.tables e below (T.setTop f) t) (k : own_Rest p e below Qe T' f') : own_Rest p e below Qe T f := by
  obtain ⟨s₂, o, h1, h2⟩ := k
  exact ⟨s₂, o, h _ h1, h2⟩
theorem own_at {p : Program} {e : Env} {below : List Frame} {Qe : Outcome → State → Prop} {T : State} {f f' : JFrame}
    (h : ∀ {t}, Steps p.tables e below (T.setTop f') t → Steps p.tables e below (T.setTop f) t) (k : own_Rest p e below Qe T f') :
    ∃ s₂ o, Steps p.tables e below (T.setTop f) s₂ ∧ s₂.status = .running ∧ Ended s₂ below o ∧ Qe o s₂ := by
  obtain ⟨s₂, o, h1, h2⟩ := k
  exact ⟨s₂, o, h h1, h2⟩
theorem own_c255 (x : Int32) : ¬ (x &&& (255 : Int32)).toUInt32.toUInt16.toUInt32.toInt32 < 0 ∧ ¬ (255 : Int32) < (x &&& (255 : Int32)).toUInt32.toUInt16.toUInt32.toInt32 := by
  have h1 := c_mask x 255 8 (by decide) (by decide)
  have h2 := c_i2c (x &&& (255 : Int32))
  simp only [Int32.lt_iff_toInt_lt, Int32.reduceToInt]
  omega
theorem own_narc {z : Int32} (h : ¬ z < 0 ∧ ¬ (255 : Int32) < z) : nar .char z = z := by
  have h2 := c_i2c z
  obtain ⟨h3, h4⟩ := h
  simp only [Int32.lt_iff_toInt_lt, Int32.reduceToInt] at h3 h4
  have e : (nar .char z).toInt = z.toInt := by
    show z.toUInt32.toUInt16.toUInt32.toInt32.toInt = z.toInt
    omega
  exact Int32.toInt_inj.mp e
theorem own_nrb {z : Int32} (h : z = 0 ∨ z = 1) : narrow .boolean (.int z) = .int z := by rcases h with rfl | rfl <;> rfl
theorem own_ftb {z : Int32} (h : z = 0 ∨ z = 1) : fits .boolean (.int z) = true := by rcases h with rfl | rfl <;> rfl
theorem own_eqi {t : Term} {n : Int32} {args : Array Value} {Z : State} (h : (Jvm.Cond.eq t (.int n)).value args Z none Z [] = some true) : t.eval args Z none [] Z = some (.int n) := by
  obtain ⟨x, y, h1, h2, h3, -⟩ := cmp_v (Or.inl h)
  have e : y = .int n := (Option.some.inj h2).symm
  subst e
  cases x <;> simp [Kin, Value.isRef] at h3
  rename_i z
  have : z = n := by simpa [Cond.value, h1, Term.eval] using h
  rw [h1, this]
theorem own_fld {t : Term} {n : Int32} {args : Array Value} {Z : State} {a : Addr} {C f d : String} (ev : t.eval args Z none [] Z = some (.ref a)) (h : (Jvm.Cond.eq (.field t C f d) (.int n)).value args Z none Z [] = some true) : Fld Z Z.heap a C f d (.int n) :=
  Fld.start ((fld_at ev).symm.trans (own_eqi h))
theorem own_nb {z : Int32} (h : z = 0 ∨ z = 1) : nar .boolean z = z := by rcases h with rfl | rfl <;> rfl
abbrev own_AIIIUUUU (x0 : Int32) (x1 : Int32) (x2 : Int32) : Array Slot := #[.val (.int x0), .val (.int x1), .val (.int x2), .unset, .unset, .unset, .unset]
abbrev own_AIIIRUUU (x0 : Int32) (x1 : Int32) (x2 : Int32) (x3 : Addr) : Array Slot := #[.val (.int x0), .val (.int x1), .val (.int x2), .val (.ref x3), .unset, .unset, .unset]
abbrev own_AIIIRIUU (x0 : Int32) (x1 : Int32) (x2 : Int32) (x3 : Addr) (x4 : Int32) : Array Slot := #[.val (.int x0), .val (.int x1), .val (.int x2), .val (.ref x3), .val (.int x4), .unset, .unset]
abbrev own_AIIIRIIU (x0 : Int32) (x1 : Int32) (x2 : Int32) (x3 : Addr) (x4 : Int32) (x5 : Int32) : Array Slot := #[.val (.int x0), .val (.int x1), .val (.int x2), .val (.ref x3), .val (.int x4), .val (.int x5), .unset]
abbrev own_AIIIRIII (x0 : Int32) (x1 : Int32) (x2 : Int32) (x3 : Addr) (x4 : Int32) (x5 : Int32) (x6 : Int32) : Array Slot := #[.val (.int x0), .val (.int x1), .val (.int x2), .val (.ref x3), .val (.int x4), .val (.int x5), .val (.int x6)]
theorem d2_0 : decode jdk_30_method_1_code 0 = .ok (.aload_n 0, 1) := by decide +kernel
theorem d2_1 : decode jdk_30_method_1_code 1 = .ok (.invokespecial 1, 3) := by decide +kernel
theorem d2_4 : decode jdk_30_method_1_code 4 = .ok (.return_, 1) := by decide +kernel
theorem pn_2 : plainFor (⟨"java/lang/Record", "<init>", "()V"⟩ : MethodName) = true := by first | exact plainFor_of_name (by first | (simp [plainName, overriddenIn]; done) | decide +kernel) | decide +kernel | exact Jvm.Free.JP.mathPlain rfl (by decide +kernel)
theorem ef_2 (m : MethodId) (a1 : Addr) : entryFrame m #[(.ref a1)] 1 = mkF m 0 #[.val (.ref a1)] [] := by first | (simp [entryFrame, mkF, argsToLocals, Value.category]; done) | rfl
def Q2 (Z : State) (a1 : Addr) (h0 : Heap) (n0 : Nat) (v : Option Value) (h : Heap) (L : List Loc) : Prop := v = none ∧ Fr n0 L ∧ h = h0
set_option maxRecDepth 65536 in
set_option maxHeartbeats 40000000 in
theorem rm2 (l : Launch) (Z : State) (a0 : Array Value) (hw : ∀ d ∈ tables_1, d.before a0 Z = true) (ws : List Jvm.Cond) (a1 : Addr) (h0 : Heap) (n0 : Nat) (Z0 : n0 ≤ h0.size) :
    MetFree l (⟨"java/lang/Record", "<init>", "()V"⟩ : MethodName) (head1 (Jvm.Cond.code (⟨"java/lang/Record", "<init>", "()V"⟩ : MethodName) jdk_30_method_1_code 1 none :: ws) ({ frames := 1, cells := 0, slots := 0, locals := 12 } : Room)) (fun a U => a = #[(.ref a1)] ∧ Z.Warmed39 U.vm ∧ U.heap = h0) (fun _ _ _ _ _ => True) (fun _ U o U' => ∃ v L, o = .returned v ∧ Q2 Z a1 h0 n0 v U'.heap L ∧ FrameEnd U o U' L ({ frames := 1, cells := 0, slots := 0, locals := 12 } : Room).cells ({ frames := 1, cells := 0, slots := 0, locals := 12 } : Room).slots) := by
  refine MetFree.of_bodySF pn_2 hisR ?_
  intro p e s m args below meth c s₁ Bd hml0 hP hK
  obtain ⟨rfl, hZ, hh⟩ := hP
  have hx := Bd.exec
  have hby := Bd.bytes
  have hml : c.maxLocals = 1 := hml0
  have hown : s.vm.findClass "java/lang/Record" = some m.cls := findClass_of_methodNamed Bd.named
  have hnm := (name_of_methodNamed Bd.named Bd.method).1
  have X0 : Stand p l e ({ frames := 1, cells := 0, slots := 0, locals := 12 } : Room) s m #[(.ref a1)] below meth c s₁ [] 0 0 := Stand.of_body Bd
  have e0 : s₁.heap = h0 := by rw [← hh, Bd.state]; rfl
  have N0 := Fr.nil n0
  refine own_at (castTop (ef_2 m a1)) ?_
  have sg1 : ∀ t, own_S p e below s₁ (mkF m 1 #[.val (.ref a1)] [(.ref a1)]) t → own_S p e below s₁ (mkF m 0 #[.val (.ref a1)] []) t := by
    intro t k
    show own_S p e below s₁ (mkF m 0 #[.val (.ref a1)] []) _
    refine XS.aloadN X0.here hx rfl (hb hby d2_0) rfl rfl ?_
    exact k
  refine own_by sg1 ?_
  obtain ⟨T1, X1, e1, st1⟩ := initO X0 hx hZ hown (hw _ (List.mem_of_getElem? (i := 11) rfl)) (hw _ (List.mem_of_getElem? (i := 12) rfl)) (hw _ (List.mem_of_getElem? (i := 13) rfl)) e0 (g := (mkF m 1 #[.val (.ref a1)] [(.ref a1)])) rfl (by rw [hml]; rfl) rfl (hb hby d2_1) (by decide) (W := 0) (by show 2 * 0 + _ ≤ _; exact Nat.le_of_eq rfl) (by decide)
  refine own_by st1 ?_
  obtain ⟨fs, hr, hrun, hended, hW, hsame⟩ := X1.leave (v := none) (fun _ => rfl)
  refine ⟨_, _, ?_, hrun, hended, _, _, rfl, ?_, ⟨_, rfl⟩, hW, hsame.mono (by decide) (by decide)⟩
  · exact X1.returnOut hx Bd.returns (hb hby d2_4) hr
  · show Q2 Z a1 h0 n0 _ T1.heap _
    rw [e1]
    exact ⟨rfl, N0, rfl⟩
theorem d1_0 : decode prog_34_method_1_code 0 = .ok (.aload_n 0, 1) := by decide +kernel
theorem d1_1 : decode prog_34_method_1_code 1 = .ok (.invokespecial 1, 3) := by decide +kernel
theorem d1_4 : decode prog_34_method_1_code 4 = .ok (.aload_n 0, 1) := by decide +kernel
theorem d1_5 : decode prog_34_method_1_code 5 = .ok (.iload_n 1, 1) := by decide +kernel
theorem d1_6 : decode prog_34_method_1_code 6 = .ok (.putfield 7, 3) := by decide +kernel
theorem d1_9 : decode prog_34_method_1_code 9 = .ok (.aload_n 0, 1) := by decide +kernel
theorem d1_10 : decode prog_34_method_1_code 10 = .ok (.iload_n 2, 1) := by decide +kernel
theorem d1_11 : decode prog_34_method_1_code 11 = .ok (.putfield 13, 3) := by decide +kernel
theorem d1_14 : decode prog_34_method_1_code 14 = .ok (.aload_n 0, 1) := by decide +kernel
theorem d1_15 : decode prog_34_method_1_code 15 = .ok (.iload_n 3, 1) := by decide +kernel
theorem d1_16 : decode prog_34_method_1_code 16 = .ok (.putfield 16, 3) := by decide +kernel
theorem d1_19 : decode prog_34_method_1_code 19 = .ok (.return_, 1) := by decide +kernel
theorem pn_1 : plainFor (⟨"com/example/last_mile/lastmile/store/ClaimShares", "<init>", "(III)V"⟩ : MethodName) = true := by first | exact plainFor_of_name (by first | (simp [plainName, overriddenIn]; done) | decide +kernel) | decide +kernel | exact Jvm.Free.JP.mathPlain rfl (by decide +kernel)
theorem pd_1_0 : parseMethodDescriptor "()V" = some ⟨[], none⟩ := by decide +kernel
theorem ef_1 (m : MethodId) (a1 : Addr) (p1 : Int32) (p2 : Int32) (p3 : Int32) : entryFrame m #[(.ref a1), (.int p1), (.int p2), (.int p3)] 4 = mkF m 0 #[.val (.ref a1), .val (.int p1), .val (.int p2), .val (.int p3)] [] := by first | (simp [entryFrame, mkF, argsToLocals, Value.category]; done) | rfl
def Q1 (Z : State) (a1 : Addr) (p1 : Int32) (p2 : Int32) (p3 : Int32) (h0 : Heap) (n0 : Nat) (v : Option Value) (h : Heap) (L : List Loc) : Prop := v = none ∧ Fr n0 L ∧ Keep h0 h [a1] ∧ Exa Z h a1 "com/example/last_mile/lastmile/store/ClaimShares" ∧ Fld Z h a1 "com/example/last_mile/lastmile/store/ClaimShares" "endpoint" "I" (.int p1) ∧ Fld Z h a1 "com/example/last_mile/lastmile/store/ClaimShares" "untried" "I" (.int p2) ∧ Fld Z h a1 "com/example/last_mile/lastmile/store/ClaimShares" "slow" "I" (.int p3)
set_option maxRecDepth 65536 in
set_option maxHeartbeats 40000000 in
theorem rm1 (l : Launch) (Z : State) (a0 : Array Value) (hw : ∀ d ∈ tables_1, d.before a0 Z = true) (ws : List Jvm.Cond) (a1 : Addr) (p1 : Int32) (p2 : Int32) (p3 : Int32) (h0 : Heap) (n0 : Nat) (Z0 : n0 ≤ h0.size) (E_a1 : Exa Z h0 a1 "com/example/last_mile/lastmile/store/ClaimShares") (F_endpoint : Fld Z h0 a1 "com/example/last_mile/lastmile/store/ClaimShares" "endpoint" "I" (.int (0 : Int32))) (F_untried : Fld Z h0 a1 "com/example/last_mile/lastmile/store/ClaimShares" "untried" "I" (.int (0 : Int32))) (F_slow : Fld Z h0 a1 "com/example/last_mile/lastmile/store/ClaimShares" "slow" "I" (.int (0 : Int32))) (g_a1 : n0 ≤ a1) :
    MetFree l (⟨"com/example/last_mile/lastmile/store/ClaimShares", "<init>", "(III)V"⟩ : MethodName) (head1 (Jvm.Cond.code (⟨"com/example/last_mile/lastmile/store/ClaimShares", "<init>", "(III)V"⟩ : MethodName) prog_34_method_1_code 4 none :: ws) ({ frames := 2, cells := 0, slots := 0, locals := 24 } : Room)) (fun a U => a = #[(.ref a1), (.int p1), (.int p2), (.int p3)] ∧ Z.Warmed39 U.vm ∧ U.heap = h0) (fun _ _ _ _ _ => True) (fun _ U o U' => ∃ v L, o = .returned v ∧ Q1 Z a1 p1 p2 p3 h0 n0 v U'.heap L ∧ FrameEnd U o U' L ({ frames := 2, cells := 0, slots := 0, locals := 24 } : Room).cells ({ frames := 2, cells := 0, slots := 0, locals := 24 } : Room).slots) := by
  refine MetFree.of_bodySF pn_1 hisR ?_
  intro p e s m args below meth c s₁ Bd hml0 hP hK
  obtain ⟨rfl, hZ, hh⟩ := hP
  have hx := Bd.exec
  have hby := Bd.bytes
  have hml : c.maxLocals = 4 := hml0
  have hown : s.vm.findClass "com/example/last_mile/lastmile/store/ClaimShares" = some m.cls := findClass_of_methodNamed Bd.named
  have hnm := (name_of_methodNamed Bd.named Bd.method).1
  have X0 : Stand p l e ({ frames := 2, cells := 0, slots := 0, locals := 24 } : Room) s m #[(.ref a1), (.int p1), (.int p2), (.int p3)] below meth c s₁ [] 0 0 := Stand.of_body Bd
  have e0 : s₁.heap = h0 := by rw [← hh, Bd.state]; rfl
  have N0 := Fr.nil n0
  refine own_at (castTop (ef_1 m a1 p1 p2 p3)) ?_
  have K0 := Keep.refl h0 [a1]
  have sg1 : ∀ t, own_S p e below s₁ (mkF m 1 #[.val (.ref a1), .val (.int p1), .val (.int p2), .val (.int p3)] [(.ref a1)]) t → own_S p e below s₁ (mkF m 0 #[.val (.ref a1), .val (.int p1), .val (.int p2), .val (.int p3)] []) t := by
    intro t k
    show own_S p e below s₁ (mkF m 0 #[.val (.ref a1), .val (.int p1), .val (.int p2), .val (.int p3)] []) _
    refine XS.aloadN X0.here hx rfl (hb hby d1_0) rfl rfl ?_
    exact k
  refine own_by sg1 ?_
  obtain ⟨_, _, ⟨T1, L1, k1, n1⟩, -, X1, ⟨Lc1, hQ1, l1, y1, z1⟩, st1⟩ := X0.specialBack hx (y := (⟨"java/lang/Record", "<init>", "()V"⟩ : MethodName)) rfl hown (mvT hZ (hw _ (List.mem_of_getElem? (i := 6) rfl))) (mvT hZ (hw _ (List.mem_of_getElem? (i := 7) rfl))) (mvT hZ (hw _ (List.mem_of_getElem? (i := 10) rfl))) (by decide) (backOf (W := 0) (rm2 l Z a0 hw [] a1 h0 n0 Z0) hZ (hw _ (List.mem_of_getElem? (i := 10) rfl)) (hw _ (List.mem_of_getElem? (i := 9) rfl)) (by decide) (by decide)) (g := (mkF m 1 #[.val (.ref a1), .val (.int p1), .val (.int p2), .val (.int p3)] [(.ref a1)])) rfl (by rw [hml]; rfl) (Steps.refl _) (a := a1) (argsL := []) (rest := []) (lenOf pd_1_0 rfl) rfl (by show 2 * 0 + _ ≤ _; exact Nat.le_of_eq rfl) (hb hby d1_1) (fun _ _ => ⟨rfl, e0, (by decide : 0 + 0 ≤ _), (by decide : 0 + 0 ≤ _)⟩)
  dsimp only [Pt.U, Pt.locs, Pt.cells, Pt.slots] at X1 l1 y1 z1 st1 hQ1
  subst l1 y1 z1
  obtain ⟨rfl, N1q, hq1⟩ := hQ1
  have N1 := Fr.app N0 N1q
  refine own_by (fun t k => st1.trans k) ?_
  have sg6 : ∀ t, own_S p e below T1 (mkF m 6 #[.val (.ref a1), .val (.int p1), .val (.int p2), .val (.int p3)] [(.int p1), (.ref a1)]) t → own_S p e below T1 (mkF m 4 #[.val (.ref a1), .val (.int p1), .val (.int p2), .val (.int p3)] []) t := by
    intro t k
    show own_S p e below T1 (mkF m 4 #[.val (.ref a1), .val (.int p1), .val (.int p2), .val (.int p3)] []) _
    refine XS.aloadN X1.here hx rfl (hb hby d1_4) rfl rfl ?_
    show own_S p e below T1 (mkF m 5 #[.val (.ref a1), .val (.int p1), .val (.int p2), .val (.int p3)] [(.ref a1)]) _
    refine XS.iloadN X1.here hx rfl (hb hby d1_5) rfl ?_
    exact k
  refine own_by sg6 ?_
  obtain ⟨T6, h6, X6, e6, W6, st6⟩ := putF X1 hx hZ hown (host := "") (Or.inl (hw _ (List.mem_of_getElem? (i := 14) rfl))) Via.refl hq1 F_endpoint E_a1 (Or.inr ⟨(hw _ (List.mem_of_getElem? (i := 15) rfl)), rfl, hnm⟩) (hw _ (List.mem_of_getElem? (i := 1) rfl)) (ty := .int) (by decide) rfl rfl (g := (mkF m 6 #[.val (.ref a1), .val (.int p1), .val (.int p2), .val (.int p3)] [(.int p1), (.ref a1)])) rfl rfl (hb hby d1_6)
  have Fw6 := F_endpoint.same W6
  have fc := (F_untried.other W6 (Or.inr (slot_ne (Or.inr (hw _ (List.mem_of_getElem? (i := 17) rfl))) (Or.inr (hw _ (List.mem_of_getElem? (i := 15) rfl))) (by decide) (t := .int) (t' := .int) (by decide) (by decide))))
  have fc_2 := (F_slow.other W6 (Or.inr (slot_ne (Or.inr (hw _ (List.mem_of_getElem? (i := 19) rfl))) (Or.inr (hw _ (List.mem_of_getElem? (i := 15) rfl))) (by decide) (t := .int) (t' := .int) (by decide) (by decide))))
  have K6 : Keep h0 h6 [a1] := K0.wr W6 (Or.inl (List.mem_of_getElem? (i := 0) rfl))
  have Z6 : n0 ≤ h6.size := Nat.le_trans Z0 (Keep.of_wr W6).1
  have N6 := Fr.snoc X6 N1 g_a1
  refine own_by st6 ?_
  have sg11 : ∀ t, own_S p e below T6 (mkF m 11 #[.val (.ref a1), .val (.int p1), .val (.int p2), .val (.int p3)] [(.int p2), (.ref a1)]) t → own_S p e below T6 (mkF m 9 #[.val (.ref a1), .val (.int p1), .val (.int p2), .val (.int p3)] []) t := by
    intro t k
    show own_S p e below T6 (mkF m 9 #[.val (.ref a1), .val (.int p1), .val (.int p2), .val (.int p3)] []) _
    refine XS.aloadN X6.here hx rfl (hb hby d1_9) rfl rfl ?_
    show own_S p e below T6 (mkF m 10 #[.val (.ref a1), .val (.int p1), .val (.int p2), .val (.int p3)] [(.ref a1)]) _
    refine XS.iloadN X6.here hx rfl (hb hby d1_10) rfl ?_
    exact k
  refine own_by sg11 ?_
  obtain ⟨T11, h11, X11, e11, W11, st11⟩ := putF X6 hx hZ hown (host := "") (Or.inl (hw _ (List.mem_of_getElem? (i := 16) rfl))) Via.refl e6 fc (E_a1.wr W6) (Or.inr ⟨(hw _ (List.mem_of_getElem? (i := 17) rfl)), rfl, hnm⟩) (hw _ (List.mem_of_getElem? (i := 1) rfl)) (ty := .int) (by decide) rfl rfl (g := (mkF m 11 #[.val (.ref a1), .val (.int p1), .val (.int p2), .val (.int p3)] [(.int p2), (.ref a1)])) rfl rfl (hb hby d1_11)
  have Fw11 := fc.same W11
  have fc_3 := (Fw6.other W11 (Or.inr (slot_ne (Or.inr (hw _ (List.mem_of_getElem? (i := 15) rfl))) (Or.inr (hw _ (List.mem_of_getElem? (i := 17) rfl))) (by decide) (t := .int) (t' := .int) (by decide) (by decide))))
  have fc_4 := (fc_2.other W11 (Or.inr (slot_ne (Or.inr (hw _ (List.mem_of_getElem? (i := 19) rfl))) (Or.inr (hw _ (List.mem_of_getElem? (i := 17) rfl))) (by decide) (t := .int) (t' := .int) (by decide) (by decide))))
  have K11 : Keep h0 h11 [a1] := K6.wr W11 (Or.inl (List.mem_of_getElem? (i := 0) rfl))
  have Z11 : n0 ≤ h11.size := Nat.le_trans Z6 (Keep.of_wr W11).1
  have N11 := Fr.snoc X11 N6 g_a1
  refine own_by st11 ?_
  have sg16 : ∀ t, own_S p e below T11 (mkF m 16 #[.val (.ref a1), .val (.int p1), .val (.int p2), .val (.int p3)] [(.int p3), (.ref a1)]) t → own_S p e below T11 (mkF m 14 #[.val (.ref a1), .val (.int p1), .val (.int p2), .val (.int p3)] []) t := by
    intro t k
    show own_S p e below T11 (mkF m 14 #[.val (.ref a1), .val (.int p1), .val (.int p2), .val (.int p3)] []) _
    refine XS.aloadN X11.here hx rfl (hb hby d1_14) rfl rfl ?_
    show own_S p e below T11 (mkF m 15 #[.val (.ref a1), .val (.int p1), .val (.int p2), .val (.int p3)] [(.ref a1)]) _
    refine XS.iloadN X11.here hx rfl (hb hby d1_15) rfl ?_
    exact k
  refine own_by sg16 ?_
  obtain ⟨T16, h16, X16, e16, W16, st16⟩ := putF X11 hx hZ hown (host := "") (Or.inl (hw _ (List.mem_of_getElem? (i := 18) rfl))) Via.refl e11 fc_4 ((E_a1.wr W6).wr W11) (Or.inr ⟨(hw _ (List.mem_of_getElem? (i := 19) rfl)), rfl, hnm⟩) (hw _ (List.mem_of_getElem? (i := 1) rfl)) (ty := .int) (by decide) rfl rfl (g := (mkF m 16 #[.val (.ref a1), .val (.int p1), .val (.int p2), .val (.int p3)] [(.int p3), (.ref a1)])) rfl rfl (hb hby d1_16)
  have Fw16 := fc_4.same W16
  have fc_5 := (fc_3.other W16 (Or.inr (slot_ne (Or.inr (hw _ (List.mem_of_getElem? (i := 15) rfl))) (Or.inr (hw _ (List.mem_of_getElem? (i := 19) rfl))) (by decide) (t := .int) (t' := .int) (by decide) (by decide))))
  have fc_6 := (Fw11.other W16 (Or.inr (slot_ne (Or.inr (hw _ (List.mem_of_getElem? (i := 17) rfl))) (Or.inr (hw _ (List.mem_of_getElem? (i := 19) rfl))) (by decide) (t := .int) (t' := .int) (by decide) (by decide))))
  have K16 : Keep h0 h16 [a1] := K11.wr W16 (Or.inl (List.mem_of_getElem? (i := 0) rfl))
  have Z16 : n0 ≤ h16.size := Nat.le_trans Z11 (Keep.of_wr W16).1
  have N16 := Fr.snoc X16 N11 g_a1
  refine own_by st16 ?_
  obtain ⟨fs, hr, hrun, hended, hW, hsame⟩ := X16.leave (v := none) (fun _ => rfl)
  refine ⟨_, _, ?_, hrun, hended, _, _, rfl, ?_, ⟨_, rfl⟩, hW, hsame.mono (by decide) (by decide)⟩
  · exact X16.returnOut hx Bd.returns (hb hby d1_19) hr
  · show Q1 Z a1 p1 p2 p3 h0 n0 _ T16.heap _
    rw [e16]
    exact ⟨rfl, N16, K16, (((E_a1.wr W6).wr W11).wr W16), fc_5, fc_6, Fw16⟩
theorem d4_0 : decode prog_34_method_2_code 0 = .ok (.aload_n 1, 1) := by decide +kernel
theorem d4_1 : decode prog_34_method_2_code 1 = .ok (.getstatic 19, 3) := by decide +kernel
theorem d4_4 : decode prog_34_method_2_code 4 = .ok (.if_acmp .ne 10, 3) := by decide +kernel
theorem d4_7 : decode prog_34_method_2_code 7 = .ok (.aload_n 0, 1) := by decide +kernel
theorem d4_8 : decode prog_34_method_2_code 8 = .ok (.getfield 13, 3) := by decide +kernel
theorem d4_11 : decode prog_34_method_2_code 11 = .ok (.goto 7, 3) := by decide +kernel
theorem d4_14 : decode prog_34_method_2_code 14 = .ok (.aload_n 0, 1) := by decide +kernel
theorem d4_15 : decode prog_34_method_2_code 15 = .ok (.getfield 7, 3) := by decide +kernel
theorem d4_18 : decode prog_34_method_2_code 18 = .ok (.ireturn, 1) := by decide +kernel
theorem pn_4 : plainFor (⟨"com/example/last_mile/lastmile/store/ClaimShares", "most", "(Lcom/example/last_mile/lastmile/store/EndpointLoad$Speed;)I"⟩ : MethodName) = true := by first | exact plainFor_of_name (by first | (simp [plainName, overriddenIn]; done) | decide +kernel) | decide +kernel | exact Jvm.Free.JP.mathPlain rfl (by decide +kernel)
theorem ef_4 (m : MethodId) (a1 : Addr) (a2 : Addr) : entryFrame m #[(.ref a1), (.ref a2)] 2 = mkF m 0 #[.val (.ref a1), .val (.ref a2)] [] := by first | (simp [entryFrame, mkF, argsToLocals, Value.category]; done) | rfl
def Q4 (Z : State) (a1 : Addr) (a2 : Addr) (wUNTRIED : Addr) (zu : Int32) (ze : Int32) (h0 : Heap) (n0 : Nat) (v : Option Value) (h : Heap) (L : List Loc) : Prop := v = some (.int (if a2 = wUNTRIED then zu else ze)) ∧ Fr n0 L ∧ h = h0
set_option maxRecDepth 65536 in
set_option maxHeartbeats 40000000 in
theorem rm4 (l : Launch) (Z : State) (a0 : Array Value) (hw : ∀ d ∈ tables_1, d.before a0 Z = true) (ws : List Jvm.Cond) (a1 : Addr) (a2 : Addr) (wUNTRIED : Addr) (zu : Int32) (ze : Int32) (h0 : Heap) (n0 : Nat) (Z0 : n0 ≤ h0.size) (S_UNTRIED : Sta Z h0 "com/example/last_mile/lastmile/store/EndpointLoad$Speed" "UNTRIED" "Lcom/example/last_mile/lastmile/store/EndpointLoad$Speed;" (.ref wUNTRIED)) (F_u : Fld Z h0 a1 "com/example/last_mile/lastmile/store/ClaimShares" "untried" "I" (.int zu)) (F_e : Fld Z h0 a1 "com/example/last_mile/lastmile/store/ClaimShares" "endpoint" "I" (.int ze)) :
    MetFree l (⟨"com/example/last_mile/lastmile/store/ClaimShares", "most", "(Lcom/example/last_mile/lastmile/store/EndpointLoad$Speed;)I"⟩ : MethodName) (head1 (Jvm.Cond.code (⟨"com/example/last_mile/lastmile/store/ClaimShares", "most", "(Lcom/example/last_mile/lastmile/store/EndpointLoad$Speed;)I"⟩ : MethodName) prog_34_method_2_code 2 (some .int) :: ws) ({ frames := 0, cells := 0, slots := 0, locals := 0 } : Room)) (fun a U => a = #[(.ref a1), (.ref a2)] ∧ Z.Warmed39 U.vm ∧ U.heap = h0) (fun _ _ _ _ _ => True) (fun _ U o U' => ∃ v L, o = .returned v ∧ Q4 Z a1 a2 wUNTRIED zu ze h0 n0 v U'.heap L ∧ FrameEnd U o U' L ({ frames := 0, cells := 0, slots := 0, locals := 0 } : Room).cells ({ frames := 0, cells := 0, slots := 0, locals := 0 } : Room).slots) := by
  refine MetFree.of_bodySF pn_4 hisR ?_
  intro p e s m args below meth c s₁ Bd hml0 hP hK
  obtain ⟨rfl, hZ, hh⟩ := hP
  have hx := Bd.exec
  have hby := Bd.bytes
  have hml : c.maxLocals = 2 := hml0
  have hown : s.vm.findClass "com/example/last_mile/lastmile/store/ClaimShares" = some m.cls := findClass_of_methodNamed Bd.named
  have hnm := (name_of_methodNamed Bd.named Bd.method).1
  have X0 : Stand p l e ({ frames := 0, cells := 0, slots := 0, locals := 0 } : Room) s m #[(.ref a1), (.ref a2)] below meth c s₁ [] 0 0 := Stand.of_body Bd
  have e0 : s₁.heap = h0 := by rw [← hh, Bd.state]; rfl
  have N0 := Fr.nil n0
  refine own_at (castTop (ef_4 m a1 a2)) ?_
  have sg1 : ∀ t, own_S p e below s₁ (mkF m 1 #[.val (.ref a1), .val (.ref a2)] [(.ref a2)]) t → own_S p e below s₁ (mkF m 0 #[.val (.ref a1), .val (.ref a2)] []) t := by
    intro t k
    show own_S p e below s₁ (mkF m 0 #[.val (.ref a1), .val (.ref a2)] []) _
    refine XS.aloadN X0.here hx rfl (hb hby d4_0) rfl rfl ?_
    exact k
  refine own_by sg1 ?_
  obtain ⟨T1, X1, e1, st1⟩ := getS2 X0 hx hZ hown (host := "") (Or.inl (hw _ (List.mem_of_getElem? (i := 28) rfl))) Via.refl e0 S_UNTRIED (g := (mkF m 1 #[.val (.ref a1), .val (.ref a2)] [(.ref a2)])) rfl (hb hby d4_1)
  refine own_by st1 ?_
  by_cases hc4 : a2 = wUNTRIED
  · have sg8 : ∀ t, own_S p e below T1 (mkF m 8 #[.val (.ref a1), .val (.ref a2)] [(.ref a1)]) t → own_S p e below T1 (mkF m 4 #[.val (.ref a1), .val (.ref a2)] [(.ref wUNTRIED), (.ref a2)]) t := by
      intro t k
      show own_S p e below T1 (mkF m 4 #[.val (.ref a1), .val (.ref a2)] [(.ref wUNTRIED), (.ref a2)]) _
      refine Jvm.RoadKit.acmp (g := (mkF m 4 #[.val (.ref a1), .val (.ref a2)] [(.ref wUNTRIED), (.ref a2)])) X1 hx rfl rfl rfl (pc0 := 4) (pc' := 7) (same := true) rfl (hb hby d4_4) rfl (decide_eq_true (congrArg Value.ref hc4)) (by decide) (by decide) ?_
      show own_S p e below T1 (mkF m 7 #[.val (.ref a1), .val (.ref a2)] []) _
      refine XS.aloadN X1.here hx rfl (hb hby d4_7) rfl rfl ?_
      exact k
    refine own_by sg8 ?_
    obtain ⟨T8, X8, e8, st8⟩ := getF X1 hx hZ hown (host := "") (Or.inl (hw _ (List.mem_of_getElem? (i := 16) rfl))) Via.refl e1 F_u (g := (mkF m 8 #[.val (.ref a1), .val (.ref a2)] [(.ref a1)])) rfl rfl (hb hby d4_8)
    refine own_by st8 ?_
    have sg18 : ∀ t, own_S p e below T8 (mkF m 18 #[.val (.ref a1), .val (.ref a2)] [(.int zu)]) t → own_S p e below T8 (mkF m 11 #[.val (.ref a1), .val (.ref a2)] [(.int zu)]) t := by
      intro t k
      show own_S p e below T8 (mkF m 11 #[.val (.ref a1), .val (.ref a2)] [(.int zu)]) _
      refine XS.goto X8.here hx rfl (pc0 := 11) (pc' := 18) rfl (hb hby d4_11) (by decide) (by decide) ?_
      exact k
    refine own_by sg18 ?_
    obtain ⟨fs, hr, hrun, hended, hW, hsame⟩ := X8.leave (v := some (.int zu)) (fun h => by rw [Bd.returns] at h; cases h)
    refine ⟨_, _, ?_, hrun, hended, _, _, rfl, ?_, ⟨_, rfl⟩, hW, hsame.mono (by decide) (by decide)⟩
    · exact retI X8 hx Bd.returns (hb hby d4_18) hr
    · show Q4 Z a1 a2 wUNTRIED zu ze h0 n0 _ T8.heap _
      rw [e8]
      exact ⟨by simp [hc4], N0, rfl⟩
  · have sg15 : ∀ t, own_S p e below T1 (mkF m 15 #[.val (.ref a1), .val (.ref a2)] [(.ref a1)]) t → own_S p e below T1 (mkF m 4 #[.val (.ref a1), .val (.ref a2)] [(.ref wUNTRIED), (.ref a2)]) t := by
      intro t k
      show own_S p e below T1 (mkF m 4 #[.val (.ref a1), .val (.ref a2)] [(.ref wUNTRIED), (.ref a2)]) _
      refine Jvm.RoadKit.acmp (g := (mkF m 4 #[.val (.ref a1), .val (.ref a2)] [(.ref wUNTRIED), (.ref a2)])) X1 hx rfl rfl rfl (pc0 := 4) (pc' := 14) (same := false) rfl (hb hby d4_4) rfl (decide_eq_false fun q => hc4 (Value.ref.inj q)) (by decide) (by decide) ?_
      show own_S p e below T1 (mkF m 14 #[.val (.ref a1), .val (.ref a2)] []) _
      refine XS.aloadN X1.here hx rfl (hb hby d4_14) rfl rfl ?_
      exact k
    refine own_by sg15 ?_
    obtain ⟨T15, X15, e15, st15⟩ := getF X1 hx hZ hown (host := "") (Or.inl (hw _ (List.mem_of_getElem? (i := 14) rfl))) Via.refl e1 F_e (g := (mkF m 15 #[.val (.ref a1), .val (.ref a2)] [(.ref a1)])) rfl rfl (hb hby d4_15)
    refine own_by st15 ?_
    obtain ⟨fs, hr, hrun, hended, hW, hsame⟩ := X15.leave (v := some (.int ze)) (fun h => by rw [Bd.returns] at h; cases h)
    refine ⟨_, _, ?_, hrun, hended, _, _, rfl, ?_, ⟨_, rfl⟩, hW, hsame.mono (by decide) (by decide)⟩
    · exact retI X15 hx Bd.returns (hb hby d4_18) hr
    · show Q4 Z a1 a2 wUNTRIED zu ze h0 n0 _ T15.heap _
      rw [e15]
      exact ⟨by simp [hc4], N0, rfl⟩
theorem pn_0 : plainFor x = true := by first | exact plainFor_of_name (by first | (simp [plainName, overriddenIn]; done) | decide +kernel) | decide +kernel | exact Jvm.Free.JP.mathPlain rfl (by decide +kernel)
theorem pd_0_0 : parseMethodDescriptor "(III)V" = some ⟨[.int, .int, .int], none⟩ := by decide +kernel
theorem pd_0_1 : parseMethodDescriptor "(Lcom/example/last_mile/lastmile/store/EndpointLoad$Speed;)I" = some ⟨[(.object "com/example/last_mile/lastmile/store/EndpointLoad$Speed")], some .int⟩ := by decide +kernel
theorem ef_0 (m : MethodId) (p0 : Int32) (p1 : Int32) (p2 : Int32) : entryFrame m #[(.int p0), (.int p1), (.int p2)] maxLocals = mkF m 0 #[.val (.int p0), .val (.int p1), .val (.int p2), .unset, .unset, .unset, .unset] [] := by first | (simp [entryFrame, mkF, argsToLocals, Value.category, maxLocals]; done) | rfl
def Q0 (Z : State) (p0 : Int32) (p1 : Int32) (p2 : Int32) (wUNTRIED : Addr) (wQUICK : Addr) (wSLOW : Addr) (h0 : Heap) (n0 : Nat) (v : Option Value) (h : Heap) (L : List Loc) : Prop := v = some (.int 1) ∧ Fr n0 L
set_option maxRecDepth 65536 in
set_option maxHeartbeats 40000000 in
theorem rm0 (l : Launch) (Z : State) (a0 : Array Value) (hw : ∀ d ∈ tables_1, d.before a0 Z = true) (ws : List Jvm.Cond) (p0 : Int32) (p1 : Int32) (p2 : Int32) (wUNTRIED : Addr) (wQUICK : Addr) (wSLOW : Addr) (h0 : Heap) (n0 : Nat) (Z0 : n0 ≤ h0.size) (O : Old Z n0 h0) (S_UNTRIED : Sta Z Z.heap "com/example/last_mile/lastmile/store/EndpointLoad$Speed" "UNTRIED" "Lcom/example/last_mile/lastmile/store/EndpointLoad$Speed;" (.ref wUNTRIED)) (S_QUICK : Sta Z Z.heap "com/example/last_mile/lastmile/store/EndpointLoad$Speed" "QUICK" "Lcom/example/last_mile/lastmile/store/EndpointLoad$Speed;" (.ref wQUICK)) (S_SLOW : Sta Z Z.heap "com/example/last_mile/lastmile/store/EndpointLoad$Speed" "SLOW" "Lcom/example/last_mile/lastmile/store/EndpointLoad$Speed;" (.ref wSLOW)) (ne_Q : ¬ (wQUICK = wUNTRIED)) (ne_S : ¬ (wSLOW = wUNTRIED)) :
    MetFree l x (head1 (Jvm.Cond.code x code maxLocals ret :: ws) room_1) (fun a U => a = #[(.int p0), (.int p1), (.int p2)] ∧ Z.Warmed39 U.vm ∧ U.heap = h0) (fun _ _ _ _ _ => True) (fun _ U o U' => ∃ v L, o = .returned v ∧ Q0 Z p0 p1 p2 wUNTRIED wQUICK wSLOW h0 n0 v U'.heap L ∧ FrameEnd U o U' L room_1.cells room_1.slots) := by
  refine MetFree.of_bodySF pn_0 hisR ?_
  intro p e s m args below meth c s₁ Bd hml0 hP hK
  obtain ⟨rfl, hZ, hh⟩ := hP
  have hx := Bd.exec
  have hby := Bd.bytes
  have hml : c.maxLocals = 7 := hml0
  have hown : s.vm.findClass "com/example/last_mile/lastmile/store/ClaimSharesMostPinLaw" = some m.cls := findClass_of_methodNamed Bd.named
  have hnm := (name_of_methodNamed Bd.named Bd.method).1
  have X0 : Stand p l e room_1 s m #[(.int p0), (.int p1), (.int p2)] below meth c s₁ [] 0 0 := Stand.of_body Bd
  have e0 : s₁.heap = h0 := by rw [← hh, Bd.state]; rfl
  have N0 := Fr.nil n0
  refine own_at (castTop (ef_0 m p0 p1 p2)) ?_
  have K0 := Keep.refl h0 []
  obtain ⟨T00, h00, X00, e00, E00, A00, D00, -, st00⟩ := newO X0 hx hZ hown (hw _ (List.mem_of_getElem? (i := 0) rfl)) (hw _ (List.mem_of_getElem? (i := 1) rfl)) (hw _ (List.mem_of_getElem? (i := 2) rfl)) e0 (g := (mkF m 0 (own_AIIIUUUU p0 p1 p2) [])) rfl (hb hby at_0) (by decide) (by decide)
  obtain ⟨b00, g00⟩ : ∃ z, z = h0.size := ⟨_, rfl⟩
  rw [← g00] at A00 D00 st00
  have g_b00 : n0 ≤ b00 := Nat.le_trans Z0 (Nat.le_of_eq g00.symm)
  have sz_b00 : h0.size ≤ b00 := Nat.le_trans K0.1 (Nat.le_of_eq g00.symm)
  have K00 := K0.ext E00
  have Z00 : n0 ≤ h00.size := Nat.le_trans Z0 E00.1
  have F_endpoint_b00 : Fld Z h00 b00 "com/example/last_mile/lastmile/store/ClaimShares" "endpoint" "I" (.int (0 : Int32)) := D00 (Or.inr (hw _ (List.mem_of_getElem? (i := 15) rfl))) (ty := .int) (by decide)
  have F_untried_b00 : Fld Z h00 b00 "com/example/last_mile/lastmile/store/ClaimShares" "untried" "I" (.int (0 : Int32)) := D00 (Or.inr (hw _ (List.mem_of_getElem? (i := 17) rfl))) (ty := .int) (by decide)
  have F_slow_b00 : Fld Z h00 b00 "com/example/last_mile/lastmile/store/ClaimShares" "slow" "I" (.int (0 : Int32)) := D00 (Or.inr (hw _ (List.mem_of_getElem? (i := 19) rfl))) (ty := .int) (by decide)
  refine own_by st00 ?_
  have sg7 : ∀ t, own_S p e below T00 (mkF m 7 (own_AIIIUUUU p0 p1 p2) [(.int p2), (.int p1), (.int p0), (.ref b00), (.ref b00)]) t → own_S p e below T00 (mkF m 3 (own_AIIIUUUU p0 p1 p2) [(.ref b00)]) t := by
    intro t k
    show own_S p e below T00 (mkF m 3 (own_AIIIUUUU p0 p1 p2) [(.ref b00)]) _
    refine XS.dup X00.here hx rfl (hb hby at_3) rfl rfl ?_
    show own_S p e below T00 (mkF m 4 (own_AIIIUUUU p0 p1 p2) [(.ref b00), (.ref b00)]) _
    refine XS.iloadN X00.here hx rfl (hb hby at_4) rfl ?_
    show own_S p e below T00 (mkF m 5 (own_AIIIUUUU p0 p1 p2) [(.int p0), (.ref b00), (.ref b00)]) _
    refine XS.iloadN X00.here hx rfl (hb hby at_5) rfl ?_
    show own_S p e below T00 (mkF m 6 (own_AIIIUUUU p0 p1 p2) [(.int p1), (.int p0), (.ref b00), (.ref b00)]) _
    refine XS.iloadN X00.here hx rfl (hb hby at_6) rfl ?_
    exact k
  refine own_by sg7 ?_
  obtain ⟨_, _, ⟨T7, L7, k7, n7⟩, -, X7, ⟨Lc7, hQ7, l7, y7, z7⟩, st7⟩ := X00.specialBack hx (y := (⟨"com/example/last_mile/lastmile/store/ClaimShares", "<init>", "(III)V"⟩ : MethodName)) rfl hown (mvT hZ (hw _ (List.mem_of_getElem? (i := 3) rfl))) (mvT hZ (hw _ (List.mem_of_getElem? (i := 4) rfl))) (mvT hZ (hw _ (List.mem_of_getElem? (i := 5) rfl))) (by decide) (backOf (W := 1) (rm1 l Z a0 hw [] b00 p0 p1 p2 h00 n0 Z00 A00 F_endpoint_b00 F_untried_b00 F_slow_b00 g_b00) hZ (hw _ (List.mem_of_getElem? (i := 5) rfl)) (hw _ (List.mem_of_getElem? (i := 2) rfl)) (by decide) (by decide)) (g := (mkF m 7 (own_AIIIUUUU p0 p1 p2) [(.int p2), (.int p1), (.int p0), (.ref b00), (.ref b00)])) rfl (by rw [hml]; rfl) (Steps.refl _) (a := b00) (argsL := [(.int p0), (.int p1), (.int p2)]) (rest := [(.ref b00)]) (lenOf pd_0_0 rfl) rfl (by show 2 * 0 + _ ≤ _; exact Nat.le_of_eq rfl) (hb hby at_7) (fun _ _ => ⟨rfl, e00, (by decide : 1 + 0 ≤ _), (by decide : 3 + 0 ≤ _)⟩)
  dsimp only [Pt.U, Pt.locs, Pt.cells, Pt.slots] at X7 l7 y7 z7 st7 hQ7
  subst l7 y7 z7
  obtain ⟨rfl, N7q, Kq7, Eq7, Fendpoint_7, Funtried_7, Fslow_7⟩ := hQ7
  have N7 := Fr.app N0 N7q
  have K7 : Keep h0 T7.heap [] := K00.trans Kq7 (fun x hx => by cases List.mem_singleton.mp hx; exact Or.inr sz_b00)
  have Z7 : n0 ≤ T7.heap.size := Nat.le_trans Z00 Kq7.1
  refine own_by (fun t k => st7.trans k) ?_
  have sg12 : ∀ t, own_S p e below T7 (mkF m 12 (own_AIIIRUUU p0 p1 p2 b00) [(.ref b00)]) t → own_S p e below T7 (mkF m 10 (own_AIIIUUUU p0 p1 p2) [(.ref b00)]) t := by
    intro t k
    show own_S p e below T7 (mkF m 10 (own_AIIIUUUU p0 p1 p2) [(.ref b00)]) _
    refine XS.astoreN X7.here hx rfl (hb hby at_10) rfl rfl (l' := (own_AIIIRUUU p0 p1 p2 b00)) rfl ?_
    show own_S p e below T7 (mkF m 11 (own_AIIIRUUU p0 p1 p2 b00) []) _
    refine XS.aloadN X7.here hx rfl (hb hby at_11) rfl rfl ?_
    exact k
  refine own_by sg12 ?_
  obtain ⟨T12, X12, e12, st12⟩ := getS2 X7 hx hZ hown (host := "") (Or.inl (hw _ (List.mem_of_getElem? (i := 20) rfl))) Via.refl rfl (S_UNTRIED.ext ((O.ext E00).keep Kq7 (allS g_b00 all0)).2) (g := (mkF m 12 (own_AIIIRUUU p0 p1 p2 b00) [(.ref b00)])) rfl (hb hby at_12)
  refine own_by st12 ?_
  obtain ⟨cq15, kq15, q15a, q15b, q15c⟩ := isOf hZ e12 Eq7
  obtain ⟨_, _, ⟨T15, L15, k15, n15⟩, -, X15, ⟨Lc15, hQ15, l15, y15, z15⟩, st15⟩ := X12.virtualBack hx (y := (⟨"com/example/last_mile/lastmile/store/ClaimShares", "most", "(Lcom/example/last_mile/lastmile/store/EndpointLoad$Speed;)I"⟩ : MethodName)) (z := (⟨"com/example/last_mile/lastmile/store/ClaimShares", "most", "(Lcom/example/last_mile/lastmile/store/EndpointLoad$Speed;)I"⟩ : MethodName)) hown (mvT hZ (hw _ (List.mem_of_getElem? (i := 23) rfl))) (mvT hZ (hw _ (List.mem_of_getElem? (i := 24) rfl))) (notFace_of_selects (args := #[]) (mvT hZ (hw _ (List.mem_of_getElem? (i := 26) rfl)))) (mvT hZ (hw _ (List.mem_of_getElem? (i := 26) rfl))) (mvT hZ (hw _ (List.mem_of_getElem? (i := 25) rfl))) (by decide) (backOf (W := 0) (rm4 l Z a0 hw [] b00 wUNTRIED wUNTRIED p1 p0 T7.heap n0 Z7 (S_UNTRIED.ext ((O.ext E00).keep Kq7 (allS g_b00 all0)).2) Funtried_7 Fendpoint_7) hZ (hw _ (List.mem_of_getElem? (i := 27) rfl)) (hw _ (List.mem_of_getElem? (i := 2) rfl)) (by decide) (by decide)) q15a q15c (g := (mkF m 15 (own_AIIIRUUU p0 p1 p2 b00) [(.ref wUNTRIED), (.ref b00)])) rfl (by rw [hml]; rfl) (Steps.refl _) (argsL := [(.ref wUNTRIED)]) (rest := []) (lenOf pd_0_1 rfl) rfl (by show 2 * 0 + _ ≤ _; exact Nat.le_of_eq rfl) (hb hby at_15) (fun _ _ => ⟨rfl, e12, (by decide : 1 + 0 ≤ _), (by decide : 3 + 0 ≤ _)⟩)
  dsimp only [Pt.U, Pt.locs, Pt.cells, Pt.slots] at X15 l15 y15 z15 st15 hQ15
  subst l15 y15 z15
  obtain ⟨rfl, N15q, hq15⟩ := hQ15
  have N15 := Fr.app N7 N15q
  obtain ⟨c15, hc15⟩ : ∃ z : Int32, z = (if wUNTRIED = wUNTRIED then p1 else p0) := ⟨_, rfl⟩
  rw [← hc15] at st15
  refine own_by (fun t k => st15.trans k) ?_
  have sg21 : ∀ t, own_S p e below T15 (mkF m 21 (own_AIIIRIUU p0 p1 p2 b00 c15) [(.ref b00)]) t → own_S p e below T15 (mkF m 18 (own_AIIIRUUU p0 p1 p2 b00) [(.int c15)]) t := by
    intro t k
    show own_S p e below T15 (mkF m 18 (own_AIIIRUUU p0 p1 p2 b00) [(.int c15)]) _
    refine XS.istore X15.here hx rfl (hb hby at_18) rfl (l' := (own_AIIIRIUU p0 p1 p2 b00 c15)) rfl ?_
    show own_S p e below T15 (mkF m 20 (own_AIIIRIUU p0 p1 p2 b00 c15) []) _
    refine XS.aloadN X15.here hx rfl (hb hby at_20) rfl rfl ?_
    exact k
  refine own_by sg21 ?_
  obtain ⟨T21, X21, e21, st21⟩ := getS2 X15 hx hZ hown (host := "") (Or.inl (hw _ (List.mem_of_getElem? (i := 29) rfl))) Via.refl hq15 (S_QUICK.ext ((O.ext E00).keep Kq7 (allS g_b00 all0)).2) (g := (mkF m 21 (own_AIIIRIUU p0 p1 p2 b00 c15) [(.ref b00)])) rfl (hb hby at_21)
  refine own_by st21 ?_
  obtain ⟨cq24, kq24, q24a, q24b, q24c⟩ := isOf hZ e21 Eq7
  obtain ⟨_, _, ⟨T24, L24, k24, n24⟩, -, X24, ⟨Lc24, hQ24, l24, y24, z24⟩, st24⟩ := X21.virtualBack hx (y := (⟨"com/example/last_mile/lastmile/store/ClaimShares", "most", "(Lcom/example/last_mile/lastmile/store/EndpointLoad$Speed;)I"⟩ : MethodName)) (z := (⟨"com/example/last_mile/lastmile/store/ClaimShares", "most", "(Lcom/example/last_mile/lastmile/store/EndpointLoad$Speed;)I"⟩ : MethodName)) hown (mvT hZ (hw _ (List.mem_of_getElem? (i := 23) rfl))) (mvT hZ (hw _ (List.mem_of_getElem? (i := 24) rfl))) (notFace_of_selects (args := #[]) (mvT hZ (hw _ (List.mem_of_getElem? (i := 26) rfl)))) (mvT hZ (hw _ (List.mem_of_getElem? (i := 26) rfl))) (mvT hZ (hw _ (List.mem_of_getElem? (i := 25) rfl))) (by decide) (backOf (W := 0) (rm4 l Z a0 hw [] b00 wQUICK wUNTRIED p1 p0 T7.heap n0 Z7 (S_UNTRIED.ext ((O.ext E00).keep Kq7 (allS g_b00 all0)).2) Funtried_7 Fendpoint_7) hZ (hw _ (List.mem_of_getElem? (i := 27) rfl)) (hw _ (List.mem_of_getElem? (i := 2) rfl)) (by decide) (by decide)) q24a q24c (g := (mkF m 24 (own_AIIIRIUU p0 p1 p2 b00 c15) [(.ref wQUICK), (.ref b00)])) rfl (by rw [hml]; rfl) (Steps.refl _) (argsL := [(.ref wQUICK)]) (rest := []) (lenOf pd_0_1 rfl) rfl (by show 2 * 0 + _ ≤ _; exact Nat.le_of_eq rfl) (hb hby at_24) (fun _ _ => ⟨rfl, e21, (by decide : 1 + 0 ≤ _), (by decide : 3 + 0 ≤ _)⟩)
  dsimp only [Pt.U, Pt.locs, Pt.cells, Pt.slots] at X24 l24 y24 z24 st24 hQ24
  subst l24 y24 z24
  obtain ⟨rfl, N24q, hq24⟩ := hQ24
  have N24 := Fr.app N15 N24q
  obtain ⟨c24, hc24⟩ : ∃ z : Int32, z = (if wQUICK = wUNTRIED then p1 else p0) := ⟨_, rfl⟩
  rw [← hc24] at st24
  refine own_by (fun t k => st24.trans k) ?_
  have sg30 : ∀ t, own_S p e below T24 (mkF m 30 (own_AIIIRIIU p0 p1 p2 b00 c15 c24) [(.ref b00)]) t → own_S p e below T24 (mkF m 27 (own_AIIIRIUU p0 p1 p2 b00 c15) [(.int c24)]) t := by
    intro t k
    show own_S p e below T24 (mkF m 27 (own_AIIIRIUU p0 p1 p2 b00 c15) [(.int c24)]) _
    refine XS.istore X24.here hx rfl (hb hby at_27) rfl (l' := (own_AIIIRIIU p0 p1 p2 b00 c15 c24)) rfl ?_
    show own_S p e below T24 (mkF m 29 (own_AIIIRIIU p0 p1 p2 b00 c15 c24) []) _
    refine XS.aloadN X24.here hx rfl (hb hby at_29) rfl rfl ?_
    exact k
  refine own_by sg30 ?_
  obtain ⟨T30, X30, e30, st30⟩ := getS2 X24 hx hZ hown (host := "") (Or.inl (hw _ (List.mem_of_getElem? (i := 31) rfl))) Via.refl hq24 (S_SLOW.ext ((O.ext E00).keep Kq7 (allS g_b00 all0)).2) (g := (mkF m 30 (own_AIIIRIIU p0 p1 p2 b00 c15 c24) [(.ref b00)])) rfl (hb hby at_30)
  refine own_by st30 ?_
  obtain ⟨cq33, kq33, q33a, q33b, q33c⟩ := isOf hZ e30 Eq7
  obtain ⟨_, _, ⟨T33, L33, k33, n33⟩, -, X33, ⟨Lc33, hQ33, l33, y33, z33⟩, st33⟩ := X30.virtualBack hx (y := (⟨"com/example/last_mile/lastmile/store/ClaimShares", "most", "(Lcom/example/last_mile/lastmile/store/EndpointLoad$Speed;)I"⟩ : MethodName)) (z := (⟨"com/example/last_mile/lastmile/store/ClaimShares", "most", "(Lcom/example/last_mile/lastmile/store/EndpointLoad$Speed;)I"⟩ : MethodName)) hown (mvT hZ (hw _ (List.mem_of_getElem? (i := 23) rfl))) (mvT hZ (hw _ (List.mem_of_getElem? (i := 24) rfl))) (notFace_of_selects (args := #[]) (mvT hZ (hw _ (List.mem_of_getElem? (i := 26) rfl)))) (mvT hZ (hw _ (List.mem_of_getElem? (i := 26) rfl))) (mvT hZ (hw _ (List.mem_of_getElem? (i := 25) rfl))) (by decide) (backOf (W := 0) (rm4 l Z a0 hw [] b00 wSLOW wUNTRIED p1 p0 T7.heap n0 Z7 (S_UNTRIED.ext ((O.ext E00).keep Kq7 (allS g_b00 all0)).2) Funtried_7 Fendpoint_7) hZ (hw _ (List.mem_of_getElem? (i := 27) rfl)) (hw _ (List.mem_of_getElem? (i := 2) rfl)) (by decide) (by decide)) q33a q33c (g := (mkF m 33 (own_AIIIRIIU p0 p1 p2 b00 c15 c24) [(.ref wSLOW), (.ref b00)])) rfl (by rw [hml]; rfl) (Steps.refl _) (argsL := [(.ref wSLOW)]) (rest := []) (lenOf pd_0_1 rfl) rfl (by show 2 * 0 + _ ≤ _; exact Nat.le_of_eq rfl) (hb hby at_33) (fun _ _ => ⟨rfl, e30, (by decide : 1 + 0 ≤ _), (by decide : 3 + 0 ≤ _)⟩)
  dsimp only [Pt.U, Pt.locs, Pt.cells, Pt.slots] at X33 l33 y33 z33 st33 hQ33
  subst l33 y33 z33
  obtain ⟨rfl, N33q, hq33⟩ := hQ33
  have N33 := Fr.app N24 N33q
  obtain ⟨c33, hc33⟩ : ∃ z : Int32, z = (if wSLOW = wUNTRIED then p1 else p0) := ⟨_, rfl⟩
  rw [← hc33] at st33
  refine own_by (fun t k => st33.trans k) ?_
  have sg61 : ∀ t, own_S p e below T33 (mkF m 61 (own_AIIIRIII p0 p1 p2 b00 c15 c24 c33) [(.int (1 : Int32))]) t → own_S p e below T33 (mkF m 36 (own_AIIIRIIU p0 p1 p2 b00 c15 c24) [(.int c33)]) t := by
    intro t k
    show own_S p e below T33 (mkF m 36 (own_AIIIRIIU p0 p1 p2 b00 c15 c24) [(.int c33)]) _
    refine XS.istore X33.here hx rfl (hb hby at_36) rfl (l' := (own_AIIIRIII p0 p1 p2 b00 c15 c24 c33)) rfl ?_
    show own_S p e below T33 (mkF m 38 (own_AIIIRIII p0 p1 p2 b00 c15 c24 c33) []) _
    refine XS.iload X33.here hx rfl (hb hby at_38) rfl ?_
    show own_S p e below T33 (mkF m 40 (own_AIIIRIII p0 p1 p2 b00 c15 c24 c33) [(.int c15)]) _
    refine XS.iloadN X33.here hx rfl (hb hby at_40) rfl ?_
    show own_S p e below T33 (mkF m 41 (own_AIIIRIII p0 p1 p2 b00 c15 c24 c33) [(.int p1), (.int c15)]) _
    refine XS.icmpNo X33.here hx rfl (hb hby at_41) rfl (teq (by rw [hc15]; simp : c15 = p1)).2 ?_
    show own_S p e below T33 (mkF m 44 (own_AIIIRIII p0 p1 p2 b00 c15 c24 c33) []) _
    refine XS.iload X33.here hx rfl (hb hby at_44) rfl ?_
    show own_S p e below T33 (mkF m 46 (own_AIIIRIII p0 p1 p2 b00 c15 c24 c33) [(.int c24)]) _
    refine XS.iloadN X33.here hx rfl (hb hby at_46) rfl ?_
    show own_S p e below T33 (mkF m 47 (own_AIIIRIII p0 p1 p2 b00 c15 c24 c33) [(.int p0), (.int c24)]) _
    refine XS.icmpNo X33.here hx rfl (hb hby at_47) rfl (teq (by rw [hc24]; simp [ne_Q] : c24 = p0)).2 ?_
    show own_S p e below T33 (mkF m 50 (own_AIIIRIII p0 p1 p2 b00 c15 c24 c33) []) _
    refine XS.iload X33.here hx rfl (hb hby at_50) rfl ?_
    show own_S p e below T33 (mkF m 52 (own_AIIIRIII p0 p1 p2 b00 c15 c24 c33) [(.int c33)]) _
    refine XS.iloadN X33.here hx rfl (hb hby at_52) rfl ?_
    show own_S p e below T33 (mkF m 53 (own_AIIIRIII p0 p1 p2 b00 c15 c24 c33) [(.int p0), (.int c33)]) _
    refine XS.icmpNo X33.here hx rfl (hb hby at_53) rfl (teq (by rw [hc33]; simp [ne_S] : c33 = p0)).2 ?_
    show own_S p e below T33 (mkF m 56 (own_AIIIRIII p0 p1 p2 b00 c15 c24 c33) []) _
    refine XS.iconst X33.here hx rfl (hb hby at_56) ?_
    show own_S p e below T33 (mkF m 57 (own_AIIIRIII p0 p1 p2 b00 c15 c24 c33) [(.int (1 : Int32))]) _
    refine XS.goto X33.here hx rfl (pc0 := 57) (pc' := 61) rfl (hb hby at_57) (by decide) (by decide) ?_
    exact k
  refine own_by sg61 ?_
  obtain ⟨fs, hr, hrun, hended, hW, hsame⟩ := X33.leave (v := some (.int (1 : Int32))) (fun h => by rw [Bd.returns] at h; cases h)
  refine ⟨_, _, ?_, hrun, hended, _, _, rfl, ?_, ⟨_, rfl⟩, hW, hsame.mono (by decide) (by decide)⟩
  · exact retN X33 hx (t := .boolean) Bd.returns (by simp) (hb hby at_61) hr
  · show Q0 Z p0 p1 p2 wUNTRIED wQUICK wSLOW h0 n0 _ T33.heap _
    rw [hq33]
    exact ⟨rfl, N33⟩
set_option maxRecDepth 65536 in
set_option maxHeartbeats 40000000 in
theorem comes_1 {Post : Tables → Env → Array Value → State → Outcome → State → Prop} (hpost : ∀ tb e args s v u, (limb_1_1.after args s (.returned v) u = true ∧ limb_1_2.after args s (.returned v) u = true ∧ True) → FrameEnd s (.returned v) u (Jvm.fieldLocs frame_1_writes args s ++ Jvm.arrayLocs frame_1_arrays args s ++ Jvm.staticLocs frame_1_statics s) 16 128 → Post tb e args s (.returned v) u) :
    ArmFor flags0 classFile x code maxLocals ret World_1 tables_1 room_1 Calls_1 rest_1 Pre_1 Post := by
  intro l hfl _ _ p e ha hc hk s m args below hf hA hF happ hP
  obtain ⟨hcalls, hrest, hpre⟩ := hP
  obtain ⟨-, -, -, hnamed, -, -, -, hat⟩ := (Spec.applies_iff hf).mp happ
  obtain ⟨hg, nn⟩ := and_e (Cond.before_iff.mp (show (Jvm.Cond.and given_1 narrow_1).before args s = true from hpre))
  obtain ⟨hh0, hh1⟩ := and_e hg
  obtain ⟨hh2, hh3⟩ := and_e hh1
  obtain ⟨hh4, hh5⟩ := and_e hh3
  obtain ⟨w0, w1, w2, rfl⟩ : ∃ w0 w1 w2 : Value, args = #[w0, w1, w2] := by
    have hs : args.size = 3 := by simpa [Cond.value, given_1] using hh0
    obtain ⟨L⟩ := args
    match L, hs with
    | [w0, w1, w2], _ => exact ⟨w0, w1, w2, rfl⟩
  have hw := fun d (hd : d ∈ tables_1) => atoms_spec (ws := Jvm.Cond.code x code maxLocals ret :: tables_1) hat d (List.mem_cons_of_mem _ hd)
  have hfit : Fit s := fun {y c} hc i hi => by
    obtain ⟨ha, rfl⟩ := Array.getElem?_eq_some_iff.mp hc
    have q := List.all_eq_true.mp ((Array.all_eq_true_iff_forall_mem.mp hF) _ (Array.getElem_mem ha)) i (List.mem_range.mpr hi)
    simpa [Array.getElem?_eq_getElem hi] using q
  obtain ⟨i0, ei0⟩ := is_v hh2
  obtain rfl : w0 = (.int i0) := Option.some.inj ei0
  obtain ⟨i1, ei1⟩ := is_v hh4
  obtain rfl : w1 = (.int i1) := Option.some.inj ei1
  obtain ⟨i2, ei2⟩ := is_v hh5
  obtain rfl : w2 = (.int i2) := Option.some.inj ei2
  obtain ⟨nn0, nn1⟩ := and_e nn
  obtain ⟨nn2, nn3⟩ := and_e nn1
  obtain ⟨nn4, nn5⟩ := and_e nn3
  obtain ⟨nn6, nn7⟩ := and_e nn5
  obtain ⟨nn8, nn9⟩ := and_e nn7
  obtain ⟨u_UNTRIED, ev_u_UNTRIED⟩ := exa_v nn0
  have Ex_u_UNTRIED := Exa.start ev_u_UNTRIED nn0
  have St_u_UNTRIED := Sta.start ev_u_UNTRIED (Or.inr ⟨(hw _ (List.mem_of_getElem? (i := 21) rfl)), (hw _ (List.mem_of_getElem? (i := 22) rfl))⟩)
  obtain ⟨u_QUICK, ev_u_QUICK⟩ := exa_v nn2
  have Ex_u_QUICK := Exa.start ev_u_QUICK nn2
  have St_u_QUICK := Sta.start ev_u_QUICK (Or.inr ⟨(hw _ (List.mem_of_getElem? (i := 21) rfl)), (hw _ (List.mem_of_getElem? (i := 30) rfl))⟩)
  obtain ⟨u_SLOW, ev_u_SLOW⟩ := exa_v nn8
  have Ex_u_SLOW := Exa.start ev_u_SLOW nn8
  have St_u_SLOW := Sta.start ev_u_SLOW (Or.inr ⟨(hw _ (List.mem_of_getElem? (i := 21) rfl)), (hw _ (List.mem_of_getElem? (i := 32) rfl))⟩)
  have Fl_u_QUICK_ordinal := own_fld ev_u_QUICK nn4
  have Fl_u_UNTRIED_ordinal := own_fld ev_u_UNTRIED nn6
  have Fl_u_SLOW_ordinal := own_fld ev_u_SLOW nn9
  obtain ⟨n, o, h1, h2, h3, _, L, rfl, ⟨rfl, N⟩, hq⟩ := rm0 l s _ hw tables_1 i0 i1 i2 u_UNTRIED u_QUICK u_SLOW s.heap s.heap.size (Nat.le_refl _) (Old.start s) St_u_UNTRIED St_u_QUICK St_u_SLOW (Fld.ne Fl_u_QUICK_ordinal Fl_u_UNTRIED_ordinal (by simp)) (Fld.ne Fl_u_SLOW_ordinal Fl_u_UNTRIED_ordinal (by simp)) p e ha hc hk s m _ below hf ((Spec.applies_iff_loose hf).mp happ).1 ⟨rfl, State.Warmed39.refl s, rfl⟩ trivial
  refine ⟨n, _, h1, h2, h3, hpost _ _ _ _ _ _ ⟨Cond.after_iff.mpr rfl, Cond.after_iff.mpr (eq_i res_at (Term.int_eval (1)) rfl), trivial⟩ ⟨hq.1, hq.2.1, (hq.2.2.sift fun y hy => Or.inr (N y hy)).mono (by decide) (by decide)⟩⟩
theorem main_1_1 : Claimed_1_1 := comes_1 fun _ _ _ _ _ _ h hF => ⟨h.1, hF⟩
theorem main_1_2 : Claimed_1_2 := comes_1 fun _ _ _ _ _ _ h hF => ⟨h.2.1, hF⟩
end Jvm.Pilot.@@N@@
namespace Jvm.Pilot.@@N@@
open Jvm Jvm.ClassFile Sem Op Lib Jvm.Free Jvm.Stand Jvm.Pilot.@@N@@.Jvm.D
/-! MADE BY PROGRAM (witnessworld.py) out of the Statement's table words and the real class files: 14 classes; the members and pool entries that the words name. The judged class is class 1, her method 1. -/
namespace start1
open Jvm.ClassFile
def u (s : String) : CpInfo := .utf8 (stringToUtf16 s)
/-- a pool by its gaps: so many unusable entries, then the entry; so many at the end -/
def gap : Nat → List CpInfo → List CpInfo
  | 0, r => r
  | n + 1, r => .unusable :: gap n r
def poolList (es : List (Nat × CpInfo)) (last : Nat) : List CpInfo := es.foldr (fun e r => gap e.1 (e.2 :: r)) (gap last [])
def pool (es : List (Nat × CpInfo)) (last : Nat) : Array CpInfo := ⟨poolList es last⟩
def fileOf (pool : Array CpInfo) (this : Nat) (attrs : Array Attribute := #[]) (ms : Array MethodInfo := #[]) (fl : Nat := 33) (sup : Nat := 0) (ifs : Array Nat := #[]) (fds : Array FieldInfo := #[]) : ClassFile where
  minorVersion := 0
  majorVersion := 65
  constantPool := pool
  accessFlags := fl
  thisClass := this
  superClass := sup
  interfaces := ifs
  fields := fds
  methods := ms
  attributes := attrs
def plain (name : String) (sup : Option ClassId) : Class where
  name := name
  kind := .ordinary
  loader := none
  accessFlags := 33
  super := sup
  interfaces := #[]
  cf := none
  fields := #[]
  methods := #[]
  instanceTypes := #[]
  staticTypes := #[]
  resolved := #[]
  callSites := []
  init := .initialized
  statics := none
  mirror := none

def pool0 : Array CpInfo := pool [(5, u "<init>"), (0, u "()V"), (1, .class_ 10), (1, u "java/lang/Object")] 113

def k0c0 : Code := { maxStack := 0, maxLocals := 1, code := object_method_1_code, exceptionTable := #[], attributes := #[] }
def k0m0 : Method := { name := "<init>", desc := "()V", sig := { parameters := [], returnType := none }, accessFlags := 1, code := some k0c0 }
/-- java/lang/Object -/
def k0 : Class := { plain "java/lang/Object" none with
  accessFlags := 33
  interfaces := #[]
  cf := some (fileOf pool0 8 #[] #[{ accessFlags := 1, nameIndex := 5, descriptorIndex := 6, attributes := #[] }] 33 0 #[] #[])
  fields := #[]
  methods := #[k0m0]
  instanceTypes := #[]
  staticTypes := #[]
  resolved := Array.replicate 124 none
  statics := none }

def pool1 : Array CpInfo := pool [(2, .class_ 4), (1, u "java/lang/Object"), (0, u "<init>"), (0, u "()V"), (0, .class_ 8), (0, u "com/example/last_mile/lastmile/store/ClaimShares"), (0, .methodref 7 10), (0, .nameAndType 5 11), (0, u "(III)V"), (0, .fieldref 13 14), (0, .class_ 15), (0, .nameAndType 16 17), (0, u "com/example/last_mile/lastmile/store/EndpointLoad$Speed"), (0, u "UNTRIED"), (0, u "Lcom/example/last_mile/lastmile/store/EndpointLoad$Speed;"), (0, .methodref 7 19), (0, .nameAndType 20 21), (0, u "most"), (0, u "(Lcom/example/last_mile/lastmile/store/EndpointLoad$Speed;)I"), (0, .fieldref 13 23), (0, .nameAndType 24 17), (0, u "QUICK"), (0, .fieldref 13 26), (0, .nameAndType 27 17), (0, u "SLOW"), (0, .class_ 29), (0, u "com/example/last_mile/lastmile/store/ClaimSharesMostPinLaw"), (2, u "law"), (0, u "(III)Z")] 7

def k1m0 : Method := { name := "<init>", desc := "()V", sig := { parameters := [], returnType := none }, accessFlags := 1, code := none }
def k1c1 : Code := { maxStack := 5, maxLocals := 7, code := code, exceptionTable := #[], attributes := #[] }
def k1m1 : Method := { name := "law", desc := "(III)Z", sig := { parameters := [.int, .int, .int], returnType := some .boolean }, accessFlags := 9, code := some k1c1 }
/-- com/example/last_mile/lastmile/store/ClaimSharesMostPinLaw -/
def k1 : Class := { plain "com/example/last_mile/lastmile/store/ClaimSharesMostPinLaw" (some 0) with
  accessFlags := 49
  interfaces := #[]
  cf := some (fileOf pool1 28 #[] #[{ accessFlags := 1, nameIndex := 5, descriptorIndex := 6, attributes := #[] }, { accessFlags := 9, nameIndex := 32, descriptorIndex := 33, attributes := #[] }] 49 2 #[] #[])
  fields := #[]
  methods := #[k1m0, k1m1]
  instanceTypes := #[]
  staticTypes := #[]
  resolved := Array.replicate 41 none
  statics := none }

def pool2 : Array CpInfo := pool [(1, .methodref 2 3), (0, .class_ 4), (0, .nameAndType 5 6), (0, u "java/lang/Object"), (0, u "<init>"), (0, u "()V"), (0, .class_ 8), (0, u "java/lang/Record")] 13

def k2c0 : Code := { maxStack := 1, maxLocals := 1, code := jdk_30_method_1_code, exceptionTable := #[], attributes := #[] }
def k2m0 : Method := { name := "<init>", desc := "()V", sig := { parameters := [], returnType := none }, accessFlags := 4, code := some k2c0 }
/-- java/lang/Record -/
def k2 : Class := { plain "java/lang/Record" (some 0) with
  accessFlags := 1057
  interfaces := #[]
  cf := some (fileOf pool2 7 #[] #[{ accessFlags := 4, nameIndex := 5, descriptorIndex := 6, attributes := #[] }] 1057 2 #[] #[])
  fields := #[]
  methods := #[k2m0]
  instanceTypes := #[]
  staticTypes := #[]
  resolved := Array.replicate 22 none
  statics := none }

def pool3 : Array CpInfo := pool [(1, .methodref 2 3), (0, .class_ 4), (0, .nameAndType 5 6), (0, u "java/lang/Record"), (0, u "<init>"), (0, u "()V"), (0, .fieldref 8 9), (0, .class_ 10), (0, .nameAndType 11 12), (0, u "com/example/last_mile/lastmile/store/ClaimShares"), (0, u "endpoint"), (0, u "I"), (0, .fieldref 8 14), (0, .nameAndType 15 12), (0, u "untried"), (0, .fieldref 8 17), (0, .nameAndType 18 12), (0, u "slow"), (0, .fieldref 20 21), (0, .class_ 22), (0, .nameAndType 23 24), (0, u "com/example/last_mile/lastmile/store/EndpointLoad$Speed"), (0, u "UNTRIED"), (0, u "Lcom/example/last_mile/lastmile/store/EndpointLoad$Speed;"), (12, u "(III)V"), (3, u "most"), (0, u "(Lcom/example/last_mile/lastmile/store/EndpointLoad$Speed;)I")] 29

def k3c0 : Code := { maxStack := 2, maxLocals := 4, code := prog_34_method_1_code, exceptionTable := #[], attributes := #[] }
def k3m0 : Method := { name := "<init>", desc := "(III)V", sig := { parameters := [.int, .int, .int], returnType := none }, accessFlags := 1, code := some k3c0 }
def k3c1 : Code := { maxStack := 2, maxLocals := 2, code := prog_34_method_2_code, exceptionTable := #[], attributes := #[] }
def k3m1 : Method := { name := "most", desc := "(Lcom/example/last_mile/lastmile/store/EndpointLoad$Speed;)I", sig := { parameters := [(.object "com/example/last_mile/lastmile/store/EndpointLoad$Speed")], returnType := some .int }, accessFlags := 1, code := some k3c1 }
/-- com/example/last_mile/lastmile/store/ClaimShares -/
def k3 : Class := { plain "com/example/last_mile/lastmile/store/ClaimShares" (some 2) with
  accessFlags := 49
  interfaces := #[]
  cf := some (fileOf pool3 8 #[] #[{ accessFlags := 1, nameIndex := 5, descriptorIndex := 37, attributes := #[] }, { accessFlags := 1, nameIndex := 41, descriptorIndex := 42, attributes := #[] }] 49 2 #[] #[{ accessFlags := 18, nameIndex := 11, descriptorIndex := 12, attributes := #[] }, { accessFlags := 18, nameIndex := 15, descriptorIndex := 12, attributes := #[] }, { accessFlags := 18, nameIndex := 18, descriptorIndex := 12, attributes := #[] }])
  fields := #[{ name := "endpoint", type := .int, accessFlags := 18, slot := 0, constantValue := 0 }, { name := "untried", type := .int, accessFlags := 18, slot := 1, constantValue := 0 }, { name := "slow", type := .int, accessFlags := 18, slot := 2, constantValue := 0 }]
  methods := #[k3m0, k3m1]
  instanceTypes := #[.int, .int, .int]
  staticTypes := #[]
  resolved := Array.replicate 72 none
  statics := none }

def pool4 : Array CpInfo := pool [(1, .class_ 2), (0, u "java/lang/constant/Constable"), (0, .class_ 4), (0, u "java/lang/Object")] 6

/-- java/lang/constant/Constable -/
def k4 : Class := { plain "java/lang/constant/Constable" (some 0) with
  accessFlags := 1537
  interfaces := #[]
  cf := some (fileOf pool4 1 #[] #[] 1537 3 #[] #[])
  fields := #[]
  methods := #[]
  instanceTypes := #[]
  staticTypes := #[]
  resolved := Array.replicate 11 none
  statics := none }

def pool5 : Array CpInfo := pool [(1, .class_ 2), (0, u "java/lang/Comparable"), (0, .class_ 4), (0, u "java/lang/Object")] 7

/-- java/lang/Comparable -/
def k5 : Class := { plain "java/lang/Comparable" (some 0) with
  accessFlags := 1537
  interfaces := #[]
  cf := some (fileOf pool5 1 #[] #[] 1537 3 #[] #[])
  fields := #[]
  methods := #[]
  instanceTypes := #[]
  staticTypes := #[]
  resolved := Array.replicate 12 none
  statics := none }

def pool6 : Array CpInfo := pool [(1, .class_ 2), (0, u "java/io/Serializable"), (0, .class_ 4), (0, u "java/lang/Object")] 2

/-- java/io/Serializable -/
def k6 : Class := { plain "java/io/Serializable" (some 0) with
  accessFlags := 1537
  interfaces := #[]
  cf := some (fileOf pool6 1 #[] #[] 1537 3 #[] #[])
  fields := #[]
  methods := #[]
  instanceTypes := #[]
  staticTypes := #[]
  resolved := Array.replicate 7 none
  statics := none }

def pool7 : Array CpInfo := pool [(2, .class_ 4), (1, u "java/lang/Enum"), (0, u "name"), (0, u "Ljava/lang/String;"), (2, u "ordinal"), (0, u "I"), (1, .class_ 14), (1, u "java/lang/Object"), (4, u "hash"), (86, .class_ 108), (1, u "java/lang/Enum$EnumDesc"), (2, .class_ 112), (0, u "java/lang/constant/Constable"), (0, .class_ 114), (0, u "java/lang/Comparable"), (0, .class_ 116), (0, u "java/io/Serializable")] 87

/-- java/lang/Enum -/
def k7 : Class := { plain "java/lang/Enum" (some 0) with
  accessFlags := 1057
  interfaces := #[4, 5, 6]
  cf := some (fileOf pool7 2 #[.nestMembers #[106]] #[] 1057 12 #[111, 113, 115] #[{ accessFlags := 18, nameIndex := 5, descriptorIndex := 6, attributes := #[] }, { accessFlags := 18, nameIndex := 9, descriptorIndex := 10, attributes := #[] }, { accessFlags := 2, nameIndex := 19, descriptorIndex := 10, attributes := #[] }])
  fields := #[{ name := "name", type := (.object "java/lang/String"), accessFlags := 18, slot := 0, constantValue := 0 }, { name := "ordinal", type := .int, accessFlags := 18, slot := 1, constantValue := 0 }, { name := "hash", type := .int, accessFlags := 2, slot := 2, constantValue := 0 }]
  methods := #[]
  instanceTypes := #[(.object "java/lang/String"), .int, .int]
  staticTypes := #[]
  resolved := Array.replicate 204 none
  statics := none }

def pool8 : Array CpInfo := pool [(1, .class_ 2), (0, u "com/example/last_mile/lastmile/store/EndpointLoad$Speed"), (2, u "UNTRIED"), (0, u "Lcom/example/last_mile/lastmile/store/EndpointLoad$Speed;"), (2, u "QUICK"), (2, u "SLOW"), (2, u "$VALUES"), (0, u "[Lcom/example/last_mile/lastmile/store/EndpointLoad$Speed;"), (6, .class_ 25), (1, u "java/lang/Enum"), (26, .class_ 53), (0, u "com/example/last_mile/lastmile/store/EndpointLoad")] 2

/-- com/example/last_mile/lastmile/store/EndpointLoad$Speed -/
def k8 : Class := { plain "com/example/last_mile/lastmile/store/EndpointLoad$Speed" (some 7) with
  accessFlags := 16433
  interfaces := #[]
  cf := some (fileOf pool8 1 #[.nestHost 52] #[] 16433 23 #[] #[{ accessFlags := 16409, nameIndex := 5, descriptorIndex := 6, attributes := #[] }, { accessFlags := 16409, nameIndex := 9, descriptorIndex := 6, attributes := #[] }, { accessFlags := 16409, nameIndex := 12, descriptorIndex := 6, attributes := #[] }, { accessFlags := 4122, nameIndex := 15, descriptorIndex := 16, attributes := #[] }])
  fields := #[{ name := "UNTRIED", type := (.object "com/example/last_mile/lastmile/store/EndpointLoad$Speed"), accessFlags := 16409, slot := 0, constantValue := 0 }, { name := "QUICK", type := (.object "com/example/last_mile/lastmile/store/EndpointLoad$Speed"), accessFlags := 16409, slot := 1, constantValue := 0 }, { name := "SLOW", type := (.object "com/example/last_mile/lastmile/store/EndpointLoad$Speed"), accessFlags := 16409, slot := 2, constantValue := 0 }, { name := "$VALUES", type := (.array (.object "com/example/last_mile/lastmile/store/EndpointLoad$Speed")), accessFlags := 4122, slot := 3, constantValue := 0 }]
  methods := #[]
  instanceTypes := #[(.object "java/lang/String"), .int, .int]
  staticTypes := #[(.object "com/example/last_mile/lastmile/store/EndpointLoad$Speed"), (.object "com/example/last_mile/lastmile/store/EndpointLoad$Speed"), (.object "com/example/last_mile/lastmile/store/EndpointLoad$Speed"), (.array (.object "com/example/last_mile/lastmile/store/EndpointLoad$Speed"))]
  resolved := Array.replicate 56 none
  statics := some 0 }

def pool9 : Array CpInfo := pool [(1, u "java/lang/Cloneable"), (0, .class_ 1), (0, u "java/lang/Object"), (0, .class_ 3)] 3

/-- java/lang/Cloneable -/
def k9 : Class := { plain "java/lang/Cloneable" (some 0) with
  accessFlags := 1537
  interfaces := #[]
  cf := some (fileOf pool9 2 #[] #[] 1537 4 #[] #[])
  fields := #[]
  methods := #[]
  instanceTypes := #[]
  staticTypes := #[]
  resolved := Array.replicate 8 none
  statics := none }

/-- the primitive byte -/
def k10 : Class := { plain "byte" none with kind := .primitive 'B', accessFlags := 0x411 }
/-- [B -/
def k11 : Class := { plain "[B" (some 0) with kind := .array 10 .byte, interfaces := #[9, 6], accessFlags := 1041 }

/-- the primitive int -/
def k12 : Class := { plain "int" none with kind := .primitive 'I', accessFlags := 0x411 }
/-- [I -/
def k13 : Class := { plain "[I" (some 0) with kind := .array 12 .int, interfaces := #[9, 6], accessFlags := 1041 }

def heap : Heap := #[{ cls := 8, slots := #[.ref 1, .ref 2, .ref 3, .null], vm := .statics 8 },
  { cls := 8, slots := #[.null, .int 0, .int 0], vm := .none },
  { cls := 8, slots := #[.null, .int 1, .int 0], vm := .none },
  { cls := 8, slots := #[.null, .int 2, .int 0], vm := .none }]
def classes : Array Class := #[k0, k1, k2, k3, k4, k5, k6, k7, k8, k9, k10, k11, k12, k13]
def interned : List (Array UInt16 × Addr) := []
def slotsUsed : Nat := 13
def theMethod : MethodId := ⟨1, 1⟩
def args0 : Array Value := #[.int 5, .int 6, .int 7]
def aboutOver (below : List Frame) : State where
  vm := { classes := classes, interned := interned.toArray }
  heap := heap
  slotsUsed := slotsUsed
  threads := #[{ frames := .invoking theMethod args0 :: below }]
def below0 : List Frame := [.native { method := ⟨0, 0⟩, args := #[] }]
def about1 : State := aboutOver below0
def p0 : Program := .bare "" "" ""
def e0 : Env := launch0.env 0 0 0
theorem w_frames : about1.frames = Frame.invoking theMethod args0 :: below0 := rfl
set_option maxRecDepth 65536 in
theorem w_args : argsFit about1.vm theMethod args0 = true := by decide +kernel
set_option maxRecDepth 65536 in
theorem w_heap : heapFits about1 = true := by decide +kernel
set_option maxRecDepth 65536 in
theorem w_runnable : about1.curStatus? = some .runnable := by decide +kernel
set_option maxRecDepth 65536 in
theorem w_alone : about1.alone = true := by decide +kernel
set_option maxRecDepth 65536 in
theorem w_named : about1.methodNamed? x = some theMethod := by decide +kernel
set_option maxRecDepth 65536 in
theorem w_hears : about1.hears theMethod below0 = true := by decide +kernel
set_option maxRecDepth 65536 in
theorem w_ripe : about1.ripe theMethod args0 below0 = true := by decide +kernel
theorem w_running : about1.status = .running := rfl
set_option maxRecDepth 65536 in
theorem w_room : about1.hasRoom e0.platform room_1 = true :=
  launch0.hasRoom_least _ room_1 (by decide +kernel) (by decide +kernel) (by decide +kernel) (by decide +kernel) (by decide +kernel) (by decide +kernel)
theorem allAtoms_all (ts : List Jvm.Cond) (a : Array Jvm.Value) (st : Jvm.State) : (allAtoms ts).before a st = ts.all (fun c => c.before a st) := by
  induction ts with
  | nil => rfl
  | cons c t ih =>
    show (Jvm.Cond.and c (allAtoms t)).before a st = _
    rw [Jvm.Cond.before_and, ih, List.all_cons]
def words1 : List Jvm.Cond := Jvm.Cond.code x code maxLocals ret :: tables_1
/-- a 'code' word, met by the world's own term for the bytes: nothing is compared byte by byte -/
theorem code_word {y : MethodName} {bytes : ByteArray} {mx : Nat} {rt : Option FieldType} {a : Array Value} {s : State} {m : MethodId} {meth : Method} {c : Code} (h1 : s.methodNamed? y = some m) (h2 : s.vm.method? m = some meth) (h3 : meth.code = some c) (h4 : c.code = bytes)
    (h5 : (c.maxLocals == mx && c.exceptionTable.isEmpty && decide (c.maxStack ≤ mostOperands) && decide (meth.sig.returnType = rt) && !meth.locks && decide (parseMethodDescriptor y.desc = some meth.sig)) = true) : (Jvm.Cond.code y bytes mx rt).before a s = true := by
  simp only [Bool.and_eq_true, beq_iff_eq, Bool.not_eq_true', decide_eq_true_eq] at h5
  obtain ⟨⟨⟨⟨⟨g1, g2⟩, g3⟩, g4⟩, g5⟩, g6⟩ := h5
  simp [Cond.before, Cond.holds, Cond.value, h1, h2, h3, h4, g1, g2, g3, g4, g5, g6]
def isCode : Jvm.Cond → Bool
  | .code _ _ _ _ => true
  | _ => false
theorem all_split {L : List Jvm.Cond} {P : Jvm.Cond → Bool} (h1 : L.all (fun c => isCode c || P c) = true) (h2 : ∀ c ∈ L.filter isCode, P c = true) : L.all P = true := by
  refine List.all_eq_true.mpr fun c hc => ?_
  have h := List.all_eq_true.mp h1 c hc
  rcases Bool.eq_false_or_eq_true (isCode c) with hi | hi
  · exact h2 c (List.mem_filter.mpr ⟨hc, hi⟩)
  · simpa [hi] using h
set_option maxRecDepth 65536 in
theorem w_c0 : (Jvm.Cond.code x code maxLocals ret).before args0 about1 = true := code_word (m := ⟨1, 1⟩) (meth := k1m1) (c := k1c1) (by decide +kernel) rfl rfl rfl (by decide +kernel)
set_option maxRecDepth 65536 in
theorem w_c1 : (Jvm.Cond.code ({ cls := "com/example/last_mile/lastmile/store/ClaimShares", name := "<init>", desc := "(III)V" } : Jvm.MethodName) prog_34_method_1_code (4 : Nat) (Option.none : Option Jvm.ClassFile.FieldType)).before args0 about1 = true := code_word (m := ⟨3, 0⟩) (meth := k3m0) (c := k3c0) (by decide +kernel) rfl rfl rfl (by decide +kernel)
set_option maxRecDepth 65536 in
theorem w_c2 : (Jvm.Cond.code ({ cls := "java/lang/Record", name := "<init>", desc := "()V" } : Jvm.MethodName) jdk_30_method_1_code (1 : Nat) (Option.none : Option Jvm.ClassFile.FieldType)).before args0 about1 = true := code_word (m := ⟨2, 0⟩) (meth := k2m0) (c := k2c0) (by decide +kernel) rfl rfl rfl (by decide +kernel)
set_option maxRecDepth 65536 in
theorem w_c3 : (Jvm.Cond.code ({ cls := "java/lang/Object", name := "<init>", desc := "()V" } : Jvm.MethodName) object_method_1_code (1 : Nat) (Option.none : Option Jvm.ClassFile.FieldType)).before args0 about1 = true := code_word (m := ⟨0, 0⟩) (meth := k0m0) (c := k0c0) (by decide +kernel) rfl rfl rfl (by decide +kernel)
set_option maxRecDepth 65536 in
theorem w_c4 : (Jvm.Cond.code ({ cls := "com/example/last_mile/lastmile/store/ClaimShares", name := "most", desc := "(Lcom/example/last_mile/lastmile/store/EndpointLoad$Speed;)I" } : Jvm.MethodName) prog_34_method_2_code (2 : Nat) (Option.some Jvm.ClassFile.FieldType.int)).before args0 about1 = true := code_word (m := ⟨3, 1⟩) (meth := k3m1) (c := k3c1) (by decide +kernel) rfl rfl rfl (by decide +kernel)
def codes1 : List Jvm.Cond := [Jvm.Cond.code x code maxLocals ret, Jvm.Cond.code ({ cls := "com/example/last_mile/lastmile/store/ClaimShares", name := "<init>", desc := "(III)V" } : Jvm.MethodName) prog_34_method_1_code (4 : Nat) (Option.none : Option Jvm.ClassFile.FieldType), Jvm.Cond.code ({ cls := "java/lang/Record", name := "<init>", desc := "()V" } : Jvm.MethodName) jdk_30_method_1_code (1 : Nat) (Option.none : Option Jvm.ClassFile.FieldType), Jvm.Cond.code ({ cls := "java/lang/Object", name := "<init>", desc := "()V" } : Jvm.MethodName) object_method_1_code (1 : Nat) (Option.none : Option Jvm.ClassFile.FieldType), Jvm.Cond.code ({ cls := "com/example/last_mile/lastmile/store/ClaimShares", name := "most", desc := "(Lcom/example/last_mile/lastmile/store/EndpointLoad$Speed;)I" } : Jvm.MethodName) prog_34_method_2_code (2 : Nat) (Option.some Jvm.ClassFile.FieldType.int)]
set_option maxRecDepth 65536 in
theorem codes_eq : words1.filter isCode = codes1 := rfl
theorem w_codes : ∀ c ∈ words1.filter isCode, c.before args0 about1 = true := by
  rw [codes_eq]
  intro c hc
  simp only [codes1, List.mem_cons, List.not_mem_nil, or_false] at hc
  rcases hc with rfl | rfl | rfl | rfl | rfl
  · exact w_c0
  · exact w_c1
  · exact w_c2
  · exact w_c3
  · exact w_c4
set_option maxRecDepth 65536 in
theorem w_t1 : (words1.take 24).all (fun c => isCode c || c.before args0 about1) = true := by decide +kernel
set_option maxRecDepth 65536 in
theorem w_t2 : (words1.drop 24).all (fun c => isCode c || c.before args0 about1) = true := by decide +kernel
theorem w_tables : (allAtoms (Jvm.Cond.code x code maxLocals ret :: tables_1)).before args0 about1 = true := by
  rw [allAtoms_all]
  show words1.all (fun c => c.before args0 about1) = true
  refine all_split ?_ w_codes
  rw [← List.take_append_drop 24 words1, List.all_append, w_t1, w_t2]
  rfl
set_option maxRecDepth 65536 in
theorem w_case : (Jvm.Cond.and given_1 narrow_1).before args0 about1 = true := by decide +kernel
theorem w_applies : (headSpec (Jvm.Cond.code x code maxLocals ret :: tables_1) room_1).applies x e0.platform about1 = true :=
  (Spec.applies_iff w_frames).mpr ⟨w_running, w_runnable, w_alone, w_named, w_hears, w_ripe, w_room, w_tables⟩
theorem atStart : AtStart classFile x code maxLocals ret World_1 tables_1 room_1 Calls_1 rest_1 Pre_1 launch0 p0 e0 about1 theMethod args0 below0 :=
  ⟨lists_1, trivial, launch0.admits_env _ _ _, launch0.least_env, fairChoices_fair.cas, fairChoices_fair.clock, w_frames, w_args, w_heap, w_applies, trivial, trivial, w_case⟩
end start1
theorem witness_1 : WitnessClaimed_1 := ⟨start1.p0, start1.e0, start1.about1, start1.theMethod, start1.args0, start1.below0, start1.atStart⟩
end Jvm.Pilot.@@N@@
