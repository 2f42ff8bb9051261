import JvmDerived
import JvmDerived.Pilot.@@N@@Statement
import JvmDerived.Pilot.@@N@@Code
set_option linter.unusedVariables false
set_option linter.unusedSimpArgs false
namespace Jvm.RoadKit
open Sem ClassFile Op Lib Jvm.Stand Jvm.Free Jvm.LawKit
section New
variable {p : Program} {l : Launch} {e : Env} {R : Room} {s : State} {m : MethodId} {args : Array Value} {below : List Frame} {meth : Method} {c : Code} {T : State} {locs : List Loc} {cells slots : Nat}
theorem retI (X : Stand p l e R s m args below meth c T locs cells slots) (hx : p.tables.exec = Jvm.exec) {pc : Nat} {Ls : Array Slot} {z : Int32} {rest : List Value} (hret : meth.sig.returnType = some .int) (hd : decode c.code pc = .ok (.ireturn, 1)) {fs : List Frame}
    (hl : ∀ (f : JFrame) (acts : List Action), f.method = m → f.locked = none → f.entered = [] → (doReturn e (T.setTop f) acts (some (.int z))).1 = T.setFrames fs) : Steps p.tables e below (T.setTop (mkF m pc Ls (.int z :: rest))) (T.setFrames fs) := by
  have hm' : T.vm.method? m = some meth := X.method'
  have hn : narrow .int (.int z) = .int z := rfl
  show Steps p.tables e below (T.setTop { method := m, pc := pc, locals := Ls, stack := _ :: rest, locked := none }) _
  jvm_step X.here [X.here.top, hx, hd, hm', hret, hn]
  first | (intro acts; rw [hl _ acts rfl rfl rfl]) | rw [hl _ _ rfl rfl rfl]
  exact Steps.refl _
end New
end Jvm.RoadKit
namespace Jvm.Pilot.@@N@@
open Jvm Jvm.ClassFile Sem Op Lib Jvm.Free Jvm.Stand Jvm.LawKit Jvm.RoadKit Bundle Jvm.Pilot.@@N@@.Jvm.D
/-- what is left of a walk: from the frame f of T the run comes to its end, where Qe holds -/
def own_Rest (p : Program) (e : Env) (below : List Frame) (Qe : Outcome → State → Prop) (T : State) (f : JFrame) : Prop :=
  ∃ s₂ o, Steps p.tables e below (T.setTop f) s₂ ∧ s₂.status = .running ∧ Ended s₂ below o ∧ Qe o s₂
abbrev own_S (p : Program) (e : Env) (below : List Frame) (T : State) (f : JFrame) (t : State) : Prop := Steps p.tables e below (T.setTop f) t
theorem own_by {p : Program} {e : Env} {below : List Frame} {Qe : Outcome → State → Prop} {T T' : State} {f f' : JFrame}
    (h : ∀ t, Steps p.tables e below (T'.setTop f') t → Steps p.tables e below (T.setTop f) t) (k : own_Rest p e below Qe T' f') : own_Rest p e below Qe T f := by
  obtain ⟨s₂, o, h1, h2⟩ := k
  exact ⟨s₂, o, h _ h1, h2⟩
theorem own_at {p : Program} {e : Env} {below : List Frame} {Qe : Outcome → State → Prop} {T : State} {f f' : JFrame}
    (h : ∀ {t}, Steps p.tables e below (T.setTop f') t → Steps p.tables e below (T.setTop f) t) (k : own_Rest p e below Qe T f') :
    ∃ s₂ o, Steps p.tables e below (T.setTop f) s₂ ∧ s₂.status = .running ∧ Ended s₂ below o ∧ Qe o s₂ := by
  obtain ⟨s₂, o, h1, h2⟩ := k
  exact ⟨s₂, o, h h1, h2⟩
theorem own_c255 (x : Int32) : ¬ (x &&& (255 : Int32)).toUInt32.toUInt16.toUInt32.toInt32 < 0 ∧ ¬ (255 : Int32) < (x &&& (255 : Int32)).toUInt32.toUInt16.toUInt32.toInt32 := by
  have h1 := c_mask x 255 8 (by decide) (by decide)
  have h2 := c_i2c (x &&& (255 : Int32))
  simp only [Int32.lt_iff_toInt_lt, Int32.reduceToInt]
  omega
theorem own_narc {z : Int32} (h : ¬ z < 0 ∧ ¬ (255 : Int32) < z) : nar .char z = z := by
  have h2 := c_i2c z
  obtain ⟨h3, h4⟩ := h
  simp only [Int32.lt_iff_toInt_lt, Int32.reduceToInt] at h3 h4
  have e : (nar .char z).toInt = z.toInt := by
    show z.toUInt32.toUInt16.toUInt32.toInt32.toInt = z.toInt
    omega
  exact Int32.toInt_inj.mp e
theorem own_nrb {z : Int32} (h : z = 0 ∨ z = 1) : narrow .boolean (.int z) = .int z := by rcases h with rfl | rfl <;> rfl
theorem own_ftb {z : Int32} (h : z = 0 ∨ z = 1) : fits .boolean (.int z) = true := by rcases h with rfl | rfl <;> rfl
theorem own_eqi {t : Term} {n : Int32} {args : Array Value} {Z : State} (h : (Jvm.Cond.eq t (.int n)).value args Z none Z [] = some true) : t.eval args Z none [] Z = some (.int n) := by
  obtain ⟨x, y, h1, h2, h3, -⟩ := cmp_v (Or.inl h)
  have e : y = .int n := (Option.some.inj h2).symm
  subst e
  cases x <;> simp [Kin, Value.isRef] at h3
  rename_i z
  have : z = n := by simpa [Cond.value, h1, Term.eval] using h
  rw [h1, this]
theorem own_fld {t : Term} {n : Int32} {args : Array Value} {Z : State} {a : Addr} {C f d : String} (ev : t.eval args Z none [] Z = some (.ref a)) (h : (Jvm.Cond.eq (.field t C f d) (.int n)).value args Z none Z [] = some true) : Fld Z Z.heap a C f d (.int n) :=
  Fld.start ((fld_at ev).symm.trans (own_eqi h))
theorem own_nb {z : Int32} (h : z = 0 ∨ z = 1) : nar .boolean z = z := by rcases h with rfl | rfl <;> rfl
abbrev own_AIIUUUUU (x0 : Int32) (x1 : Int32) : Array Slot := #[.val (.int x0), .val (.int x1), .unset, .unset, .unset, .unset, .unset]
abbrev own_AIIIUUUU (x0 : Int32) (x1 : Int32) (x2 : Int32) : Array Slot := #[.val (.int x0), .val (.int x1), .val (.int x2), .unset, .unset, .unset, .unset]
abbrev own_AIIIIUUU (x0 : Int32) (x1 : Int32) (x2 : Int32) (x3 : Int32) : Array Slot := #[.val (.int x0), .val (.int x1), .val (.int x2), .val (.int x3), .unset, .unset, .unset]
abbrev own_AIIIIRUU (x0 : Int32) (x1 : Int32) (x2 : Int32) (x3 : Int32) (x4 : Addr) : Array Slot := #[.val (.int x0), .val (.int x1), .val (.int x2), .val (.int x3), .val (.ref x4), .unset, .unset]
abbrev own_AIIIIRRU (x0 : Int32) (x1 : Int32) (x2 : Int32) (x3 : Int32) (x4 : Addr) (x5 : Addr) : Array Slot := #[.val (.int x0), .val (.int x1), .val (.int x2), .val (.int x3), .val (.ref x4), .val (.ref x5), .unset]
abbrev own_AIIIIRRI (x0 : Int32) (x1 : Int32) (x2 : Int32) (x3 : Int32) (x4 : Addr) (x5 : Addr) (x6 : Int32) : Array Slot := #[.val (.int x0), .val (.int x1), .val (.int x2), .val (.int x3), .val (.ref x4), .val (.ref x5), .val (.int x6)]
theorem own_m3 (x : Int32) : x &&& 3 = 0 ∨ x &&& 3 = 1 ∨ x &&& 3 = 2 ∨ x &&& 3 = 3 := by
  have h := c_mask x 3 2 (by decide) (by decide)
  have q : (x &&& 3).toInt = (0 : Int32).toInt ∨ (x &&& 3).toInt = (1 : Int32).toInt ∨ (x &&& 3).toInt = (2 : Int32).toInt ∨ (x &&& 3).toInt = (3 : Int32).toInt := by
    simp only [Int32.reduceToInt]; omega
  simpa only [Int32.toInt_inj] using q
def own_fp (i : Int32) : Int32 := if i = 0 then 1 else 0
def own_cf (i : Int32) : Int32 := if i = 0 then 1 else if i = 1 then 1 else if i = 2 then 1 else 0
theorem own_cf01 (i : Int32) : own_cf i = 0 ∨ own_cf i = 1 := by unfold own_cf; (repeat' split) <;> simp
theorem own_law (g i : Int32) (h : i = 0 ∨ i = 1 ∨ i = 2 ∨ i = 3) : (if own_fp g = (0 : Int32) then (if own_cf i = (0 : Int32) then (0 : Int32) else (1 : Int32)) else (1 : Int32)) = (if g = (0 : Int32) then (1 : Int32) else (if i = (3 : Int32) then (0 : Int32) else (1 : Int32))) := by
  by_cases hg : g = 0
  · simp [own_fp, hg]
  · rcases h with rfl | rfl | rfl | rfl <;> simp [own_fp, own_cf, hg]
theorem d4_0 : decode prog_7_method_8_code 0 = .ok (.aload_n 0, 1) := by decide +kernel
theorem d4_1 : decode prog_7_method_8_code 1 = .ok (.getfield 43, 3) := by decide +kernel
theorem d4_4 : decode prog_7_method_8_code 4 = .ok (.ireturn, 1) := by decide +kernel
theorem pn_4 : plainFor (⟨"com/example/writd/writd/model/AuthMethod", "confidential", "()Z"⟩ : MethodName) = true := by first | exact plainFor_of_name (by first | (simp [plainName, overriddenIn]; done) | decide +kernel) | decide +kernel | exact Jvm.Free.JP.mathPlain rfl (by decide +kernel)
theorem ef_4 (m : MethodId) (a1 : Addr) : entryFrame m #[(.ref a1)] 1 = mkF m 0 #[.val (.ref a1)] [] := by first | (simp [entryFrame, mkF, argsToLocals, Value.category]; done) | rfl
def Q4 (Z : State) (a1 : Addr) (z : Int32) (h0 : Heap) (n0 : Nat) (v : Option Value) (h : Heap) (L : List Loc) : Prop := v = some (.int z) ∧ Fr n0 L ∧ h = h0
set_option maxRecDepth 65536 in
set_option maxHeartbeats 40000000 in
theorem rm4 (l : Launch) (Z : State) (a0 : Array Value) (hw : ∀ d ∈ tables_1, d.before a0 Z = true) (ws : List Jvm.Cond) (a1 : Addr) (z : Int32) (h0 : Heap) (n0 : Nat) (Z0 : n0 ≤ h0.size) (F : Fld Z h0 a1 "com/example/writd/writd/model/AuthMethod" "confidential" "Z" (.int z)) (hz : z = 0 ∨ z = 1) :
    MetFree l (⟨"com/example/writd/writd/model/AuthMethod", "confidential", "()Z"⟩ : MethodName) (head1 (Jvm.Cond.code (⟨"com/example/writd/writd/model/AuthMethod", "confidential", "()Z"⟩ : MethodName) prog_7_method_8_code 1 (some .boolean) :: ws) ({ frames := 0, cells := 0, slots := 0, locals := 0 } : Room)) (fun a U => a = #[(.ref a1)] ∧ Z.Warmed39 U.vm ∧ U.heap = h0) (fun _ _ _ _ _ => True) (fun _ U o U' => ∃ v L, o = .returned v ∧ Q4 Z a1 z h0 n0 v U'.heap L ∧ FrameEnd U o U' L ({ frames := 0, cells := 0, slots := 0, locals := 0 } : Room).cells ({ frames := 0, cells := 0, slots := 0, locals := 0 } : Room).slots) := by
  refine MetFree.of_bodySF pn_4 hisR ?_
  intro p e s m args below meth c s₁ Bd hml0 hP hK
  obtain ⟨rfl, hZ, hh⟩ := hP
  have hx := Bd.exec
  have hby := Bd.bytes
  have hml : c.maxLocals = 1 := hml0
  have hown : s.vm.findClass "com/example/writd/writd/model/AuthMethod" = some m.cls := findClass_of_methodNamed Bd.named
  have hnm := (name_of_methodNamed Bd.named Bd.method).1
  have X0 : Stand p l e ({ frames := 0, cells := 0, slots := 0, locals := 0 } : Room) s m #[(.ref a1)] below meth c s₁ [] 0 0 := Stand.of_body Bd
  have e0 : s₁.heap = h0 := by rw [← hh, Bd.state]; rfl
  have N0 := Fr.nil n0
  refine own_at (castTop (ef_4 m a1)) ?_
  have sg1 : ∀ t, own_S p e below s₁ (mkF m 1 #[.val (.ref a1)] [(.ref a1)]) t → own_S p e below s₁ (mkF m 0 #[.val (.ref a1)] []) t := by
    intro t k
    show own_S p e below s₁ (mkF m 0 #[.val (.ref a1)] []) _
    refine XS.aloadN X0.here hx rfl (hb hby d4_0) rfl rfl ?_
    exact k
  refine own_by sg1 ?_
  obtain ⟨T1, X1, e1, st1⟩ := getF X0 hx hZ hown (host := "") (Or.inl (hw _ (List.mem_of_getElem? (i := 31) rfl))) Via.refl e0 F (g := (mkF m 1 #[.val (.ref a1)] [(.ref a1)])) rfl rfl (hb hby d4_1)
  refine own_by st1 ?_
  obtain ⟨fs, hr, hrun, hended, hW, hsame⟩ := X1.leave (v := some (.int z)) (fun h => by rw [Bd.returns] at h; cases h)
  refine ⟨_, _, ?_, hrun, hended, _, _, rfl, ?_, ⟨_, rfl⟩, hW, hsame.mono (by decide) (by decide)⟩
  · exact retN X1 hx (t := .boolean) Bd.returns (by simp) (hb hby d4_4) (by rw [own_nb hz]; exact hr)
  · show Q4 Z a1 z h0 n0 _ T1.heap _
    rw [e1]
    exact ⟨rfl, N0, rfl⟩
theorem d1_0 : decode method_2_code 0 = .ok (.iload_n 0, 1) := by decide +kernel
theorem d1_1 : decode method_2_code 1 = .ok (.ifCond .ne 7, 3) := by decide +kernel
theorem d1_4 : decode method_2_code 4 = .ok (.getstatic 7, 3) := by decide +kernel
theorem d1_7 : decode method_2_code 7 = .ok (.areturn, 1) := by decide +kernel
theorem d1_8 : decode method_2_code 8 = .ok (.getstatic 13, 3) := by decide +kernel
theorem d1_11 : decode method_2_code 11 = .ok (.areturn, 1) := by decide +kernel
theorem pn_1 : plainFor (⟨"com/example/writd/writd/model/GrantTypeAllowsPinLaw", "grant", "(I)Lcom/example/writd/writd/model/GrantType;"⟩ : MethodName) = true := by first | exact plainFor_of_name (by first | (simp [plainName, overriddenIn]; done) | decide +kernel) | decide +kernel | exact Jvm.Free.JP.mathPlain rfl (by decide +kernel)
theorem ef_1 (m : MethodId) (p0 : Int32) : entryFrame m #[(.int p0)] 1 = mkF m 0 #[.val (.int p0)] [] := by first | (simp [entryFrame, mkF, argsToLocals, Value.category]; done) | rfl
def Q1 (Z : State) (p0 : Int32) (wAUTHORIZATION_CODE : Addr) (wCLIENT_CREDENTIALS : Addr) (h0 : Heap) (n0 : Nat) (v : Option Value) (h : Heap) (L : List Loc) : Prop := ∃ r, v = some (.ref r) ∧ Exa Z h0 r "com/example/writd/writd/model/GrantType" ∧ Fld Z h0 r "com/example/writd/writd/model/GrantType" "forPublicClients" "Z" (.int (own_fp p0)) ∧ Fr n0 L ∧ h = h0
set_option maxRecDepth 65536 in
set_option maxHeartbeats 40000000 in
theorem rm1 (l : Launch) (Z : State) (a0 : Array Value) (hw : ∀ d ∈ tables_1, d.before a0 Z = true) (ws : List Jvm.Cond) (p0 : Int32) (wAUTHORIZATION_CODE : Addr) (wCLIENT_CREDENTIALS : Addr) (h0 : Heap) (n0 : Nat) (Z0 : n0 ≤ h0.size) (S_AUTHORIZATION_CODE : Sta Z h0 "com/example/writd/writd/model/GrantType" "AUTHORIZATION_CODE" "Lcom/example/writd/writd/model/GrantType;" (.ref wAUTHORIZATION_CODE)) (S_CLIENT_CREDENTIALS : Sta Z h0 "com/example/writd/writd/model/GrantType" "CLIENT_CREDENTIALS" "Lcom/example/writd/writd/model/GrantType;" (.ref wCLIENT_CREDENTIALS)) (E_AUTHORIZATION_CODE : Exa Z h0 wAUTHORIZATION_CODE "com/example/writd/writd/model/GrantType") (E_CLIENT_CREDENTIALS : Exa Z h0 wCLIENT_CREDENTIALS "com/example/writd/writd/model/GrantType") (F_AUTHORIZATION_CODE : Fld Z h0 wAUTHORIZATION_CODE "com/example/writd/writd/model/GrantType" "forPublicClients" "Z" (.int (1 : Int32))) (F_CLIENT_CREDENTIALS : Fld Z h0 wCLIENT_CREDENTIALS "com/example/writd/writd/model/GrantType" "forPublicClients" "Z" (.int (0 : Int32))) :
    MetFree l (⟨"com/example/writd/writd/model/GrantTypeAllowsPinLaw", "grant", "(I)Lcom/example/writd/writd/model/GrantType;"⟩ : MethodName) (head1 (Jvm.Cond.code (⟨"com/example/writd/writd/model/GrantTypeAllowsPinLaw", "grant", "(I)Lcom/example/writd/writd/model/GrantType;"⟩ : MethodName) method_2_code 1 (some (.object "com/example/writd/writd/model/GrantType")) :: ws) ({ frames := 0, cells := 0, slots := 0, locals := 0 } : Room)) (fun a U => a = #[(.int p0)] ∧ Z.Warmed39 U.vm ∧ U.heap = h0) (fun _ _ _ _ _ => True) (fun _ U o U' => ∃ v L, o = .returned v ∧ Q1 Z p0 wAUTHORIZATION_CODE wCLIENT_CREDENTIALS h0 n0 v U'.heap L ∧ FrameEnd U o U' L ({ frames := 0, cells := 0, slots := 0, locals := 0 } : Room).cells ({ frames := 0, cells := 0, slots := 0, locals := 0 } : Room).slots) := by
  refine MetFree.of_bodySF pn_1 hisR ?_
  intro p e s m args below meth c s₁ Bd hml0 hP hK
  obtain ⟨rfl, hZ, hh⟩ := hP
  have hx := Bd.exec
  have hby := Bd.bytes
  have hml : c.maxLocals = 1 := hml0
  have hown : s.vm.findClass "com/example/writd/writd/model/GrantTypeAllowsPinLaw" = some m.cls := findClass_of_methodNamed Bd.named
  have hnm := (name_of_methodNamed Bd.named Bd.method).1
  have X0 : Stand p l e ({ frames := 0, cells := 0, slots := 0, locals := 0 } : Room) s m #[(.int p0)] below meth c s₁ [] 0 0 := Stand.of_body Bd
  have e0 : s₁.heap = h0 := by rw [← hh, Bd.state]; rfl
  have N0 := Fr.nil n0
  refine own_at (castTop (ef_1 m p0)) ?_
  have sg1 : ∀ t, own_S p e below s₁ (mkF m 1 #[.val (.int p0)] [(.int p0)]) t → own_S p e below s₁ (mkF m 0 #[.val (.int p0)] []) t := by
    intro t k
    show own_S p e below s₁ (mkF m 0 #[.val (.int p0)] []) _
    refine XS.iloadN X0.here hx rfl (hb hby d1_0) rfl ?_
    exact k
  refine own_by sg1 ?_
  by_cases hc1 : p0 = (0 : Int32)
  · have sg4 : ∀ t, own_S p e below s₁ (mkF m 4 #[.val (.int p0)] []) t → own_S p e below s₁ (mkF m 1 #[.val (.int p0)] [(.int p0)]) t := by
      intro t k
      show own_S p e below s₁ (mkF m 1 #[.val (.int p0)] [(.int p0)]) _
      refine XS.ifNo X0.here hx rfl (hb hby d1_1) rfl ((if0 _ _).trans (teq hc1).2) ?_
      exact k
    refine own_by sg4 ?_
    obtain ⟨T4, X4, e4, st4⟩ := getS2 X0 hx hZ hown (host := "") (Or.inl (hw _ (List.mem_of_getElem? (i := 4) rfl))) Via.refl e0 S_AUTHORIZATION_CODE (g := (mkF m 4 #[.val (.int p0)] [])) rfl (hb hby d1_4)
    refine own_by st4 ?_
    obtain ⟨fs, hr, hrun, hended, hW, hsame⟩ := X4.leave (v := some (.ref wAUTHORIZATION_CODE)) (fun h => by rw [Bd.returns] at h; cases h)
    refine ⟨_, _, ?_, hrun, hended, _, _, rfl, ?_, ⟨_, rfl⟩, hW, hsame.mono (by decide) (by decide)⟩
    · show Steps p.tables e below (T4.setTop (mkF m 7 #[.val (.int p0)] [(.ref wAUTHORIZATION_CODE)])) _
      jvm_step X4.here [X4.here.top, hx, (hb hby d1_7), X4.method', Bd.returns, Value.isRef, FieldType.isReference]
      first | (intro acts; rw [hr _ acts rfl rfl rfl]) | rw [hr _ _ rfl rfl rfl]
      exact Steps.refl _
    · show Q1 Z p0 wAUTHORIZATION_CODE wCLIENT_CREDENTIALS h0 n0 _ T4.heap _
      rw [e4]
      exact ⟨_, rfl, E_AUTHORIZATION_CODE, by simpa [own_fp, hc1] using F_AUTHORIZATION_CODE, N0, rfl⟩
  · have sg8 : ∀ t, own_S p e below s₁ (mkF m 8 #[.val (.int p0)] []) t → own_S p e below s₁ (mkF m 1 #[.val (.int p0)] [(.int p0)]) t := by
      intro t k
      show own_S p e below s₁ (mkF m 1 #[.val (.int p0)] [(.int p0)]) _
      refine XS.ifYes X0.here hx rfl (pc0 := 1) (pc' := 8) rfl (hb hby d1_1) rfl ((if0 _ _).trans (feq hc1).2) (by decide) (by decide) ?_
      exact k
    refine own_by sg8 ?_
    obtain ⟨T8, X8, e8, st8⟩ := getS2 X0 hx hZ hown (host := "") (Or.inl (hw _ (List.mem_of_getElem? (i := 24) rfl))) Via.refl e0 S_CLIENT_CREDENTIALS (g := (mkF m 8 #[.val (.int p0)] [])) rfl (hb hby d1_8)
    refine own_by st8 ?_
    obtain ⟨fs, hr, hrun, hended, hW, hsame⟩ := X8.leave (v := some (.ref wCLIENT_CREDENTIALS)) (fun h => by rw [Bd.returns] at h; cases h)
    refine ⟨_, _, ?_, hrun, hended, _, _, rfl, ?_, ⟨_, rfl⟩, hW, hsame.mono (by decide) (by decide)⟩
    · show Steps p.tables e below (T8.setTop (mkF m 11 #[.val (.int p0)] [(.ref wCLIENT_CREDENTIALS)])) _
      jvm_step X8.here [X8.here.top, hx, (hb hby d1_11), X8.method', Bd.returns, Value.isRef, FieldType.isReference]
      first | (intro acts; rw [hr _ acts rfl rfl rfl]) | rw [hr _ _ rfl rfl rfl]
      exact Steps.refl _
    · show Q1 Z p0 wAUTHORIZATION_CODE wCLIENT_CREDENTIALS h0 n0 _ T8.heap _
      rw [e8]
      exact ⟨_, rfl, E_CLIENT_CREDENTIALS, by simpa [own_fp, hc1] using F_CLIENT_CREDENTIALS, N0, rfl⟩
theorem d2_0 : decode method_3_code 0 = .ok (.iload_n 0, 1) := by decide +kernel
theorem d2_1 : decode method_3_code 1 = .ok (.ifCond .ne 7, 3) := by decide +kernel
theorem d2_4 : decode method_3_code 4 = .ok (.getstatic 16, 3) := by decide +kernel
theorem d2_7 : decode method_3_code 7 = .ok (.areturn, 1) := by decide +kernel
theorem d2_8 : decode method_3_code 8 = .ok (.iload_n 0, 1) := by decide +kernel
theorem d2_9 : decode method_3_code 9 = .ok (.iconst 1, 1) := by decide +kernel
theorem d2_10 : decode method_3_code 10 = .ok (.if_icmp .ne 7, 3) := by decide +kernel
theorem d2_13 : decode method_3_code 13 = .ok (.getstatic 22, 3) := by decide +kernel
theorem d2_16 : decode method_3_code 16 = .ok (.areturn, 1) := by decide +kernel
theorem d2_17 : decode method_3_code 17 = .ok (.iload_n 0, 1) := by decide +kernel
theorem d2_18 : decode method_3_code 18 = .ok (.iconst 2, 1) := by decide +kernel
theorem d2_19 : decode method_3_code 19 = .ok (.if_icmp .ne 7, 3) := by decide +kernel
theorem d2_22 : decode method_3_code 22 = .ok (.getstatic 25, 3) := by decide +kernel
theorem d2_25 : decode method_3_code 25 = .ok (.areturn, 1) := by decide +kernel
theorem d2_26 : decode method_3_code 26 = .ok (.getstatic 28, 3) := by decide +kernel
theorem d2_29 : decode method_3_code 29 = .ok (.areturn, 1) := by decide +kernel
theorem pn_2 : plainFor (⟨"com/example/writd/writd/model/GrantTypeAllowsPinLaw", "method", "(I)Lcom/example/writd/writd/model/AuthMethod;"⟩ : MethodName) = true := by first | exact plainFor_of_name (by first | (simp [plainName, overriddenIn]; done) | decide +kernel) | decide +kernel | exact Jvm.Free.JP.mathPlain rfl (by decide +kernel)
theorem ef_2 (m : MethodId) (p0 : Int32) : entryFrame m #[(.int p0)] 1 = mkF m 0 #[.val (.int p0)] [] := by first | (simp [entryFrame, mkF, argsToLocals, Value.category]; done) | rfl
def Q2 (Z : State) (p0 : Int32) (wCLIENT_SECRET_BASIC : Addr) (wCLIENT_SECRET_POST : Addr) (wKERBEROS : Addr) (wNONE : Addr) (h0 : Heap) (n0 : Nat) (v : Option Value) (h : Heap) (L : List Loc) : Prop := ∃ r, v = some (.ref r) ∧ Exa Z h0 r "com/example/writd/writd/model/AuthMethod" ∧ Fld Z h0 r "com/example/writd/writd/model/AuthMethod" "confidential" "Z" (.int (own_cf p0)) ∧ Fr n0 L ∧ h = h0
set_option maxRecDepth 65536 in
set_option maxHeartbeats 40000000 in
theorem rm2 (l : Launch) (Z : State) (a0 : Array Value) (hw : ∀ d ∈ tables_1, d.before a0 Z = true) (ws : List Jvm.Cond) (p0 : Int32) (wCLIENT_SECRET_BASIC : Addr) (wCLIENT_SECRET_POST : Addr) (wKERBEROS : Addr) (wNONE : Addr) (h0 : Heap) (n0 : Nat) (Z0 : n0 ≤ h0.size) (S_CLIENT_SECRET_BASIC : Sta Z h0 "com/example/writd/writd/model/AuthMethod" "CLIENT_SECRET_BASIC" "Lcom/example/writd/writd/model/AuthMethod;" (.ref wCLIENT_SECRET_BASIC)) (S_CLIENT_SECRET_POST : Sta Z h0 "com/example/writd/writd/model/AuthMethod" "CLIENT_SECRET_POST" "Lcom/example/writd/writd/model/AuthMethod;" (.ref wCLIENT_SECRET_POST)) (S_KERBEROS : Sta Z h0 "com/example/writd/writd/model/AuthMethod" "KERBEROS" "Lcom/example/writd/writd/model/AuthMethod;" (.ref wKERBEROS)) (S_NONE : Sta Z h0 "com/example/writd/writd/model/AuthMethod" "NONE" "Lcom/example/writd/writd/model/AuthMethod;" (.ref wNONE)) (E_CLIENT_SECRET_BASIC : Exa Z h0 wCLIENT_SECRET_BASIC "com/example/writd/writd/model/AuthMethod") (E_CLIENT_SECRET_POST : Exa Z h0 wCLIENT_SECRET_POST "com/example/writd/writd/model/AuthMethod") (E_KERBEROS : Exa Z h0 wKERBEROS "com/example/writd/writd/model/AuthMethod") (E_NONE : Exa Z h0 wNONE "com/example/writd/writd/model/AuthMethod") (F_CLIENT_SECRET_BASIC : Fld Z h0 wCLIENT_SECRET_BASIC "com/example/writd/writd/model/AuthMethod" "confidential" "Z" (.int (1 : Int32))) (F_CLIENT_SECRET_POST : Fld Z h0 wCLIENT_SECRET_POST "com/example/writd/writd/model/AuthMethod" "confidential" "Z" (.int (1 : Int32))) (F_KERBEROS : Fld Z h0 wKERBEROS "com/example/writd/writd/model/AuthMethod" "confidential" "Z" (.int (1 : Int32))) (F_NONE : Fld Z h0 wNONE "com/example/writd/writd/model/AuthMethod" "confidential" "Z" (.int (0 : Int32))) :
    MetFree l (⟨"com/example/writd/writd/model/GrantTypeAllowsPinLaw", "method", "(I)Lcom/example/writd/writd/model/AuthMethod;"⟩ : MethodName) (head1 (Jvm.Cond.code (⟨"com/example/writd/writd/model/GrantTypeAllowsPinLaw", "method", "(I)Lcom/example/writd/writd/model/AuthMethod;"⟩ : MethodName) method_3_code 1 (some (.object "com/example/writd/writd/model/AuthMethod")) :: ws) ({ frames := 0, cells := 0, slots := 0, locals := 0 } : Room)) (fun a U => a = #[(.int p0)] ∧ Z.Warmed39 U.vm ∧ U.heap = h0) (fun _ _ _ _ _ => True) (fun _ U o U' => ∃ v L, o = .returned v ∧ Q2 Z p0 wCLIENT_SECRET_BASIC wCLIENT_SECRET_POST wKERBEROS wNONE h0 n0 v U'.heap L ∧ FrameEnd U o U' L ({ frames := 0, cells := 0, slots := 0, locals := 0 } : Room).cells ({ frames := 0, cells := 0, slots := 0, locals := 0 } : Room).slots) := by
  refine MetFree.of_bodySF pn_2 hisR ?_
  intro p e s m args below meth c s₁ Bd hml0 hP hK
  obtain ⟨rfl, hZ, hh⟩ := hP
  have hx := Bd.exec
  have hby := Bd.bytes
  have hml : c.maxLocals = 1 := hml0
  have hown : s.vm.findClass "com/example/writd/writd/model/GrantTypeAllowsPinLaw" = some m.cls := findClass_of_methodNamed Bd.named
  have hnm := (name_of_methodNamed Bd.named Bd.method).1
  have X0 : Stand p l e ({ frames := 0, cells := 0, slots := 0, locals := 0 } : Room) s m #[(.int p0)] below meth c s₁ [] 0 0 := Stand.of_body Bd
  have e0 : s₁.heap = h0 := by rw [← hh, Bd.state]; rfl
  have N0 := Fr.nil n0
  refine own_at (castTop (ef_2 m p0)) ?_
  have sg1 : ∀ t, own_S p e below s₁ (mkF m 1 #[.val (.int p0)] [(.int p0)]) t → own_S p e below s₁ (mkF m 0 #[.val (.int p0)] []) t := by
    intro t k
    show own_S p e below s₁ (mkF m 0 #[.val (.int p0)] []) _
    refine XS.iloadN X0.here hx rfl (hb hby d2_0) rfl ?_
    exact k
  refine own_by sg1 ?_
  by_cases hc1 : p0 = (0 : Int32)
  · have sg4 : ∀ t, own_S p e below s₁ (mkF m 4 #[.val (.int p0)] []) t → own_S p e below s₁ (mkF m 1 #[.val (.int p0)] [(.int p0)]) t := by
      intro t k
      show own_S p e below s₁ (mkF m 1 #[.val (.int p0)] [(.int p0)]) _
      refine XS.ifNo X0.here hx rfl (hb hby d2_1) rfl ((if0 _ _).trans (teq hc1).2) ?_
      exact k
    refine own_by sg4 ?_
    obtain ⟨T4, X4, e4, st4⟩ := getS2 X0 hx hZ hown (host := "") (Or.inl (hw _ (List.mem_of_getElem? (i := 22) rfl))) Via.refl e0 S_CLIENT_SECRET_BASIC (g := (mkF m 4 #[.val (.int p0)] [])) rfl (hb hby d2_4)
    refine own_by st4 ?_
    obtain ⟨fs, hr, hrun, hended, hW, hsame⟩ := X4.leave (v := some (.ref wCLIENT_SECRET_BASIC)) (fun h => by rw [Bd.returns] at h; cases h)
    refine ⟨_, _, ?_, hrun, hended, _, _, rfl, ?_, ⟨_, rfl⟩, hW, hsame.mono (by decide) (by decide)⟩
    · show Steps p.tables e below (T4.setTop (mkF m 7 #[.val (.int p0)] [(.ref wCLIENT_SECRET_BASIC)])) _
      jvm_step X4.here [X4.here.top, hx, (hb hby d2_7), X4.method', Bd.returns, Value.isRef, FieldType.isReference]
      first | (intro acts; rw [hr _ acts rfl rfl rfl]) | rw [hr _ _ rfl rfl rfl]
      exact Steps.refl _
    · show Q2 Z p0 wCLIENT_SECRET_BASIC wCLIENT_SECRET_POST wKERBEROS wNONE h0 n0 _ T4.heap _
      rw [e4]
      exact ⟨_, rfl, E_CLIENT_SECRET_BASIC, by simpa [own_cf, hc1] using F_CLIENT_SECRET_BASIC, N0, rfl⟩
  · have sg10 : ∀ t, own_S p e below s₁ (mkF m 10 #[.val (.int p0)] [(.int (1 : Int32)), (.int p0)]) t → own_S p e below s₁ (mkF m 1 #[.val (.int p0)] [(.int p0)]) t := by
      intro t k
      show own_S p e below s₁ (mkF m 1 #[.val (.int p0)] [(.int p0)]) _
      refine XS.ifYes X0.here hx rfl (pc0 := 1) (pc' := 8) rfl (hb hby d2_1) rfl ((if0 _ _).trans (feq hc1).2) (by decide) (by decide) ?_
      show own_S p e below s₁ (mkF m 8 #[.val (.int p0)] []) _
      refine XS.iloadN X0.here hx rfl (hb hby d2_8) rfl ?_
      show own_S p e below s₁ (mkF m 9 #[.val (.int p0)] [(.int p0)]) _
      refine XS.iconst X0.here hx rfl (hb hby d2_9) ?_
      exact k
    refine own_by sg10 ?_
    by_cases hc10 : p0 = (1 : Int32)
    · have sg13 : ∀ t, own_S p e below s₁ (mkF m 13 #[.val (.int p0)] []) t → own_S p e below s₁ (mkF m 10 #[.val (.int p0)] [(.int (1 : Int32)), (.int p0)]) t := by
        intro t k
        show own_S p e below s₁ (mkF m 10 #[.val (.int p0)] [(.int (1 : Int32)), (.int p0)]) _
        refine XS.icmpNo X0.here hx rfl (hb hby d2_10) rfl (teq hc10).2 ?_
        exact k
      refine own_by sg13 ?_
      obtain ⟨T13, X13, e13, st13⟩ := getS2 X0 hx hZ hown (host := "") (Or.inl (hw _ (List.mem_of_getElem? (i := 20) rfl))) Via.refl e0 S_CLIENT_SECRET_POST (g := (mkF m 13 #[.val (.int p0)] [])) rfl (hb hby d2_13)
      refine own_by st13 ?_
      obtain ⟨fs, hr, hrun, hended, hW, hsame⟩ := X13.leave (v := some (.ref wCLIENT_SECRET_POST)) (fun h => by rw [Bd.returns] at h; cases h)
      refine ⟨_, _, ?_, hrun, hended, _, _, rfl, ?_, ⟨_, rfl⟩, hW, hsame.mono (by decide) (by decide)⟩
      · show Steps p.tables e below (T13.setTop (mkF m 16 #[.val (.int p0)] [(.ref wCLIENT_SECRET_POST)])) _
        jvm_step X13.here [X13.here.top, hx, (hb hby d2_16), X13.method', Bd.returns, Value.isRef, FieldType.isReference]
        first | (intro acts; rw [hr _ acts rfl rfl rfl]) | rw [hr _ _ rfl rfl rfl]
        exact Steps.refl _
      · show Q2 Z p0 wCLIENT_SECRET_BASIC wCLIENT_SECRET_POST wKERBEROS wNONE h0 n0 _ T13.heap _
        rw [e13]
        exact ⟨_, rfl, E_CLIENT_SECRET_POST, by simpa [own_cf, hc1, hc10] using F_CLIENT_SECRET_POST, N0, rfl⟩
    · have sg19 : ∀ t, own_S p e below s₁ (mkF m 19 #[.val (.int p0)] [(.int (2 : Int32)), (.int p0)]) t → own_S p e below s₁ (mkF m 10 #[.val (.int p0)] [(.int (1 : Int32)), (.int p0)]) t := by
        intro t k
        show own_S p e below s₁ (mkF m 10 #[.val (.int p0)] [(.int (1 : Int32)), (.int p0)]) _
        refine XS.icmpYes X0.here hx rfl (pc0 := 10) (pc' := 17) rfl (hb hby d2_10) rfl (feq hc10).2 (by decide) (by decide) ?_
        show own_S p e below s₁ (mkF m 17 #[.val (.int p0)] []) _
        refine XS.iloadN X0.here hx rfl (hb hby d2_17) rfl ?_
        show own_S p e below s₁ (mkF m 18 #[.val (.int p0)] [(.int p0)]) _
        refine XS.iconst X0.here hx rfl (hb hby d2_18) ?_
        exact k
      refine own_by sg19 ?_
      by_cases hc19 : p0 = (2 : Int32)
      · have sg22 : ∀ t, own_S p e below s₁ (mkF m 22 #[.val (.int p0)] []) t → own_S p e below s₁ (mkF m 19 #[.val (.int p0)] [(.int (2 : Int32)), (.int p0)]) t := by
          intro t k
          show own_S p e below s₁ (mkF m 19 #[.val (.int p0)] [(.int (2 : Int32)), (.int p0)]) _
          refine XS.icmpNo X0.here hx rfl (hb hby d2_19) rfl (teq hc19).2 ?_
          exact k
        refine own_by sg22 ?_
        obtain ⟨T22, X22, e22, st22⟩ := getS2 X0 hx hZ hown (host := "") (Or.inl (hw _ (List.mem_of_getElem? (i := 33) rfl))) Via.refl e0 S_KERBEROS (g := (mkF m 22 #[.val (.int p0)] [])) rfl (hb hby d2_22)
        refine own_by st22 ?_
        obtain ⟨fs, hr, hrun, hended, hW, hsame⟩ := X22.leave (v := some (.ref wKERBEROS)) (fun h => by rw [Bd.returns] at h; cases h)
        refine ⟨_, _, ?_, hrun, hended, _, _, rfl, ?_, ⟨_, rfl⟩, hW, hsame.mono (by decide) (by decide)⟩
        · show Steps p.tables e below (T22.setTop (mkF m 25 #[.val (.int p0)] [(.ref wKERBEROS)])) _
          jvm_step X22.here [X22.here.top, hx, (hb hby d2_25), X22.method', Bd.returns, Value.isRef, FieldType.isReference]
          first | (intro acts; rw [hr _ acts rfl rfl rfl]) | rw [hr _ _ rfl rfl rfl]
          exact Steps.refl _
        · show Q2 Z p0 wCLIENT_SECRET_BASIC wCLIENT_SECRET_POST wKERBEROS wNONE h0 n0 _ T22.heap _
          rw [e22]
          exact ⟨_, rfl, E_KERBEROS, by simpa [own_cf, hc1, hc10, hc19] using F_KERBEROS, N0, rfl⟩
      · have sg26 : ∀ t, own_S p e below s₁ (mkF m 26 #[.val (.int p0)] []) t → own_S p e below s₁ (mkF m 19 #[.val (.int p0)] [(.int (2 : Int32)), (.int p0)]) t := by
          intro t k
          show own_S p e below s₁ (mkF m 19 #[.val (.int p0)] [(.int (2 : Int32)), (.int p0)]) _
          refine XS.icmpYes X0.here hx rfl (pc0 := 19) (pc' := 26) rfl (hb hby d2_19) rfl (feq hc19).2 (by decide) (by decide) ?_
          exact k
        refine own_by sg26 ?_
        obtain ⟨T26, X26, e26, st26⟩ := getS2 X0 hx hZ hown (host := "") (Or.inl (hw _ (List.mem_of_getElem? (i := 10) rfl))) Via.refl e0 S_NONE (g := (mkF m 26 #[.val (.int p0)] [])) rfl (hb hby d2_26)
        refine own_by st26 ?_
        obtain ⟨fs, hr, hrun, hended, hW, hsame⟩ := X26.leave (v := some (.ref wNONE)) (fun h => by rw [Bd.returns] at h; cases h)
        refine ⟨_, _, ?_, hrun, hended, _, _, rfl, ?_, ⟨_, rfl⟩, hW, hsame.mono (by decide) (by decide)⟩
        · show Steps p.tables e below (T26.setTop (mkF m 29 #[.val (.int p0)] [(.ref wNONE)])) _
          jvm_step X26.here [X26.here.top, hx, (hb hby d2_29), X26.method', Bd.returns, Value.isRef, FieldType.isReference]
          first | (intro acts; rw [hr _ acts rfl rfl rfl]) | rw [hr _ _ rfl rfl rfl]
          exact Steps.refl _
        · show Q2 Z p0 wCLIENT_SECRET_BASIC wCLIENT_SECRET_POST wKERBEROS wNONE h0 n0 _ T26.heap _
          rw [e26]
          exact ⟨_, rfl, E_NONE, by simpa [own_cf, hc1, hc10, hc19] using F_NONE, N0, rfl⟩
theorem d3_0 : decode prog_16_method_10_code 0 = .ok (.aload_n 0, 1) := by decide +kernel
theorem d3_1 : decode prog_16_method_10_code 1 = .ok (.getfield 36, 3) := by decide +kernel
theorem d3_4 : decode prog_16_method_10_code 4 = .ok (.ifCond .ne 10, 3) := by decide +kernel
theorem d3_7 : decode prog_16_method_10_code 7 = .ok (.aload_n 1, 1) := by decide +kernel
theorem d3_8 : decode prog_16_method_10_code 8 = .ok (.invokevirtual 115, 3) := by decide +kernel
theorem d3_11 : decode prog_16_method_10_code 11 = .ok (.ifCond .eq 7, 3) := by decide +kernel
theorem d3_14 : decode prog_16_method_10_code 14 = .ok (.iconst 1, 1) := by decide +kernel
theorem d3_15 : decode prog_16_method_10_code 15 = .ok (.goto 4, 3) := by decide +kernel
theorem d3_18 : decode prog_16_method_10_code 18 = .ok (.iconst 0, 1) := by decide +kernel
theorem d3_19 : decode prog_16_method_10_code 19 = .ok (.ireturn, 1) := by decide +kernel
theorem pn_3 : plainFor (⟨"com/example/writd/writd/model/GrantType", "allows", "(Lcom/example/writd/writd/model/AuthMethod;)Z"⟩ : MethodName) = true := by first | exact plainFor_of_name (by first | (simp [plainName, overriddenIn]; done) | decide +kernel) | decide +kernel | exact Jvm.Free.JP.mathPlain rfl (by decide +kernel)
theorem pd_3_0 : parseMethodDescriptor "()Z" = some ⟨[], some .boolean⟩ := by decide +kernel
theorem ef_3 (m : MethodId) (a1 : Addr) (a2 : Addr) : entryFrame m #[(.ref a1), (.ref a2)] 2 = mkF m 0 #[.val (.ref a1), .val (.ref a2)] [] := by first | (simp [entryFrame, mkF, argsToLocals, Value.category]; done) | rfl
def Q3 (Z : State) (a1 : Addr) (a2 : Addr) (zf : Int32) (zc : Int32) (h0 : Heap) (n0 : Nat) (v : Option Value) (h : Heap) (L : List Loc) : Prop := v = some (.int (if zf = (0 : Int32) then (if zc = (0 : Int32) then (0 : Int32) else (1 : Int32)) else (1 : Int32))) ∧ Fr n0 L ∧ h = h0
set_option maxRecDepth 65536 in
set_option maxHeartbeats 40000000 in
theorem rm3 (l : Launch) (Z : State) (a0 : Array Value) (hw : ∀ d ∈ tables_1, d.before a0 Z = true) (ws : List Jvm.Cond) (a1 : Addr) (a2 : Addr) (zf : Int32) (zc : Int32) (h0 : Heap) (n0 : Nat) (Z0 : n0 ≤ h0.size) (F1 : Fld Z h0 a1 "com/example/writd/writd/model/GrantType" "forPublicClients" "Z" (.int zf)) (F2 : Fld Z h0 a2 "com/example/writd/writd/model/AuthMethod" "confidential" "Z" (.int zc)) (E2 : Exa Z h0 a2 "com/example/writd/writd/model/AuthMethod") (hz : zc = 0 ∨ zc = 1) :
    MetFree l (⟨"com/example/writd/writd/model/GrantType", "allows", "(Lcom/example/writd/writd/model/AuthMethod;)Z"⟩ : MethodName) (head1 (Jvm.Cond.code (⟨"com/example/writd/writd/model/GrantType", "allows", "(Lcom/example/writd/writd/model/AuthMethod;)Z"⟩ : MethodName) prog_16_method_10_code 2 (some .boolean) :: ws) ({ frames := 1, cells := 0, slots := 0, locals := 12 } : Room)) (fun a U => a = #[(.ref a1), (.ref a2)] ∧ Z.Warmed39 U.vm ∧ U.heap = h0) (fun _ _ _ _ _ => True) (fun _ U o U' => ∃ v L, o = .returned v ∧ Q3 Z a1 a2 zf zc h0 n0 v U'.heap L ∧ FrameEnd U o U' L ({ frames := 1, cells := 0, slots := 0, locals := 12 } : Room).cells ({ frames := 1, cells := 0, slots := 0, locals := 12 } : Room).slots) := by
  refine MetFree.of_bodySF pn_3 hisR ?_
  intro p e s m args below meth c s₁ Bd hml0 hP hK
  obtain ⟨rfl, hZ, hh⟩ := hP
  have hx := Bd.exec
  have hby := Bd.bytes
  have hml : c.maxLocals = 2 := hml0
  have hown : s.vm.findClass "com/example/writd/writd/model/GrantType" = some m.cls := findClass_of_methodNamed Bd.named
  have hnm := (name_of_methodNamed Bd.named Bd.method).1
  have X0 : Stand p l e ({ frames := 1, cells := 0, slots := 0, locals := 12 } : Room) s m #[(.ref a1), (.ref a2)] below meth c s₁ [] 0 0 := Stand.of_body Bd
  have e0 : s₁.heap = h0 := by rw [← hh, Bd.state]; rfl
  have N0 := Fr.nil n0
  refine own_at (castTop (ef_3 m a1 a2)) ?_
  have sg1 : ∀ t, own_S p e below s₁ (mkF m 1 #[.val (.ref a1), .val (.ref a2)] [(.ref a1)]) t → own_S p e below s₁ (mkF m 0 #[.val (.ref a1), .val (.ref a2)] []) t := by
    intro t k
    show own_S p e below s₁ (mkF m 0 #[.val (.ref a1), .val (.ref a2)] []) _
    refine XS.aloadN X0.here hx rfl (hb hby d3_0) rfl rfl ?_
    exact k
  refine own_by sg1 ?_
  obtain ⟨T1, X1, e1, st1⟩ := getF X0 hx hZ hown (host := "") (Or.inl (hw _ (List.mem_of_getElem? (i := 18) rfl))) Via.refl e0 F1 (g := (mkF m 1 #[.val (.ref a1), .val (.ref a2)] [(.ref a1)])) rfl rfl (hb hby d3_1)
  refine own_by st1 ?_
  by_cases hc4 : zf = (0 : Int32)
  · have sg8 : ∀ t, own_S p e below T1 (mkF m 8 #[.val (.ref a1), .val (.ref a2)] [(.ref a2)]) t → own_S p e below T1 (mkF m 4 #[.val (.ref a1), .val (.ref a2)] [(.int zf)]) t := by
      intro t k
      show own_S p e below T1 (mkF m 4 #[.val (.ref a1), .val (.ref a2)] [(.int zf)]) _
      refine XS.ifNo X1.here hx rfl (hb hby d3_4) rfl ((if0 _ _).trans (teq hc4).2) ?_
      show own_S p e below T1 (mkF m 7 #[.val (.ref a1), .val (.ref a2)] []) _
      refine XS.aloadN X1.here hx rfl (hb hby d3_7) rfl rfl ?_
      exact k
    refine own_by sg8 ?_
    obtain ⟨cq8, kq8, q8a, q8b, q8c⟩ := isOf hZ e1 E2
    obtain ⟨_, _, ⟨T8, L8, k8, n8⟩, -, X8, ⟨Lc8, hQ8, l8, y8, z8⟩, st8⟩ := X1.virtualBack hx (y := (⟨"com/example/writd/writd/model/AuthMethod", "confidential", "()Z"⟩ : MethodName)) (z := (⟨"com/example/writd/writd/model/AuthMethod", "confidential", "()Z"⟩ : MethodName)) hown (mvT hZ (hw _ (List.mem_of_getElem? (i := 26) rfl))) (mvT hZ (hw _ (List.mem_of_getElem? (i := 27) rfl))) (notFace_of_selects (args := #[]) (mvT hZ (hw _ (List.mem_of_getElem? (i := 29) rfl)))) (mvT hZ (hw _ (List.mem_of_getElem? (i := 29) rfl))) (mvT hZ (hw _ (List.mem_of_getElem? (i := 28) rfl))) (by decide) (backOf (W := 0) (rm4 l Z a0 hw [] a2 zc h0 n0 Z0 F2 hz) hZ (hw _ (List.mem_of_getElem? (i := 30) rfl)) (hw _ (List.mem_of_getElem? (i := 11) rfl)) (by decide) (by decide)) q8a q8c (g := (mkF m 8 #[.val (.ref a1), .val (.ref a2)] [(.ref a2)])) rfl (by rw [hml]; rfl) (Steps.refl _) (argsL := []) (rest := []) (lenOf pd_3_0 rfl) rfl (by show 2 * 0 + _ ≤ _; exact Nat.le_of_eq rfl) (hb hby d3_8) (fun _ _ => ⟨rfl, e1, (by decide : 0 + 0 ≤ _), (by decide : 0 + 0 ≤ _)⟩)
    dsimp only [Pt.U, Pt.locs, Pt.cells, Pt.slots] at X8 l8 y8 z8 st8 hQ8
    subst l8 y8 z8
    obtain ⟨rfl, N8q, hq8⟩ := hQ8
    have N8 := Fr.app N0 N8q
    refine own_by (fun t k => st8.trans k) ?_
    by_cases hc11 : zc = (0 : Int32)
    · have sg19 : ∀ t, own_S p e below T8 (mkF m 19 #[.val (.ref a1), .val (.ref a2)] [(.int (0 : Int32))]) t → own_S p e below T8 (mkF m 11 #[.val (.ref a1), .val (.ref a2)] [(.int zc)]) t := by
        intro t k
        show own_S p e below T8 (mkF m 11 #[.val (.ref a1), .val (.ref a2)] [(.int zc)]) _
        refine XS.ifYes X8.here hx rfl (pc0 := 11) (pc' := 18) rfl (hb hby d3_11) rfl ((if0 _ _).trans (teq hc11).1) (by decide) (by decide) ?_
        show own_S p e below T8 (mkF m 18 #[.val (.ref a1), .val (.ref a2)] []) _
        refine XS.iconst X8.here hx rfl (hb hby d3_18) ?_
        exact k
      refine own_by sg19 ?_
      obtain ⟨fs, hr, hrun, hended, hW, hsame⟩ := X8.leave (v := some (.int (0 : Int32))) (fun h => by rw [Bd.returns] at h; cases h)
      refine ⟨_, _, ?_, hrun, hended, _, _, rfl, ?_, ⟨_, rfl⟩, hW, hsame.mono (by decide) (by decide)⟩
      · exact retN X8 hx (t := .boolean) Bd.returns (by simp) (hb hby d3_19) hr
      · show Q3 Z a1 a2 zf zc h0 n0 _ T8.heap _
        rw [hq8]
        exact ⟨by simp [hc4, hc11], N8, rfl⟩
    · have sg19 : ∀ t, own_S p e below T8 (mkF m 19 #[.val (.ref a1), .val (.ref a2)] [(.int (1 : Int32))]) t → own_S p e below T8 (mkF m 11 #[.val (.ref a1), .val (.ref a2)] [(.int zc)]) t := by
        intro t k
        show own_S p e below T8 (mkF m 11 #[.val (.ref a1), .val (.ref a2)] [(.int zc)]) _
        refine XS.ifNo X8.here hx rfl (hb hby d3_11) rfl ((if0 _ _).trans (feq hc11).1) ?_
        show own_S p e below T8 (mkF m 14 #[.val (.ref a1), .val (.ref a2)] []) _
        refine XS.iconst X8.here hx rfl (hb hby d3_14) ?_
        show own_S p e below T8 (mkF m 15 #[.val (.ref a1), .val (.ref a2)] [(.int (1 : Int32))]) _
        refine XS.goto X8.here hx rfl (pc0 := 15) (pc' := 19) rfl (hb hby d3_15) (by decide) (by decide) ?_
        exact k
      refine own_by sg19 ?_
      obtain ⟨fs, hr, hrun, hended, hW, hsame⟩ := X8.leave (v := some (.int (1 : Int32))) (fun h => by rw [Bd.returns] at h; cases h)
      refine ⟨_, _, ?_, hrun, hended, _, _, rfl, ?_, ⟨_, rfl⟩, hW, hsame.mono (by decide) (by decide)⟩
      · exact retN X8 hx (t := .boolean) Bd.returns (by simp) (hb hby d3_19) hr
      · show Q3 Z a1 a2 zf zc h0 n0 _ T8.heap _
        rw [hq8]
        exact ⟨by simp [hc4, hc11], N8, rfl⟩
  · have sg19 : ∀ t, own_S p e below T1 (mkF m 19 #[.val (.ref a1), .val (.ref a2)] [(.int (1 : Int32))]) t → own_S p e below T1 (mkF m 4 #[.val (.ref a1), .val (.ref a2)] [(.int zf)]) t := by
      intro t k
      show own_S p e below T1 (mkF m 4 #[.val (.ref a1), .val (.ref a2)] [(.int zf)]) _
      refine XS.ifYes X1.here hx rfl (pc0 := 4) (pc' := 14) rfl (hb hby d3_4) rfl ((if0 _ _).trans (feq hc4).2) (by decide) (by decide) ?_
      show own_S p e below T1 (mkF m 14 #[.val (.ref a1), .val (.ref a2)] []) _
      refine XS.iconst X1.here hx rfl (hb hby d3_14) ?_
      show own_S p e below T1 (mkF m 15 #[.val (.ref a1), .val (.ref a2)] [(.int (1 : Int32))]) _
      refine XS.goto X1.here hx rfl (pc0 := 15) (pc' := 19) rfl (hb hby d3_15) (by decide) (by decide) ?_
      exact k
    refine own_by sg19 ?_
    obtain ⟨fs, hr, hrun, hended, hW, hsame⟩ := X1.leave (v := some (.int (1 : Int32))) (fun h => by rw [Bd.returns] at h; cases h)
    refine ⟨_, _, ?_, hrun, hended, _, _, rfl, ?_, ⟨_, rfl⟩, hW, hsame.mono (by decide) (by decide)⟩
    · exact retN X1 hx (t := .boolean) Bd.returns (by simp) (hb hby d3_19) hr
    · show Q3 Z a1 a2 zf zc h0 n0 _ T1.heap _
      rw [e1]
      exact ⟨by simp [hc4], N0, rfl⟩
theorem pn_0 : plainFor x = true := by first | exact plainFor_of_name (by first | (simp [plainName, overriddenIn]; done) | decide +kernel) | decide +kernel | exact Jvm.Free.JP.mathPlain rfl (by decide +kernel)
theorem pd_0_0 : parseMethodDescriptor "(I)Lcom/example/writd/writd/model/GrantType;" = some ⟨[.int], some (.object "com/example/writd/writd/model/GrantType")⟩ := by decide +kernel
theorem pd_0_1 : parseMethodDescriptor "(I)Lcom/example/writd/writd/model/AuthMethod;" = some ⟨[.int], some (.object "com/example/writd/writd/model/AuthMethod")⟩ := by decide +kernel
theorem pd_0_2 : parseMethodDescriptor "(Lcom/example/writd/writd/model/AuthMethod;)Z" = some ⟨[(.object "com/example/writd/writd/model/AuthMethod")], some .boolean⟩ := by decide +kernel
theorem ef_0 (m : MethodId) (p0 : Int32) (p1 : Int32) : entryFrame m #[(.int p0), (.int p1)] maxLocals = mkF m 0 #[.val (.int p0), .val (.int p1), .unset, .unset, .unset, .unset, .unset] [] := by first | (simp [entryFrame, mkF, argsToLocals, Value.category, maxLocals]; done) | rfl
def Q0 (Z : State) (p0 : Int32) (p1 : Int32) (wAUTHORIZATION_CODE : Addr) (wCLIENT_CREDENTIALS : Addr) (wCLIENT_SECRET_BASIC : Addr) (wCLIENT_SECRET_POST : Addr) (wKERBEROS : Addr) (wNONE : Addr) (h0 : Heap) (n0 : Nat) (v : Option Value) (h : Heap) (L : List Loc) : Prop := v = some (.int 1) ∧ Fr n0 L
set_option maxRecDepth 65536 in
set_option maxHeartbeats 40000000 in
theorem rm0 (l : Launch) (Z : State) (a0 : Array Value) (hw : ∀ d ∈ tables_1, d.before a0 Z = true) (ws : List Jvm.Cond) (p0 : Int32) (p1 : Int32) (wAUTHORIZATION_CODE : Addr) (wCLIENT_CREDENTIALS : Addr) (wCLIENT_SECRET_BASIC : Addr) (wCLIENT_SECRET_POST : Addr) (wKERBEROS : Addr) (wNONE : Addr) (h0 : Heap) (n0 : Nat) (Z0 : n0 ≤ h0.size) (S_AUTHORIZATION_CODE : Sta Z h0 "com/example/writd/writd/model/GrantType" "AUTHORIZATION_CODE" "Lcom/example/writd/writd/model/GrantType;" (.ref wAUTHORIZATION_CODE)) (S_CLIENT_CREDENTIALS : Sta Z h0 "com/example/writd/writd/model/GrantType" "CLIENT_CREDENTIALS" "Lcom/example/writd/writd/model/GrantType;" (.ref wCLIENT_CREDENTIALS)) (S_CLIENT_SECRET_BASIC : Sta Z h0 "com/example/writd/writd/model/AuthMethod" "CLIENT_SECRET_BASIC" "Lcom/example/writd/writd/model/AuthMethod;" (.ref wCLIENT_SECRET_BASIC)) (S_CLIENT_SECRET_POST : Sta Z h0 "com/example/writd/writd/model/AuthMethod" "CLIENT_SECRET_POST" "Lcom/example/writd/writd/model/AuthMethod;" (.ref wCLIENT_SECRET_POST)) (S_KERBEROS : Sta Z h0 "com/example/writd/writd/model/AuthMethod" "KERBEROS" "Lcom/example/writd/writd/model/AuthMethod;" (.ref wKERBEROS)) (S_NONE : Sta Z h0 "com/example/writd/writd/model/AuthMethod" "NONE" "Lcom/example/writd/writd/model/AuthMethod;" (.ref wNONE)) (E_AUTHORIZATION_CODE : Exa Z h0 wAUTHORIZATION_CODE "com/example/writd/writd/model/GrantType") (E_CLIENT_CREDENTIALS : Exa Z h0 wCLIENT_CREDENTIALS "com/example/writd/writd/model/GrantType") (E_CLIENT_SECRET_BASIC : Exa Z h0 wCLIENT_SECRET_BASIC "com/example/writd/writd/model/AuthMethod") (E_CLIENT_SECRET_POST : Exa Z h0 wCLIENT_SECRET_POST "com/example/writd/writd/model/AuthMethod") (E_KERBEROS : Exa Z h0 wKERBEROS "com/example/writd/writd/model/AuthMethod") (E_NONE : Exa Z h0 wNONE "com/example/writd/writd/model/AuthMethod") (F_AUTHORIZATION_CODE : Fld Z h0 wAUTHORIZATION_CODE "com/example/writd/writd/model/GrantType" "forPublicClients" "Z" (.int (1 : Int32))) (F_CLIENT_CREDENTIALS : Fld Z h0 wCLIENT_CREDENTIALS "com/example/writd/writd/model/GrantType" "forPublicClients" "Z" (.int (0 : Int32))) (F_CLIENT_SECRET_BASIC : Fld Z h0 wCLIENT_SECRET_BASIC "com/example/writd/writd/model/AuthMethod" "confidential" "Z" (.int (1 : Int32))) (F_CLIENT_SECRET_POST : Fld Z h0 wCLIENT_SECRET_POST "com/example/writd/writd/model/AuthMethod" "confidential" "Z" (.int (1 : Int32))) (F_KERBEROS : Fld Z h0 wKERBEROS "com/example/writd/writd/model/AuthMethod" "confidential" "Z" (.int (1 : Int32))) (F_NONE : Fld Z h0 wNONE "com/example/writd/writd/model/AuthMethod" "confidential" "Z" (.int (0 : Int32))) :
    MetFree l x (head1 (Jvm.Cond.code x code maxLocals ret :: ws) room_1) (fun a U => a = #[(.int p0), (.int p1)] ∧ Z.Warmed39 U.vm ∧ U.heap = h0) (fun _ _ _ _ _ => True) (fun _ U o U' => ∃ v L, o = .returned v ∧ Q0 Z p0 p1 wAUTHORIZATION_CODE wCLIENT_CREDENTIALS wCLIENT_SECRET_BASIC wCLIENT_SECRET_POST wKERBEROS wNONE h0 n0 v U'.heap L ∧ FrameEnd U o U' L room_1.cells room_1.slots) := by
  refine MetFree.of_bodySF pn_0 hisR ?_
  intro p e s m args below meth c s₁ Bd hml0 hP hK
  obtain ⟨rfl, hZ, hh⟩ := hP
  have hx := Bd.exec
  have hby := Bd.bytes
  have hml : c.maxLocals = 7 := hml0
  have hown : s.vm.findClass "com/example/writd/writd/model/GrantTypeAllowsPinLaw" = some m.cls := findClass_of_methodNamed Bd.named
  have hnm := (name_of_methodNamed Bd.named Bd.method).1
  have X0 : Stand p l e room_1 s m #[(.int p0), (.int p1)] below meth c s₁ [] 0 0 := Stand.of_body Bd
  have e0 : s₁.heap = h0 := by rw [← hh, Bd.state]; rfl
  have N0 := Fr.nil n0
  refine own_at (castTop (ef_0 m p0 p1)) ?_
  obtain ⟨v3, hv3⟩ : ∃ z : Int32, z = (p0 &&& (1 : Int32)) := ⟨_, rfl⟩
  have sg3 : ∀ t, own_S p e below s₁ (mkF m 3 (own_AIIUUUUU p0 p1) [(.int v3)]) t → own_S p e below s₁ (mkF m 0 (own_AIIUUUUU p0 p1) []) t := by
    intro t k
    rw [hv3] at k
    show own_S p e below s₁ (mkF m 0 (own_AIIUUUUU p0 p1) []) _
    refine XS.iloadN X0.here hx rfl (hb hby at_0) rfl ?_
    show own_S p e below s₁ (mkF m 1 (own_AIIUUUUU p0 p1) [(.int p0)]) _
    refine XS.iconst X0.here hx rfl (hb hby at_1) ?_
    show own_S p e below s₁ (mkF m 2 (own_AIIUUUUU p0 p1) [(.int (1 : Int32)), (.int p0)]) _
    refine XS.iand X0.here hx rfl (hb hby at_2) rfl ?_
    exact k
  refine own_by sg3 ?_
  obtain ⟨v7, hv7⟩ : ∃ z : Int32, z = (p1 &&& (3 : Int32)) := ⟨_, rfl⟩
  have sg7 : ∀ t, own_S p e below s₁ (mkF m 7 (own_AIIIUUUU p0 p1 v3) [(.int v7)]) t → own_S p e below s₁ (mkF m 3 (own_AIIUUUUU p0 p1) [(.int v3)]) t := by
    intro t k
    rw [hv7] at k
    show own_S p e below s₁ (mkF m 3 (own_AIIUUUUU p0 p1) [(.int v3)]) _
    refine XS.istoreN X0.here hx rfl (hb hby at_3) rfl (l' := (own_AIIIUUUU p0 p1 v3)) rfl ?_
    show own_S p e below s₁ (mkF m 4 (own_AIIIUUUU p0 p1 v3) []) _
    refine XS.iloadN X0.here hx rfl (hb hby at_4) rfl ?_
    show own_S p e below s₁ (mkF m 5 (own_AIIIUUUU p0 p1 v3) [(.int p1)]) _
    refine XS.iconst X0.here hx rfl (hb hby at_5) ?_
    show own_S p e below s₁ (mkF m 6 (own_AIIIUUUU p0 p1 v3) [(.int (3 : Int32)), (.int p1)]) _
    refine XS.iand X0.here hx rfl (hb hby at_6) rfl ?_
    exact k
  refine own_by sg7 ?_
  have sg9 : ∀ t, own_S p e below s₁ (mkF m 9 (own_AIIIIUUU p0 p1 v3 v7) [(.int v3)]) t → own_S p e below s₁ (mkF m 7 (own_AIIIUUUU p0 p1 v3) [(.int v7)]) t := by
    intro t k
    show own_S p e below s₁ (mkF m 7 (own_AIIIUUUU p0 p1 v3) [(.int v7)]) _
    refine XS.istoreN X0.here hx rfl (hb hby at_7) rfl (l' := (own_AIIIIUUU p0 p1 v3 v7)) rfl ?_
    show own_S p e below s₁ (mkF m 8 (own_AIIIIUUU p0 p1 v3 v7) []) _
    refine XS.iloadN X0.here hx rfl (hb hby at_8) rfl ?_
    exact k
  refine own_by sg9 ?_
  obtain ⟨_, _, ⟨T9, L9, k9, n9⟩, -, X9, ⟨Lc9, hQ9, l9, y9, z9⟩, st9⟩ := Jvm.LawKit.callS X0 hx (y := (⟨"com/example/writd/writd/model/GrantTypeAllowsPinLaw", "grant", "(I)Lcom/example/writd/writd/model/GrantType;"⟩ : MethodName)) hown (mvT hZ (hw _ (List.mem_of_getElem? (i := 0) rfl))) (mvT hZ (hw _ (List.mem_of_getElem? (i := 1) rfl))) (mvT hZ (hw _ (List.mem_of_getElem? (i := 2) rfl))) (mvT hZ (hw _ (List.mem_of_getElem? (i := 3) rfl))) (by decide) (backOf (W := 0) (rm1 l Z a0 hw [] v3 wAUTHORIZATION_CODE wCLIENT_CREDENTIALS h0 n0 Z0 S_AUTHORIZATION_CODE S_CLIENT_CREDENTIALS E_AUTHORIZATION_CODE E_CLIENT_CREDENTIALS F_AUTHORIZATION_CODE F_CLIENT_CREDENTIALS) hZ (hw _ (List.mem_of_getElem? (i := 3) rfl)) (hw _ (List.mem_of_getElem? (i := 2) rfl)) (by decide) (by decide)) (g := (mkF m 9 (own_AIIIIUUU p0 p1 v3 v7) [(.int v3)])) rfl (by rw [hml]; rfl) (argsL := [(.int v3)]) (rest := []) (lenOf pd_0_0 rfl) rfl (by show 2 * 0 + _ ≤ _; exact Nat.le_of_eq rfl) (hb hby at_9) (fun _ _ => ⟨rfl, e0, (by decide : 0 + 0 ≤ _), (by decide : 0 + 0 ≤ _)⟩)
  dsimp only [Pt.U, Pt.locs, Pt.cells, Pt.slots] at X9 l9 y9 z9 st9 hQ9
  subst l9 y9 z9
  obtain ⟨r9, rfl, E9, F9, N9q, hq9⟩ := hQ9
  have N9 := Fr.app N0 N9q
  refine own_by st9 ?_
  have sg15 : ∀ t, own_S p e below T9 (mkF m 15 (own_AIIIIRUU p0 p1 v3 v7 r9) [(.int v7)]) t → own_S p e below T9 (mkF m 12 (own_AIIIIUUU p0 p1 v3 v7) [(.ref r9)]) t := by
    intro t k
    show own_S p e below T9 (mkF m 12 (own_AIIIIUUU p0 p1 v3 v7) [(.ref r9)]) _
    refine XS.astore X9.here hx rfl (hb hby at_12) rfl rfl (l' := (own_AIIIIRUU p0 p1 v3 v7 r9)) rfl ?_
    show own_S p e below T9 (mkF m 14 (own_AIIIIRUU p0 p1 v3 v7 r9) []) _
    refine XS.iloadN X9.here hx rfl (hb hby at_14) rfl ?_
    exact k
  refine own_by sg15 ?_
  obtain ⟨_, _, ⟨T15, L15, k15, n15⟩, -, X15, ⟨Lc15, hQ15, l15, y15, z15⟩, st15⟩ := Jvm.LawKit.callS X9 hx (y := (⟨"com/example/writd/writd/model/GrantTypeAllowsPinLaw", "method", "(I)Lcom/example/writd/writd/model/AuthMethod;"⟩ : MethodName)) hown (mvT hZ (hw _ (List.mem_of_getElem? (i := 7) rfl))) (mvT hZ (hw _ (List.mem_of_getElem? (i := 8) rfl))) (mvT hZ (hw _ (List.mem_of_getElem? (i := 2) rfl))) (mvT hZ (hw _ (List.mem_of_getElem? (i := 9) rfl))) (by decide) (backOf (W := 0) (rm2 l Z a0 hw [] v7 wCLIENT_SECRET_BASIC wCLIENT_SECRET_POST wKERBEROS wNONE h0 n0 Z0 S_CLIENT_SECRET_BASIC S_CLIENT_SECRET_POST S_KERBEROS S_NONE E_CLIENT_SECRET_BASIC E_CLIENT_SECRET_POST E_KERBEROS E_NONE F_CLIENT_SECRET_BASIC F_CLIENT_SECRET_POST F_KERBEROS F_NONE) hZ (hw _ (List.mem_of_getElem? (i := 9) rfl)) (hw _ (List.mem_of_getElem? (i := 2) rfl)) (by decide) (by decide)) (g := (mkF m 15 (own_AIIIIRUU p0 p1 v3 v7 r9) [(.int v7)])) rfl (by rw [hml]; rfl) (argsL := [(.int v7)]) (rest := []) (lenOf pd_0_1 rfl) rfl (by show 2 * 0 + _ ≤ _; exact Nat.le_of_eq rfl) (hb hby at_15) (fun _ _ => ⟨rfl, hq9, (by decide : 0 + 0 ≤ _), (by decide : 0 + 0 ≤ _)⟩)
  dsimp only [Pt.U, Pt.locs, Pt.cells, Pt.slots] at X15 l15 y15 z15 st15 hQ15
  subst l15 y15 z15
  obtain ⟨r15, rfl, E15, F15, N15q, hq15⟩ := hQ15
  have N15 := Fr.app N9 N15q
  refine own_by st15 ?_
  have sg20 : ∀ t, own_S p e below T15 (mkF m 20 (own_AIIIIRRU p0 p1 v3 v7 r9 r15) []) t → own_S p e below T15 (mkF m 18 (own_AIIIIRUU p0 p1 v3 v7 r9) [(.ref r15)]) t := by
    intro t k
    show own_S p e below T15 (mkF m 18 (own_AIIIIRUU p0 p1 v3 v7 r9) [(.ref r15)]) _
    refine XS.astore X15.here hx rfl (hb hby at_18) rfl rfl (l' := (own_AIIIIRRU p0 p1 v3 v7 r9 r15)) rfl ?_
    exact k
  refine own_by sg20 ?_
  obtain ⟨r20_l6, hr20_l6⟩ : ∃ z : Int32, z = (if v3 = (0 : Int32) then (1 : Int32) else (if v7 = (3 : Int32) then (0 : Int32) else (1 : Int32))) := ⟨_, rfl⟩
  have str20 : ∀ t, own_S p e below T15 (mkF m 44 (own_AIIIIRRI p0 p1 v3 v7 r9 r15 r20_l6) []) t → own_S p e below T15 (mkF m 20 (own_AIIIIRRU p0 p1 v3 v7 r9 r15) []) t := by
    have sg21 : ∀ t, own_S p e below T15 (mkF m 21 (own_AIIIIRRU p0 p1 v3 v7 r9 r15) [(.int v3)]) t → own_S p e below T15 (mkF m 20 (own_AIIIIRRU p0 p1 v3 v7 r9 r15) []) t := by
      intro t k
      show own_S p e below T15 (mkF m 20 (own_AIIIIRRU p0 p1 v3 v7 r9 r15) []) _
      refine XS.iloadN X15.here hx rfl (hb hby at_20) rfl ?_
      exact k
    by_cases hc21 : v3 = (0 : Int32)
    · rw [if_pos hc21] at hr20_l6
      have sg44 : ∀ t, own_S p e below T15 (mkF m 44 (own_AIIIIRRI p0 p1 v3 v7 r9 r15 (1 : Int32)) []) t → own_S p e below T15 (mkF m 21 (own_AIIIIRRU p0 p1 v3 v7 r9 r15) [(.int v3)]) t := by
        intro t k
        show own_S p e below T15 (mkF m 21 (own_AIIIIRRU p0 p1 v3 v7 r9 r15) [(.int v3)]) _
        refine XS.ifNo X15.here hx rfl (hb hby at_21) rfl ((if0 _ _).trans (teq hc21).2) ?_
        show own_S p e below T15 (mkF m 24 (own_AIIIIRRU p0 p1 v3 v7 r9 r15) []) _
        refine XS.iconst X15.here hx rfl (hb hby at_24) ?_
        show own_S p e below T15 (mkF m 25 (own_AIIIIRRU p0 p1 v3 v7 r9 r15) [(.int (1 : Int32))]) _
        refine XS.istore X15.here hx rfl (hb hby at_25) rfl (l' := (own_AIIIIRRI p0 p1 v3 v7 r9 r15 (1 : Int32))) rfl ?_
        show own_S p e below T15 (mkF m 27 (own_AIIIIRRI p0 p1 v3 v7 r9 r15 (1 : Int32)) []) _
        refine XS.goto X15.here hx rfl (pc0 := 27) (pc' := 44) rfl (hb hby at_27) (by decide) (by decide) ?_
        exact k
      rw [hr20_l6]
      exact fun t k => (sg21 t (sg44 t k))
    · rw [if_neg hc21] at hr20_l6
      have sg32 : ∀ t, own_S p e below T15 (mkF m 32 (own_AIIIIRRU p0 p1 v3 v7 r9 r15) [(.int (3 : Int32)), (.int v7)]) t → own_S p e below T15 (mkF m 21 (own_AIIIIRRU p0 p1 v3 v7 r9 r15) [(.int v3)]) t := by
        intro t k
        show own_S p e below T15 (mkF m 21 (own_AIIIIRRU p0 p1 v3 v7 r9 r15) [(.int v3)]) _
        refine XS.ifYes X15.here hx rfl (pc0 := 21) (pc' := 30) rfl (hb hby at_21) rfl ((if0 _ _).trans (feq hc21).2) (by decide) (by decide) ?_
        show own_S p e below T15 (mkF m 30 (own_AIIIIRRU p0 p1 v3 v7 r9 r15) []) _
        refine XS.iloadN X15.here hx rfl (hb hby at_30) rfl ?_
        show own_S p e below T15 (mkF m 31 (own_AIIIIRRU p0 p1 v3 v7 r9 r15) [(.int v7)]) _
        refine XS.iconst X15.here hx rfl (hb hby at_31) ?_
        exact k
      by_cases hc32 : v7 = (3 : Int32)
      · rw [if_pos hc32] at hr20_l6
        have sg44 : ∀ t, own_S p e below T15 (mkF m 44 (own_AIIIIRRI p0 p1 v3 v7 r9 r15 (0 : Int32)) []) t → own_S p e below T15 (mkF m 32 (own_AIIIIRRU p0 p1 v3 v7 r9 r15) [(.int (3 : Int32)), (.int v7)]) t := by
          intro t k
          show own_S p e below T15 (mkF m 32 (own_AIIIIRRU p0 p1 v3 v7 r9 r15) [(.int (3 : Int32)), (.int v7)]) _
          refine XS.icmpNo X15.here hx rfl (hb hby at_32) rfl (teq hc32).2 ?_
          show own_S p e below T15 (mkF m 35 (own_AIIIIRRU p0 p1 v3 v7 r9 r15) []) _
          refine XS.iconst X15.here hx rfl (hb hby at_35) ?_
          show own_S p e below T15 (mkF m 36 (own_AIIIIRRU p0 p1 v3 v7 r9 r15) [(.int (0 : Int32))]) _
          refine XS.istore X15.here hx rfl (hb hby at_36) rfl (l' := (own_AIIIIRRI p0 p1 v3 v7 r9 r15 (0 : Int32))) rfl ?_
          show own_S p e below T15 (mkF m 38 (own_AIIIIRRI p0 p1 v3 v7 r9 r15 (0 : Int32)) []) _
          refine XS.goto X15.here hx rfl (pc0 := 38) (pc' := 44) rfl (hb hby at_38) (by decide) (by decide) ?_
          exact k
        rw [hr20_l6]
        exact fun t k => (sg21 t (sg32 t (sg44 t k)))
      · rw [if_neg hc32] at hr20_l6
        have sg44 : ∀ t, own_S p e below T15 (mkF m 44 (own_AIIIIRRI p0 p1 v3 v7 r9 r15 (1 : Int32)) []) t → own_S p e below T15 (mkF m 32 (own_AIIIIRRU p0 p1 v3 v7 r9 r15) [(.int (3 : Int32)), (.int v7)]) t := by
          intro t k
          show own_S p e below T15 (mkF m 32 (own_AIIIIRRU p0 p1 v3 v7 r9 r15) [(.int (3 : Int32)), (.int v7)]) _
          refine XS.icmpYes X15.here hx rfl (pc0 := 32) (pc' := 41) rfl (hb hby at_32) rfl (feq hc32).2 (by decide) (by decide) ?_
          show own_S p e below T15 (mkF m 41 (own_AIIIIRRU p0 p1 v3 v7 r9 r15) []) _
          refine XS.iconst X15.here hx rfl (hb hby at_41) ?_
          show own_S p e below T15 (mkF m 42 (own_AIIIIRRU p0 p1 v3 v7 r9 r15) [(.int (1 : Int32))]) _
          refine XS.istore X15.here hx rfl (hb hby at_42) rfl (l' := (own_AIIIIRRI p0 p1 v3 v7 r9 r15 (1 : Int32))) rfl ?_
          exact k
        rw [hr20_l6]
        exact fun t k => (sg21 t (sg32 t (sg44 t k)))
  refine own_by str20 ?_
  have sg48 : ∀ t, own_S p e below T15 (mkF m 48 (own_AIIIIRRI p0 p1 v3 v7 r9 r15 r20_l6) [(.ref r15), (.ref r9)]) t → own_S p e below T15 (mkF m 44 (own_AIIIIRRI p0 p1 v3 v7 r9 r15 r20_l6) []) t := by
    intro t k
    show own_S p e below T15 (mkF m 44 (own_AIIIIRRI p0 p1 v3 v7 r9 r15 r20_l6) []) _
    refine XS.aload X15.here hx rfl (hb hby at_44) rfl rfl ?_
    show own_S p e below T15 (mkF m 46 (own_AIIIIRRI p0 p1 v3 v7 r9 r15 r20_l6) [(.ref r9)]) _
    refine XS.aload X15.here hx rfl (hb hby at_46) rfl rfl ?_
    exact k
  refine own_by sg48 ?_
  obtain ⟨cq48, kq48, q48a, q48b, q48c⟩ := isOf hZ hq15 E9
  obtain ⟨_, _, ⟨T48, L48, k48, n48⟩, -, X48, ⟨Lc48, hQ48, l48, y48, z48⟩, st48⟩ := X15.virtualBack hx (y := (⟨"com/example/writd/writd/model/GrantType", "allows", "(Lcom/example/writd/writd/model/AuthMethod;)Z"⟩ : MethodName)) (z := (⟨"com/example/writd/writd/model/GrantType", "allows", "(Lcom/example/writd/writd/model/AuthMethod;)Z"⟩ : MethodName)) hown (mvT hZ (hw _ (List.mem_of_getElem? (i := 13) rfl))) (mvT hZ (hw _ (List.mem_of_getElem? (i := 14) rfl))) (notFace_of_selects (args := #[]) (mvT hZ (hw _ (List.mem_of_getElem? (i := 16) rfl)))) (mvT hZ (hw _ (List.mem_of_getElem? (i := 16) rfl))) (mvT hZ (hw _ (List.mem_of_getElem? (i := 15) rfl))) (by decide) (backOf (W := 0) (rm3 l Z a0 hw [] r9 r15 (own_fp v3) (own_cf v7) h0 n0 Z0 F9 F15 E15 (own_cf01 _)) hZ (hw _ (List.mem_of_getElem? (i := 17) rfl)) (hw _ (List.mem_of_getElem? (i := 5) rfl)) (by decide) (by decide)) q48a q48c (g := (mkF m 48 (own_AIIIIRRI p0 p1 v3 v7 r9 r15 r20_l6) [(.ref r15), (.ref r9)])) rfl (by rw [hml]; rfl) (Steps.refl _) (argsL := [(.ref r15)]) (rest := []) (lenOf pd_0_2 rfl) rfl (by show 2 * 0 + _ ≤ _; exact Nat.le_of_eq rfl) (hb hby at_48) (fun _ _ => ⟨rfl, hq15, (by decide : 0 + 0 ≤ _), (by decide : 0 + 0 ≤ _)⟩)
  dsimp only [Pt.U, Pt.locs, Pt.cells, Pt.slots] at X48 l48 y48 z48 st48 hQ48
  subst l48 y48 z48
  obtain ⟨rfl, N48q, hq48⟩ := hQ48
  have N48 := Fr.app N15 N48q
  obtain ⟨c48, hc48⟩ : ∃ z : Int32, z = (if (own_fp v3) = (0 : Int32) then (if (own_cf v7) = (0 : Int32) then (0 : Int32) else (1 : Int32)) else (1 : Int32)) := ⟨_, rfl⟩
  rw [← hc48] at st48
  refine own_by (fun t k => st48.trans k) ?_
  have sg61 : ∀ t, own_S p e below T48 (mkF m 61 (own_AIIIIRRI p0 p1 v3 v7 r9 r15 r20_l6) [(.int (1 : Int32))]) t → own_S p e below T48 (mkF m 51 (own_AIIIIRRI p0 p1 v3 v7 r9 r15 r20_l6) [(.int c48)]) t := by
    intro t k
    show own_S p e below T48 (mkF m 51 (own_AIIIIRRI p0 p1 v3 v7 r9 r15 r20_l6) [(.int c48)]) _
    refine XS.iload X48.here hx rfl (hb hby at_51) rfl ?_
    show own_S p e below T48 (mkF m 53 (own_AIIIIRRI p0 p1 v3 v7 r9 r15 r20_l6) [(.int r20_l6), (.int c48)]) _
    refine XS.icmpNo X48.here hx rfl (hb hby at_53) rfl (teq (by rw [hc48, hr20_l6]; exact own_law _ _ (by rw [hv7]; exact own_m3 _) : c48 = r20_l6)).2 ?_
    show own_S p e below T48 (mkF m 56 (own_AIIIIRRI p0 p1 v3 v7 r9 r15 r20_l6) []) _
    refine XS.iconst X48.here hx rfl (hb hby at_56) ?_
    show own_S p e below T48 (mkF m 57 (own_AIIIIRRI p0 p1 v3 v7 r9 r15 r20_l6) [(.int (1 : Int32))]) _
    refine XS.goto X48.here hx rfl (pc0 := 57) (pc' := 61) rfl (hb hby at_57) (by decide) (by decide) ?_
    exact k
  refine own_by sg61 ?_
  obtain ⟨fs, hr, hrun, hended, hW, hsame⟩ := X48.leave (v := some (.int (1 : Int32))) (fun h => by rw [Bd.returns] at h; cases h)
  refine ⟨_, _, ?_, hrun, hended, _, _, rfl, ?_, ⟨_, rfl⟩, hW, hsame.mono (by decide) (by decide)⟩
  · exact retN X48 hx (t := .boolean) Bd.returns (by simp) (hb hby at_61) hr
  · show Q0 Z p0 p1 wAUTHORIZATION_CODE wCLIENT_CREDENTIALS wCLIENT_SECRET_BASIC wCLIENT_SECRET_POST wKERBEROS wNONE h0 n0 _ T48.heap _
    rw [hq48]
    exact ⟨rfl, N48⟩
set_option maxRecDepth 65536 in
set_option maxHeartbeats 40000000 in
theorem comes_1 {Post : Tables → Env → Array Value → State → Outcome → State → Prop} (hpost : ∀ tb e args s v u, (limb_1_1.after args s (.returned v) u = true ∧ limb_1_2.after args s (.returned v) u = true ∧ True) → FrameEnd s (.returned v) u (Jvm.fieldLocs frame_1_writes args s ++ Jvm.arrayLocs frame_1_arrays args s ++ Jvm.staticLocs frame_1_statics s) 0 0 → Post tb e args s (.returned v) u) :
    ArmFor flags0 classFile x code maxLocals ret World_1 tables_1 room_1 Calls_1 rest_1 Pre_1 Post := by
  intro l hfl _ _ p e ha hc hk s m args below hf hA hF happ hP
  obtain ⟨hcalls, hrest, hpre⟩ := hP
  obtain ⟨-, -, -, hnamed, -, -, -, hat⟩ := (Spec.applies_iff hf).mp happ
  obtain ⟨hg, nn⟩ := and_e (Cond.before_iff.mp (show (Jvm.Cond.and given_1 narrow_1).before args s = true from hpre))
  obtain ⟨hh0, hh1⟩ := and_e hg
  obtain ⟨hh2, hh3⟩ := and_e hh1
  obtain ⟨w0, w1, rfl⟩ : ∃ w0 w1 : Value, args = #[w0, w1] := by
    have hs : args.size = 2 := by simpa [Cond.value, given_1] using hh0
    obtain ⟨L⟩ := args
    match L, hs with
    | [w0, w1], _ => exact ⟨w0, w1, rfl⟩
  have hw := fun d (hd : d ∈ tables_1) => atoms_spec (ws := Jvm.Cond.code x code maxLocals ret :: tables_1) hat d (List.mem_cons_of_mem _ hd)
  have hfit : Fit s := fun {y c} hc i hi => by
    obtain ⟨ha, rfl⟩ := Array.getElem?_eq_some_iff.mp hc
    have q := List.all_eq_true.mp ((Array.all_eq_true_iff_forall_mem.mp hF) _ (Array.getElem_mem ha)) i (List.mem_range.mpr hi)
    simpa [Array.getElem?_eq_getElem hi] using q
  obtain ⟨i0, ei0⟩ := is_v hh2
  obtain rfl : w0 = (.int i0) := Option.some.inj ei0
  obtain ⟨i1, ei1⟩ := is_v hh3
  obtain rfl : w1 = (.int i1) := Option.some.inj ei1
  obtain ⟨nn0, nn1⟩ := and_e nn
  obtain ⟨nn2, nn3⟩ := and_e nn1
  obtain ⟨nn4, nn5⟩ := and_e nn3
  obtain ⟨nn6, nn7⟩ := and_e nn5
  obtain ⟨nn8, nn9⟩ := and_e nn7
  obtain ⟨nn10, nn11⟩ := and_e nn9
  obtain ⟨nn12, nn13⟩ := and_e nn11
  obtain ⟨nn14, nn15⟩ := and_e nn13
  obtain ⟨nn16, nn17⟩ := and_e nn15
  obtain ⟨nn18, nn19⟩ := and_e nn17
  obtain ⟨nn20, nn21⟩ := and_e nn19
  obtain ⟨u_AUTHORIZATION_CODE, ev_u_AUTHORIZATION_CODE⟩ := exa_v nn0
  have Ex_u_AUTHORIZATION_CODE := Exa.start ev_u_AUTHORIZATION_CODE nn0
  have St_u_AUTHORIZATION_CODE := Sta.start ev_u_AUTHORIZATION_CODE (Or.inr ⟨(hw _ (List.mem_of_getElem? (i := 5) rfl)), (hw _ (List.mem_of_getElem? (i := 6) rfl))⟩)
  obtain ⟨u_NONE, ev_u_NONE⟩ := exa_v nn2
  have Ex_u_NONE := Exa.start ev_u_NONE nn2
  have St_u_NONE := Sta.start ev_u_NONE (Or.inr ⟨(hw _ (List.mem_of_getElem? (i := 11) rfl)), (hw _ (List.mem_of_getElem? (i := 12) rfl))⟩)
  obtain ⟨u_CLIENT_SECRET_POST, ev_u_CLIENT_SECRET_POST⟩ := exa_v nn6
  have Ex_u_CLIENT_SECRET_POST := Exa.start ev_u_CLIENT_SECRET_POST nn6
  have St_u_CLIENT_SECRET_POST := Sta.start ev_u_CLIENT_SECRET_POST (Or.inr ⟨(hw _ (List.mem_of_getElem? (i := 11) rfl)), (hw _ (List.mem_of_getElem? (i := 21) rfl))⟩)
  obtain ⟨u_CLIENT_SECRET_BASIC, ev_u_CLIENT_SECRET_BASIC⟩ := exa_v nn8
  have Ex_u_CLIENT_SECRET_BASIC := Exa.start ev_u_CLIENT_SECRET_BASIC nn8
  have St_u_CLIENT_SECRET_BASIC := Sta.start ev_u_CLIENT_SECRET_BASIC (Or.inr ⟨(hw _ (List.mem_of_getElem? (i := 11) rfl)), (hw _ (List.mem_of_getElem? (i := 23) rfl))⟩)
  obtain ⟨u_CLIENT_CREDENTIALS, ev_u_CLIENT_CREDENTIALS⟩ := exa_v nn10
  have Ex_u_CLIENT_CREDENTIALS := Exa.start ev_u_CLIENT_CREDENTIALS nn10
  have St_u_CLIENT_CREDENTIALS := Sta.start ev_u_CLIENT_CREDENTIALS (Or.inr ⟨(hw _ (List.mem_of_getElem? (i := 5) rfl)), (hw _ (List.mem_of_getElem? (i := 25) rfl))⟩)
  obtain ⟨u_KERBEROS, ev_u_KERBEROS⟩ := exa_v nn16
  have Ex_u_KERBEROS := Exa.start ev_u_KERBEROS nn16
  have St_u_KERBEROS := Sta.start ev_u_KERBEROS (Or.inr ⟨(hw _ (List.mem_of_getElem? (i := 11) rfl)), (hw _ (List.mem_of_getElem? (i := 34) rfl))⟩)
  have Fl_u_AUTHORIZATION_CODE_forPublicClients := own_fld ev_u_AUTHORIZATION_CODE nn4
  have Fl_u_CLIENT_CREDENTIALS_forPublicClients := own_fld ev_u_CLIENT_CREDENTIALS nn12
  have Fl_u_CLIENT_SECRET_POST_confidential := own_fld ev_u_CLIENT_SECRET_POST nn14
  have Fl_u_KERBEROS_confidential := own_fld ev_u_KERBEROS nn18
  have Fl_u_NONE_confidential := own_fld ev_u_NONE nn20
  have Fl_u_CLIENT_SECRET_BASIC_confidential := own_fld ev_u_CLIENT_SECRET_BASIC nn21
  obtain ⟨n, o, h1, h2, h3, _, L, rfl, ⟨rfl, N⟩, hq⟩ := rm0 l s _ hw tables_1 i0 i1 u_AUTHORIZATION_CODE u_CLIENT_CREDENTIALS u_CLIENT_SECRET_BASIC u_CLIENT_SECRET_POST u_KERBEROS u_NONE s.heap s.heap.size (Nat.le_refl _) St_u_AUTHORIZATION_CODE St_u_CLIENT_CREDENTIALS St_u_CLIENT_SECRET_BASIC St_u_CLIENT_SECRET_POST St_u_KERBEROS St_u_NONE Ex_u_AUTHORIZATION_CODE Ex_u_CLIENT_CREDENTIALS Ex_u_CLIENT_SECRET_BASIC Ex_u_CLIENT_SECRET_POST Ex_u_KERBEROS Ex_u_NONE Fl_u_AUTHORIZATION_CODE_forPublicClients Fl_u_CLIENT_CREDENTIALS_forPublicClients Fl_u_CLIENT_SECRET_BASIC_confidential Fl_u_CLIENT_SECRET_POST_confidential Fl_u_KERBEROS_confidential Fl_u_NONE_confidential p e ha hc hk s m _ below hf ((Spec.applies_iff_loose hf).mp happ).1 ⟨rfl, State.Warmed39.refl s, rfl⟩ trivial
  refine ⟨n, _, h1, h2, h3, hpost _ _ _ _ _ _ ⟨Cond.after_iff.mpr rfl, Cond.after_iff.mpr (eq_i res_at (Term.int_eval (1)) rfl), trivial⟩ ⟨hq.1, hq.2.1, (hq.2.2.sift fun y hy => Or.inr (N y hy)).mono (by decide) (by decide)⟩⟩
theorem main_1_1 : Claimed_1_1 := comes_1 fun _ _ _ _ _ _ h hF => ⟨h.1, hF⟩
theorem main_1_2 : Claimed_1_2 := comes_1 fun _ _ _ _ _ _ h hF => ⟨h.2.1, hF⟩
end Jvm.Pilot.@@N@@
namespace Jvm.Pilot.@@N@@
open Jvm Jvm.ClassFile Sem Op Lib Jvm.Free Jvm.Stand Jvm.Pilot.@@N@@.Jvm.D
/-! MADE BY PROGRAM (witnessworld.py) out of the Statement's table words and the real class files: 13 classes; the members and pool entries that the words name. The judged class is class 1, her method 3. -/
namespace start1
open Jvm.ClassFile
def u (s : String) : CpInfo := .utf8 (stringToUtf16 s)
/-- a pool by its gaps: so many unusable entries, then the entry; so many at the end -/
def gap : Nat → List CpInfo → List CpInfo
  | 0, r => r
  | n + 1, r => .unusable :: gap n r
def poolList (es : List (Nat × CpInfo)) (last : Nat) : List CpInfo := es.foldr (fun e r => gap e.1 (e.2 :: r)) (gap last [])
def pool (es : List (Nat × CpInfo)) (last : Nat) : Array CpInfo := ⟨poolList es last⟩
def fileOf (pool : Array CpInfo) (this : Nat) (attrs : Array Attribute := #[]) (ms : Array MethodInfo := #[]) (fl : Nat := 33) (sup : Nat := 0) (ifs : Array Nat := #[]) (fds : Array FieldInfo := #[]) : ClassFile where
  minorVersion := 0
  majorVersion := 65
  constantPool := pool
  accessFlags := fl
  thisClass := this
  superClass := sup
  interfaces := ifs
  fields := fds
  methods := ms
  attributes := attrs
def plain (name : String) (sup : Option ClassId) : Class where
  name := name
  kind := .ordinary
  loader := none
  accessFlags := 33
  super := sup
  interfaces := #[]
  cf := none
  fields := #[]
  methods := #[]
  instanceTypes := #[]
  staticTypes := #[]
  resolved := #[]
  callSites := []
  init := .initialized
  statics := none
  mirror := none

def pool0 : Array CpInfo := pool [(5, u "<init>"), (0, u "()V"), (1, .class_ 10), (1, u "java/lang/Object")] 113

def k0m0 : Method := { name := "<init>", desc := "()V", sig := { parameters := [], returnType := none }, accessFlags := 1, code := none }
/-- java/lang/Object -/
def k0 : Class := { plain "java/lang/Object" none with
  accessFlags := 33
  interfaces := #[]
  cf := some (fileOf pool0 8 #[] #[{ accessFlags := 1, nameIndex := 5, descriptorIndex := 6, attributes := #[] }] 33 0 #[] #[])
  fields := #[]
  methods := #[k0m0]
  instanceTypes := #[]
  staticTypes := #[]
  resolved := Array.replicate 124 none
  statics := none }

def pool1 : Array CpInfo := pool [(2, .class_ 4), (1, u "java/lang/Object"), (0, u "<init>"), (0, u "()V"), (0, .fieldref 8 9), (0, .class_ 10), (0, .nameAndType 11 12), (0, u "com/example/writd/writd/model/GrantType"), (0, u "AUTHORIZATION_CODE"), (0, u "Lcom/example/writd/writd/model/GrantType;"), (0, .fieldref 8 14), (0, .nameAndType 15 12), (0, u "CLIENT_CREDENTIALS"), (0, .fieldref 17 18), (0, .class_ 19), (0, .nameAndType 20 21), (0, u "com/example/writd/writd/model/AuthMethod"), (0, u "CLIENT_SECRET_BASIC"), (0, u "Lcom/example/writd/writd/model/AuthMethod;"), (0, .fieldref 17 23), (0, .nameAndType 24 21), (0, u "CLIENT_SECRET_POST"), (0, .fieldref 17 26), (0, .nameAndType 27 21), (0, u "KERBEROS"), (0, .fieldref 17 29), (0, .nameAndType 30 21), (0, u "NONE"), (0, .methodref 32 33), (0, .class_ 34), (0, .nameAndType 35 36), (0, u "com/example/writd/writd/model/GrantTypeAllowsPinLaw"), (0, u "grant"), (0, u "(I)Lcom/example/writd/writd/model/GrantType;"), (0, .methodref 32 38), (0, .nameAndType 39 40), (0, u "method"), (0, u "(I)Lcom/example/writd/writd/model/AuthMethod;"), (0, .methodref 8 42), (0, .nameAndType 43 44), (0, u "allows"), (0, u "(Lcom/example/writd/writd/model/AuthMethod;)Z"), (3, u "law"), (0, u "(II)Z")] 2

def k1m0 : Method := { name := "<init>", desc := "()V", sig := { parameters := [], returnType := none }, accessFlags := 2, code := none }
def k1c1 : Code := { maxStack := 1, maxLocals := 1, code := method_2_code, exceptionTable := #[], attributes := #[] }
def k1m1 : Method := { name := "grant", desc := "(I)Lcom/example/writd/writd/model/GrantType;", sig := { parameters := [.int], returnType := some (.object "com/example/writd/writd/model/GrantType") }, accessFlags := 10, code := some k1c1 }
def k1c2 : Code := { maxStack := 2, maxLocals := 1, code := method_3_code, exceptionTable := #[], attributes := #[] }
def k1m2 : Method := { name := "method", desc := "(I)Lcom/example/writd/writd/model/AuthMethod;", sig := { parameters := [.int], returnType := some (.object "com/example/writd/writd/model/AuthMethod") }, accessFlags := 10, code := some k1c2 }
def k1c3 : Code := { maxStack := 2, maxLocals := 7, code := code, exceptionTable := #[], attributes := #[] }
def k1m3 : Method := { name := "law", desc := "(II)Z", sig := { parameters := [.int, .int], returnType := some .boolean }, accessFlags := 9, code := some k1c3 }
/-- com/example/writd/writd/model/GrantTypeAllowsPinLaw -/
def k1 : Class := { plain "com/example/writd/writd/model/GrantTypeAllowsPinLaw" (some 0) with
  accessFlags := 49
  interfaces := #[]
  cf := some (fileOf pool1 32 #[] #[{ accessFlags := 2, nameIndex := 5, descriptorIndex := 6, attributes := #[] }, { accessFlags := 10, nameIndex := 35, descriptorIndex := 36, attributes := #[] }, { accessFlags := 10, nameIndex := 39, descriptorIndex := 40, attributes := #[] }, { accessFlags := 9, nameIndex := 48, descriptorIndex := 49, attributes := #[] }] 49 2 #[] #[])
  fields := #[]
  methods := #[k1m0, k1m1, k1m2, k1m3]
  instanceTypes := #[]
  staticTypes := #[]
  resolved := Array.replicate 52 none
  statics := none }

def pool2 : Array CpInfo := pool [(1, .class_ 2), (0, u "java/lang/constant/Constable"), (0, .class_ 4), (0, u "java/lang/Object")] 6

/-- java/lang/constant/Constable -/
def k2 : Class := { plain "java/lang/constant/Constable" (some 0) with
  accessFlags := 1537
  interfaces := #[]
  cf := some (fileOf pool2 1 #[] #[] 1537 3 #[] #[])
  fields := #[]
  methods := #[]
  instanceTypes := #[]
  staticTypes := #[]
  resolved := Array.replicate 11 none
  statics := none }

def pool3 : Array CpInfo := pool [(1, .class_ 2), (0, u "java/lang/Comparable"), (0, .class_ 4), (0, u "java/lang/Object")] 7

/-- java/lang/Comparable -/
def k3 : Class := { plain "java/lang/Comparable" (some 0) with
  accessFlags := 1537
  interfaces := #[]
  cf := some (fileOf pool3 1 #[] #[] 1537 3 #[] #[])
  fields := #[]
  methods := #[]
  instanceTypes := #[]
  staticTypes := #[]
  resolved := Array.replicate 12 none
  statics := none }

def pool4 : Array CpInfo := pool [(1, .class_ 2), (0, u "java/io/Serializable"), (0, .class_ 4), (0, u "java/lang/Object")] 2

/-- java/io/Serializable -/
def k4 : Class := { plain "java/io/Serializable" (some 0) with
  accessFlags := 1537
  interfaces := #[]
  cf := some (fileOf pool4 1 #[] #[] 1537 3 #[] #[])
  fields := #[]
  methods := #[]
  instanceTypes := #[]
  staticTypes := #[]
  resolved := Array.replicate 7 none
  statics := none }

def pool5 : Array CpInfo := pool [(2, .class_ 4), (1, u "java/lang/Enum"), (0, u "name"), (0, u "Ljava/lang/String;"), (2, u "ordinal"), (0, u "I"), (1, .class_ 14), (1, u "java/lang/Object"), (4, u "hash"), (86, .class_ 108), (1, u "java/lang/Enum$EnumDesc"), (2, .class_ 112), (0, u "java/lang/constant/Constable"), (0, .class_ 114), (0, u "java/lang/Comparable"), (0, .class_ 116), (0, u "java/io/Serializable")] 87

/-- java/lang/Enum -/
def k5 : Class := { plain "java/lang/Enum" (some 0) with
  accessFlags := 1057
  interfaces := #[2, 3, 4]
  cf := some (fileOf pool5 2 #[.nestMembers #[106]] #[] 1057 12 #[111, 113, 115] #[{ accessFlags := 18, nameIndex := 5, descriptorIndex := 6, attributes := #[] }, { accessFlags := 18, nameIndex := 9, descriptorIndex := 10, attributes := #[] }, { accessFlags := 2, nameIndex := 19, descriptorIndex := 10, attributes := #[] }])
  fields := #[{ name := "name", type := (.object "java/lang/String"), accessFlags := 18, slot := 0, constantValue := 0 }, { name := "ordinal", type := .int, accessFlags := 18, slot := 1, constantValue := 0 }, { name := "hash", type := .int, accessFlags := 2, slot := 2, constantValue := 0 }]
  methods := #[]
  instanceTypes := #[(.object "java/lang/String"), .int, .int]
  staticTypes := #[]
  resolved := Array.replicate 204 none
  statics := none }

def pool6 : Array CpInfo := pool [(1, .class_ 2), (0, u "com/example/writd/writd/model/GrantType"), (2, u "AUTHORIZATION_CODE"), (0, u "Lcom/example/writd/writd/model/GrantType;"), (2, u "CLIENT_CREDENTIALS"), (2, u "$VALUES"), (0, u "[Lcom/example/writd/writd/model/GrantType;"), (6, .class_ 22), (1, u "java/lang/Enum"), (8, u "value"), (0, u "Ljava/lang/String;"), (2, u "responseType"), (0, .fieldref 1 37), (0, .nameAndType 38 39), (0, u "forPublicClients"), (0, u "Z"), (27, u "()Z"), (47, .methodref 116 117), (0, .class_ 118), (0, .nameAndType 119 67), (0, u "com/example/writd/writd/model/AuthMethod"), (0, u "confidential"), (2, u "allows"), (0, u "(Lcom/example/writd/writd/model/AuthMethod;)Z")] 61

def k6c0 : Code := { maxStack := 1, maxLocals := 2, code := prog_16_method_10_code, exceptionTable := #[], attributes := #[] }
def k6m0 : Method := { name := "allows", desc := "(Lcom/example/writd/writd/model/AuthMethod;)Z", sig := { parameters := [(.object "com/example/writd/writd/model/AuthMethod")], returnType := some .boolean }, accessFlags := 1, code := some k6c0 }
/-- com/example/writd/writd/model/GrantType -/
def k6 : Class := { plain "com/example/writd/writd/model/GrantType" (some 5) with
  accessFlags := 16433
  interfaces := #[]
  cf := some (fileOf pool6 1 #[] #[{ accessFlags := 1, nameIndex := 122, descriptorIndex := 123, attributes := #[] }] 16433 20 #[] #[{ accessFlags := 16409, nameIndex := 5, descriptorIndex := 6, attributes := #[] }, { accessFlags := 16409, nameIndex := 9, descriptorIndex := 6, attributes := #[] }, { accessFlags := 18, nameIndex := 31, descriptorIndex := 32, attributes := #[] }, { accessFlags := 18, nameIndex := 35, descriptorIndex := 32, attributes := #[] }, { accessFlags := 18, nameIndex := 38, descriptorIndex := 39, attributes := #[] }, { accessFlags := 4122, nameIndex := 12, descriptorIndex := 13, attributes := #[] }])
  fields := #[{ name := "AUTHORIZATION_CODE", type := (.object "com/example/writd/writd/model/GrantType"), accessFlags := 16409, slot := 0, constantValue := 0 }, { name := "CLIENT_CREDENTIALS", type := (.object "com/example/writd/writd/model/GrantType"), accessFlags := 16409, slot := 1, constantValue := 0 }, { name := "value", type := (.object "java/lang/String"), accessFlags := 18, slot := 3, constantValue := 0 }, { name := "responseType", type := (.object "java/lang/String"), accessFlags := 18, slot := 4, constantValue := 0 }, { name := "forPublicClients", type := .boolean, accessFlags := 18, slot := 5, constantValue := 0 }, { name := "$VALUES", type := (.array (.object "com/example/writd/writd/model/GrantType")), accessFlags := 4122, slot := 2, constantValue := 0 }]
  methods := #[k6m0]
  instanceTypes := #[(.object "java/lang/String"), .int, .int, (.object "java/lang/String"), (.object "java/lang/String"), .boolean]
  staticTypes := #[(.object "com/example/writd/writd/model/GrantType"), (.object "com/example/writd/writd/model/GrantType"), (.array (.object "com/example/writd/writd/model/GrantType"))]
  resolved := Array.replicate 185 none
  statics := some 0 }

def pool7 : Array CpInfo := pool [(1, .class_ 2), (0, u "com/example/writd/writd/model/AuthMethod"), (2, u "CLIENT_SECRET_BASIC"), (0, u "Lcom/example/writd/writd/model/AuthMethod;"), (2, u "CLIENT_SECRET_POST"), (2, u "KERBEROS"), (2, u "NONE"), (2, u "$VALUES"), (0, u "[Lcom/example/writd/writd/model/AuthMethod;"), (6, .class_ 28), (1, u "java/lang/Enum"), (8, u "value"), (0, u "Ljava/lang/String;"), (2, u "usesSecret"), (0, u "Z"), (0, .fieldref 1 44), (0, .nameAndType 45 42), (0, u "confidential"), (69, u "()Z")] 19

def k7c0 : Code := { maxStack := 1, maxLocals := 1, code := prog_7_method_8_code, exceptionTable := #[], attributes := #[] }
def k7m0 : Method := { name := "confidential", desc := "()Z", sig := { parameters := [], returnType := some .boolean }, accessFlags := 1, code := some k7c0 }
/-- com/example/writd/writd/model/AuthMethod -/
def k7 : Class := { plain "com/example/writd/writd/model/AuthMethod" (some 5) with
  accessFlags := 16433
  interfaces := #[]
  cf := some (fileOf pool7 1 #[] #[{ accessFlags := 1, nameIndex := 45, descriptorIndex := 115, attributes := #[] }] 16433 26 #[] #[{ accessFlags := 16409, nameIndex := 5, descriptorIndex := 6, attributes := #[] }, { accessFlags := 16409, nameIndex := 9, descriptorIndex := 6, attributes := #[] }, { accessFlags := 16409, nameIndex := 12, descriptorIndex := 6, attributes := #[] }, { accessFlags := 16409, nameIndex := 15, descriptorIndex := 6, attributes := #[] }, { accessFlags := 18, nameIndex := 37, descriptorIndex := 38, attributes := #[] }, { accessFlags := 18, nameIndex := 41, descriptorIndex := 42, attributes := #[] }, { accessFlags := 18, nameIndex := 45, descriptorIndex := 42, attributes := #[] }, { accessFlags := 4122, nameIndex := 18, descriptorIndex := 19, attributes := #[] }])
  fields := #[{ name := "CLIENT_SECRET_BASIC", type := (.object "com/example/writd/writd/model/AuthMethod"), accessFlags := 16409, slot := 0, constantValue := 0 }, { name := "CLIENT_SECRET_POST", type := (.object "com/example/writd/writd/model/AuthMethod"), accessFlags := 16409, slot := 1, constantValue := 0 }, { name := "KERBEROS", type := (.object "com/example/writd/writd/model/AuthMethod"), accessFlags := 16409, slot := 2, constantValue := 0 }, { name := "NONE", type := (.object "com/example/writd/writd/model/AuthMethod"), accessFlags := 16409, slot := 3, constantValue := 0 }, { name := "value", type := (.object "java/lang/String"), accessFlags := 18, slot := 3, constantValue := 0 }, { name := "usesSecret", type := .boolean, accessFlags := 18, slot := 4, constantValue := 0 }, { name := "confidential", type := .boolean, accessFlags := 18, slot := 5, constantValue := 0 }, { name := "$VALUES", type := (.array (.object "com/example/writd/writd/model/AuthMethod")), accessFlags := 4122, slot := 4, constantValue := 0 }]
  methods := #[k7m0]
  instanceTypes := #[(.object "java/lang/String"), .int, .int, (.object "java/lang/String"), .boolean, .boolean]
  staticTypes := #[(.object "com/example/writd/writd/model/AuthMethod"), (.object "com/example/writd/writd/model/AuthMethod"), (.object "com/example/writd/writd/model/AuthMethod"), (.object "com/example/writd/writd/model/AuthMethod"), (.array (.object "com/example/writd/writd/model/AuthMethod"))]
  resolved := Array.replicate 135 none
  statics := some 1 }

def pool8 : Array CpInfo := pool [(1, u "java/lang/Cloneable"), (0, .class_ 1), (0, u "java/lang/Object"), (0, .class_ 3)] 3

/-- java/lang/Cloneable -/
def k8 : Class := { plain "java/lang/Cloneable" (some 0) with
  accessFlags := 1537
  interfaces := #[]
  cf := some (fileOf pool8 2 #[] #[] 1537 4 #[] #[])
  fields := #[]
  methods := #[]
  instanceTypes := #[]
  staticTypes := #[]
  resolved := Array.replicate 8 none
  statics := none }

/-- the primitive byte -/
def k9 : Class := { plain "byte" none with kind := .primitive 'B', accessFlags := 0x411 }
/-- [B -/
def k10 : Class := { plain "[B" (some 0) with kind := .array 9 .byte, interfaces := #[8, 4], accessFlags := 1041 }

/-- the primitive int -/
def k11 : Class := { plain "int" none with kind := .primitive 'I', accessFlags := 0x411 }
/-- [I -/
def k12 : Class := { plain "[I" (some 0) with kind := .array 11 .int, interfaces := #[8, 4], accessFlags := 1041 }

def heap : Heap := #[{ cls := 6, slots := #[.ref 2, .ref 3, .null], vm := .statics 6 },
  { cls := 7, slots := #[.ref 4, .ref 5, .ref 6, .ref 7, .null], vm := .statics 7 },
  { cls := 6, slots := #[.null, .int 0, .int 0, .null, .null, .int 1], vm := .none },
  { cls := 6, slots := #[.null, .int 1, .int 0, .null, .null, .int 0], vm := .none },
  { cls := 7, slots := #[.null, .int 0, .int 0, .null, .int 0, .int 1], vm := .none },
  { cls := 7, slots := #[.null, .int 1, .int 0, .null, .int 0, .int 1], vm := .none },
  { cls := 7, slots := #[.null, .int 2, .int 0, .null, .int 0, .int 1], vm := .none },
  { cls := 7, slots := #[.null, .int 3, .int 0, .null, .int 0, .int 0], vm := .none }]
def classes : Array Class := #[k0, k1, k2, k3, k4, k5, k6, k7, k8, k9, k10, k11, k12]
def interned : List (Array UInt16 × Addr) := []
def slotsUsed : Nat := 44
def theMethod : MethodId := ⟨1, 3⟩
def args0 : Array Value := #[.int 5, .int 6]
def aboutOver (below : List Frame) : State where
  vm := { classes := classes, interned := interned.toArray }
  heap := heap
  slotsUsed := slotsUsed
  threads := #[{ frames := .invoking theMethod args0 :: below }]
def below0 : List Frame := [.native { method := ⟨0, 0⟩, args := #[] }]
def about1 : State := aboutOver below0
def p0 : Program := .bare "" "" ""
def e0 : Env := launch0.env 0 0 0
theorem w_frames : about1.frames = Frame.invoking theMethod args0 :: below0 := rfl
set_option maxRecDepth 65536 in
theorem w_args : argsFit about1.vm theMethod args0 = true := by decide +kernel
set_option maxRecDepth 65536 in
theorem w_heap : heapFits about1 = true := by decide +kernel
set_option maxRecDepth 65536 in
theorem w_runnable : about1.curStatus? = some .runnable := by decide +kernel
set_option maxRecDepth 65536 in
theorem w_alone : about1.alone = true := by decide +kernel
set_option maxRecDepth 65536 in
theorem w_named : about1.methodNamed? x = some theMethod := by decide +kernel
set_option maxRecDepth 65536 in
theorem w_hears : about1.hears theMethod below0 = true := by decide +kernel
set_option maxRecDepth 65536 in
theorem w_ripe : about1.ripe theMethod args0 below0 = true := by decide +kernel
theorem w_running : about1.status = .running := rfl
set_option maxRecDepth 65536 in
theorem w_room : about1.hasRoom e0.platform room_1 = true :=
  launch0.hasRoom_least _ room_1 (by decide +kernel) (by decide +kernel) (by decide +kernel) (by decide +kernel) (by decide +kernel) (by decide +kernel)
theorem allAtoms_all (ts : List Jvm.Cond) (a : Array Jvm.Value) (st : Jvm.State) : (allAtoms ts).before a st = ts.all (fun c => c.before a st) := by
  induction ts with
  | nil => rfl
  | cons c t ih =>
    show (Jvm.Cond.and c (allAtoms t)).before a st = _
    rw [Jvm.Cond.before_and, ih, List.all_cons]
def words1 : List Jvm.Cond := Jvm.Cond.code x code maxLocals ret :: tables_1
/-- a 'code' word, met by the world's own term for the bytes: nothing is compared byte by byte -/
theorem code_word {y : MethodName} {bytes : ByteArray} {mx : Nat} {rt : Option FieldType} {a : Array Value} {s : State} {m : MethodId} {meth : Method} {c : Code} (h1 : s.methodNamed? y = some m) (h2 : s.vm.method? m = some meth) (h3 : meth.code = some c) (h4 : c.code = bytes)
    (h5 : (c.maxLocals == mx && c.exceptionTable.isEmpty && decide (c.maxStack ≤ mostOperands) && decide (meth.sig.returnType = rt) && !meth.locks && decide (parseMethodDescriptor y.desc = some meth.sig)) = true) : (Jvm.Cond.code y bytes mx rt).before a s = true := by
  simp only [Bool.and_eq_true, beq_iff_eq, Bool.not_eq_true', decide_eq_true_eq] at h5
  obtain ⟨⟨⟨⟨⟨g1, g2⟩, g3⟩, g4⟩, g5⟩, g6⟩ := h5
  simp [Cond.before, Cond.holds, Cond.value, h1, h2, h3, h4, g1, g2, g3, g4, g5, g6]
def isCode : Jvm.Cond → Bool
  | .code _ _ _ _ => true
  | _ => false
theorem all_split {L : List Jvm.Cond} {P : Jvm.Cond → Bool} (h1 : L.all (fun c => isCode c || P c) = true) (h2 : ∀ c ∈ L.filter isCode, P c = true) : L.all P = true := by
  refine List.all_eq_true.mpr fun c hc => ?_
  have h := List.all_eq_true.mp h1 c hc
  rcases Bool.eq_false_or_eq_true (isCode c) with hi | hi
  · exact h2 c (List.mem_filter.mpr ⟨hc, hi⟩)
  · simpa [hi] using h
set_option maxRecDepth 65536 in
theorem w_c0 : (Jvm.Cond.code x code maxLocals ret).before args0 about1 = true := code_word (m := ⟨1, 3⟩) (meth := k1m3) (c := k1c3) (by decide +kernel) rfl rfl rfl (by decide +kernel)
set_option maxRecDepth 65536 in
theorem w_c1 : (Jvm.Cond.code ({ cls := "com/example/writd/writd/model/GrantTypeAllowsPinLaw", name := "grant", desc := "(I)Lcom/example/writd/writd/model/GrantType;" } : Jvm.MethodName) method_2_code (1 : Nat) (Option.some (Jvm.ClassFile.FieldType.object "com/example/writd/writd/model/GrantType"))).before args0 about1 = true := code_word (m := ⟨1, 1⟩) (meth := k1m1) (c := k1c1) (by decide +kernel) rfl rfl rfl (by decide +kernel)
set_option maxRecDepth 65536 in
theorem w_c2 : (Jvm.Cond.code ({ cls := "com/example/writd/writd/model/GrantTypeAllowsPinLaw", name := "method", desc := "(I)Lcom/example/writd/writd/model/AuthMethod;" } : Jvm.MethodName) method_3_code (1 : Nat) (Option.some (Jvm.ClassFile.FieldType.object "com/example/writd/writd/model/AuthMethod"))).before args0 about1 = true := code_word (m := ⟨1, 2⟩) (meth := k1m2) (c := k1c2) (by decide +kernel) rfl rfl rfl (by decide +kernel)
set_option maxRecDepth 65536 in
theorem w_c3 : (Jvm.Cond.code ({ cls := "com/example/writd/writd/model/GrantType", name := "allows", desc := "(Lcom/example/writd/writd/model/AuthMethod;)Z" } : Jvm.MethodName) prog_16_method_10_code (2 : Nat) (Option.some Jvm.ClassFile.FieldType.boolean)).before args0 about1 = true := code_word (m := ⟨6, 0⟩) (meth := k6m0) (c := k6c0) (by decide +kernel) rfl rfl rfl (by decide +kernel)
set_option maxRecDepth 65536 in
theorem w_c4 : (Jvm.Cond.code ({ cls := "com/example/writd/writd/model/AuthMethod", name := "confidential", desc := "()Z" } : Jvm.MethodName) prog_7_method_8_code (1 : Nat) (Option.some Jvm.ClassFile.FieldType.boolean)).before args0 about1 = true := code_word (m := ⟨7, 0⟩) (meth := k7m0) (c := k7c0) (by decide +kernel) rfl rfl rfl (by decide +kernel)
def codes1 : List Jvm.Cond := [Jvm.Cond.code x code maxLocals ret, Jvm.Cond.code ({ cls := "com/example/writd/writd/model/GrantTypeAllowsPinLaw", name := "grant", desc := "(I)Lcom/example/writd/writd/model/GrantType;" } : Jvm.MethodName) method_2_code (1 : Nat) (Option.some (Jvm.ClassFile.FieldType.object "com/example/writd/writd/model/GrantType")), Jvm.Cond.code ({ cls := "com/example/writd/writd/model/GrantTypeAllowsPinLaw", name := "method", desc := "(I)Lcom/example/writd/writd/model/AuthMethod;" } : Jvm.MethodName) method_3_code (1 : Nat) (Option.some (Jvm.ClassFile.FieldType.object "com/example/writd/writd/model/AuthMethod")), Jvm.Cond.code ({ cls := "com/example/writd/writd/model/GrantType", name := "allows", desc := "(Lcom/example/writd/writd/model/AuthMethod;)Z" } : Jvm.MethodName) prog_16_method_10_code (2 : Nat) (Option.some Jvm.ClassFile.FieldType.boolean), Jvm.Cond.code ({ cls := "com/example/writd/writd/model/AuthMethod", name := "confidential", desc := "()Z" } : Jvm.MethodName) prog_7_method_8_code (1 : Nat) (Option.some Jvm.ClassFile.FieldType.boolean)]
set_option maxRecDepth 65536 in
theorem codes_eq : words1.filter isCode = codes1 := rfl
theorem w_codes : ∀ c ∈ words1.filter isCode, c.before args0 about1 = true := by
  rw [codes_eq]
  intro c hc
  simp only [codes1, List.mem_cons, List.not_mem_nil, or_false] at hc
  rcases hc with rfl | rfl | rfl | rfl | rfl
  · exact w_c0
  · exact w_c1
  · exact w_c2
  · exact w_c3
  · exact w_c4
set_option maxRecDepth 65536 in
theorem w_t1 : (words1.take 24).all (fun c => isCode c || c.before args0 about1) = true := by decide +kernel
set_option maxRecDepth 65536 in
theorem w_t2 : (words1.drop 24).all (fun c => isCode c || c.before args0 about1) = true := by decide +kernel
theorem w_tables : (allAtoms (Jvm.Cond.code x code maxLocals ret :: tables_1)).before args0 about1 = true := by
  rw [allAtoms_all]
  show words1.all (fun c => c.before args0 about1) = true
  refine all_split ?_ w_codes
  rw [← List.take_append_drop 24 words1, List.all_append, w_t1, w_t2]
  rfl
set_option maxRecDepth 65536 in
theorem w_case : (Jvm.Cond.and given_1 narrow_1).before args0 about1 = true := by decide +kernel
theorem w_applies : (headSpec (Jvm.Cond.code x code maxLocals ret :: tables_1) room_1).applies x e0.platform about1 = true :=
  (Spec.applies_iff w_frames).mpr ⟨w_running, w_runnable, w_alone, w_named, w_hears, w_ripe, w_room, w_tables⟩
theorem atStart : AtStart classFile x code maxLocals ret World_1 tables_1 room_1 Calls_1 rest_1 Pre_1 launch0 p0 e0 about1 theMethod args0 below0 :=
  ⟨lists_1, trivial, launch0.admits_env _ _ _, launch0.least_env, fairChoices_fair.cas, fairChoices_fair.clock, w_frames, w_args, w_heap, w_applies, trivial, trivial, w_case⟩
end start1
theorem witness_1 : WitnessClaimed_1 := ⟨start1.p0, start1.e0, start1.about1, start1.theMethod, start1.args0, start1.below0, start1.atStart⟩
end Jvm.Pilot.@@N@@
