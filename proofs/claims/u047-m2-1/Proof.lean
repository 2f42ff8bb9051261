import JvmDerived
import JvmDerived.Pilot.@@N@@Statement
import JvmDerived.Pilot.@@N@@Code
set_option linter.unusedVariables false
set_option linter.unusedSimpArgs false
namespace Jvm.RoadKit
open Sem ClassFile Op Lib Jvm.Stand Jvm.Free Jvm.LawKit
section New
variable {p : Program} {l : Launch} {e : Env} {R : Room} {s : State} {m : MethodId} {args : Array Value} {below : List Frame} {meth : Method} {c : Code} {T : State} {locs : List Loc} {cells slots : Nat}
theorem retI (X : Stand p l e R s m args below meth c T locs cells slots) (hx : p.tables.exec = Jvm.exec) {pc : Nat} {Ls : Array Slot} {z : Int32} {rest : List Value} (hret : meth.sig.returnType = some .int) (hd : decode c.code pc = .ok (.ireturn, 1)) {fs : List Frame}
    (hl : ∀ (f : JFrame) (acts : List Action), f.method = m → f.locked = none → f.entered = [] → (doReturn e (T.setTop f) acts (some (.int z))).1 = T.setFrames fs) : Steps p.tables e below (T.setTop (mkF m pc Ls (.int z :: rest))) (T.setFrames fs) := by
  have hm' : T.vm.method? m = some meth := X.method'
  have hn : narrow .int (.int z) = .int z := rfl
  show Steps p.tables e below (T.setTop { method := m, pc := pc, locals := Ls, stack := _ :: rest, locked := none }) _
  jvm_step X.here [X.here.top, hx, hd, hm', hret, hn]
  first | (intro acts; rw [hl _ acts rfl rfl rfl]) | rw [hl _ _ rfl rfl rfl]
  exact Steps.refl _
end New
end Jvm.RoadKit
/- laws to paste: Road.backV, Road.eqW, Road.codOf (cut by pick.py; bodies as the Statement names them) -/
namespace Jvm.Pilot.@@N@@
namespace StrChars
open Jvm Sem ClassFile Op Lib Jvm.Stand Jvm.Free.XT Jvm.Free.ALB Jvm.Free.JM Jvm.Free
open Jvm.Lib.Cold (StaticIs)
/-- a char array whose places are chars -/
def Ch (a : Addr) (A : Cell) (U : State) : Prop := Arr .char a A U ∧ Typed .char A
theorem Ch.mv {a : Addr} {A : Cell} {U U' : State} (h : Ch a A U) (hal : U.vm.Alike U'.vm) (hh : U'.heap = U.heap) : Ch a A U' := ⟨h.1.mv hal hh, h.2⟩
theorem Ch.keep {a : Addr} {A : Cell} {U U' : State} (h : Ch a A U) (hal : U.vm.Alike U'.vm) (hk : U'.heap[a]? = some A) : Ch a A U' := ⟨h.1.keep hal hk, h.2⟩
/-- what place i of a char[]'s cell holds -/
def cv (A : Cell) (i : Nat) : Int32 := match A.slots[i]? with | some (.int x) => x | _ => 0
theorem Ch.get {a : Addr} {A : Cell} {U : State} (h : Ch a A U) {i : Nat} (hi : i < A.slots.size) : A.slots[i]? = some (.int (cv A i)) := by
  have e := Array.getElem?_eq_getElem hi
  have f := h.2 i _ e
  unfold cv; rw [e]
  generalize A.slots[i] = v at f
  cases v <;> simp [fits] at f ⊢
/-- the byte that i2b leaves of a char -/
def lo8 (x : Int32) : Int32 := x.toInt8.toInt32
theorem fits_lo8 (y : Int32) : fits .byte (.int (lo8 y)) = true := by
  have h1 := y.toInt8.le_toInt
  have h2 := y.toInt8.toInt_lt
  simp only [lo8, fits, Bool.and_eq_true, decide_eq_true_eq, Int32.le_iff_toInt_le, Int8.toInt_toInt32, show (-128 : Int32).toInt = -128 from by decide, show (127 : Int32).toInt = 127 from by decide]
  omega
/-- A' is A but that each place j of lo .. hi - 1 holds f j -/
def Laid (A A' : Cell) (lo hi : Nat) (f : Nat → Value) : Prop := A'.cls = A.cls ∧ A'.vm = A.vm ∧ A'.slots.size = A.slots.size ∧ ∀ i, A'.slots[i]? = if lo ≤ i ∧ i < hi then some (f i) else A.slots[i]?
theorem Laid.zero (A : Cell) (lo : Nat) (f : Nat → Value) : Laid A A lo (lo + 0) f := ⟨rfl, rfl, rfl, fun i => by rw [if_neg (by omega)]⟩
theorem Laid.step {A Ak : Cell} {lo k : Nat} {f : Nat → Value} {v : Value} (h : Laid A Ak lo k f) (hlo : lo ≤ k) (hk : k < Ak.slots.size) (hv : v = f k) : Laid A (Ak.setSlot k v) lo (k + 1) f := by
  refine ⟨h.1, h.2.1, by simpa [Cell.setSlot] using h.2.2.1, fun i => ?_⟩
  by_cases e : k = i
  · subst e; rw [Cell.slots_setSlot_self v hk, if_pos (by omega), hv]
  · rw [Cell.slots_setSlot_ne v e, h.2.2.2 i]
    by_cases q : lo ≤ i ∧ i < k
    · rw [if_pos q, if_pos (by omega)]
    · rw [if_neg q, if_neg (by omega)]
def U16 : String := "java/lang/StringUTF16"
namespace Cmp5
def yN : MethodName := ⟨"java/lang/StringUTF16", "compress", "([CI[BII)I"⟩
abbrev yB : ByteArray := jdk_52_method_21_code
theorem d0 : decode yB 0 = .ok (.iconst 0, 1) := by decide +kernel
theorem d1 : decode yB 1 = .ok (.istore 5, 2) := by decide +kernel
theorem d3 : decode yB 3 = .ok (.iload 5, 2) := by decide +kernel
theorem d5 : decode yB 5 = .ok (.iload 4, 2) := by decide +kernel
theorem d7 : decode yB 7 = .ok (.if_icmp (.ge) 37, 3) := by decide +kernel
theorem d10 : decode yB 10 = .ok (.aload_n 0, 1) := by decide +kernel
theorem d11 : decode yB 11 = .ok (.iload_n 1, 1) := by decide +kernel
theorem d12 : decode yB 12 = .ok (.caload, 1) := by decide +kernel
theorem d13 : decode yB 13 = .ok (.istore 6, 2) := by decide +kernel
theorem d15 : decode yB 15 = .ok (.iload 6, 2) := by decide +kernel
theorem d17 : decode yB 17 = .ok (.sipush 255, 3) := by decide +kernel
theorem d20 : decode yB 20 = .ok (.if_icmp (.le) 6, 3) := by decide +kernel
theorem d26 : decode yB 26 = .ok (.aload_n 2, 1) := by decide +kernel
theorem d27 : decode yB 27 = .ok (.iload_n 3, 1) := by decide +kernel
theorem d28 : decode yB 28 = .ok (.iload 6, 2) := by decide +kernel
theorem d30 : decode yB 30 = .ok (.i2b, 1) := by decide +kernel
theorem d31 : decode yB 31 = .ok (.bastore, 1) := by decide +kernel
theorem d32 : decode yB 32 = .ok (.iinc 1 1, 3) := by decide +kernel
theorem d35 : decode yB 35 = .ok (.iinc 3 1, 3) := by decide +kernel
theorem d38 : decode yB 38 = .ok (.iinc 5 1, 3) := by decide +kernel
theorem d41 : decode yB 41 = .ok (.goto (-38), 3) := by decide +kernel
theorem d44 : decode yB 44 = .ok (.iload 4, 2) := by decide +kernel
theorem d46 : decode yB 46 = .ok (.ireturn, 1) := by decide +kernel
def site : List Cond := []
def tab : Cond := tabOf yN yB 7 (some .int) site
def P (b : Addr) (A : Cell) (d : Addr) (B : Cell) (o q len : Nat) (args : Array Value) (s : State) : Prop := args = #[.ref b, .int (Int32.ofNat o), .ref d, .int (Int32.ofNat q), .int (Int32.ofNat len)] ∧ Ch b A s ∧ Arr .byte d B s ∧ b ≠ d ∧ o + len ≤ A.slots.size ∧ q + len ≤ B.slots.size ∧ ∀ i, i < len → ¬ 255 < cv A (o + i)
def E (b : Addr) (A : Cell) (d : Addr) (B : Cell) (o q len : Nat) (r : Option Value) (s u : State) : Prop := r = some (.int (Int32.ofNat len)) ∧ ∃ B', Put d B' s u ∧ Laid B B' q (q + len) (fun j => Value.int (lo8 (cv A (o + (j - q)))))
/-- no char of the range above 255: len; the places written hold each char's low byte -/
theorem law (l : Launch) (b : Addr) (A : Cell) (d : Addr) (B : Cell) (o q len : Nat) : Law l yN 5 5 0 0 yB 7 (some .int) site (P b A d B o q len) (E b A d B o q len) (copyLocs d q len) 0 0 := by
  refine Law.of_walk (plainFor_of_name (by decide +kernel)) (by decide +kernel) (by decide +kernel) (by decide) (fun _ _ h => by rw [h.1]; rfl) (fun _ U U' hal hh h => ⟨h.1, h.2.1.mv hal hh, h.2.2.1.mv hal hh, h.2.2.2⟩) (fun r U U' V V' h1 hal h2 h => ⟨h.1, h.2.elim fun B' q => ⟨B', q.1.mv h1 h2, q.2⟩⟩) ?_
  intro p e s m args below meth c s₁ X0 hexec hbytes hml hret hlk hnm hown hh0 W hP
  obtain ⟨rfl, hA, hB, hne, l1, l2, hp⟩ := hP
  have c1 : Steps p.tables e below (s₁.setTop (entryFrame m #[.ref b, .int (Int32.ofNat o), .ref d, .int (Int32.ofNat q), .int (Int32.ofNat len)] 7)) (s₁.setTop (mkF m 0 #[.val (.ref b), .val (.int (Int32.ofNat o)), .val (.ref d), .val (.int (Int32.ofNat q)), .val (.int (Int32.ofNat len)), .unset, .unset] [])) := entry rfl
  have hA0 := hA.1.mv X0.warmed.alike hh0
  have hB0 := hB.mv X0.warmed.alike hh0
  have a31 := hA.1.2.2.2
  have c2 : Steps p.tables e below (s₁.setTop (entryFrame m #[.ref b, .int (Int32.ofNat o), .ref d, .int (Int32.ofNat q), .int (Int32.ofNat len)] 7)) (s₁.setTop (mkF m 3 #[.val (.ref b), .val (.int (Int32.ofNat o)), .val (.ref d), .val (.int (Int32.ofNat q)), .val (.int (Int32.ofNat len)), .val (.int 0), .unset] [])) := c1.trans (by
    refine iconstV X0.here hexec rfl 0 (hb hbytes d0) (by decide) ?_
    refine XS.istore X0.here hexec rfl (hb hbytes d1) rfl rfl ?_
    exact Steps.refl _)
  have loop : ∀ (r i : Nat), i + r = len → ∀ (z : Slot), (z = .unset ∨ ∃ w, z = .val w ∧ w.category = 1) → ∀ (Tl : State) (Bk : Cell), Stand p l e { frames := 0, locals := 0, cells := 0, slots := 0 } s m #[.ref b, .int (Int32.ofNat o), .ref d, .int (Int32.ofNat q), .int (Int32.ofNat len)] below meth c Tl ([] ++ copyLocs d q i) 0 0 → Put d Bk s₁ Tl → Laid B Bk q (q + i) (fun j => Value.int (lo8 (cv A (o + (j - q))))) →
      Steps p.tables e below (s₁.setTop (entryFrame m #[.ref b, .int (Int32.ofNat o), .ref d, .int (Int32.ofNat q), .int (Int32.ofNat len)] 7)) (Tl.setTop (mkF m 3 #[.val (.ref b), .val (.int (Int32.ofNat (o + i))), .val (.ref d), .val (.int (Int32.ofNat (q + i))), .val (.int (Int32.ofNat len)), .val (.int (Int32.ofNat i)), z] [])) → ∃ (T' : State) (B' : Cell) (z' : Slot), Stand p l e { frames := 0, locals := 0, cells := 0, slots := 0 } s m #[.ref b, .int (Int32.ofNat o), .ref d, .int (Int32.ofNat q), .int (Int32.ofNat len)] below meth c T' ([] ++ copyLocs d q len) 0 0 ∧ Put d B' s₁ T' ∧ Laid B B' q (q + len) (fun j => Value.int (lo8 (cv A (o + (j - q))))) ∧
      Steps p.tables e below (s₁.setTop (entryFrame m #[.ref b, .int (Int32.ofNat o), .ref d, .int (Int32.ofNat q), .int (Int32.ofNat len)] 7)) (T'.setTop (mkF m 3 #[.val (.ref b), .val (.int (Int32.ofNat (o + len))), .val (.ref d), .val (.int (Int32.ofNat (q + len))), .val (.int (Int32.ofNat len)), .val (.int (Int32.ofNat len)), z'] [])) := by
    intro r
    induction r with
    | zero =>
      intro i hi z hz Tl Bk Xl pl fl cl
      have hil : i = len := by omega
      rw [hil] at Xl fl cl
      exact ⟨Tl, Bk, z, Xl, pl, fl, cl⟩
    | succ r ih =>
      intro i hi z hz Tl Bk Xl pl fl cl
      have all := X0.warmed.alike.symm.trans Xl.warmed.alike
      have hAl := hA0.keep all (pl.other hne hA0.1)
      have hBk := hB0.like all pl.1 fl.1 fl.2.1 fl.2.2.1
      have hlt : q + i < Bk.slots.size := by rw [fl.2.2.1]; omega
      have c3 : Steps p.tables e below (s₁.setTop (entryFrame m #[.ref b, .int (Int32.ofNat o), .ref d, .int (Int32.ofNat q), .int (Int32.ofNat len)] 7)) (Tl.setTop (mkF m 12 #[.val (.ref b), .val (.int (Int32.ofNat (o + i))), .val (.ref d), .val (.int (Int32.ofNat (q + i))), .val (.int (Int32.ofNat len)), .val (.int (Int32.ofNat i)), z] [.int (Int32.ofNat (o + i)), .ref b])) := cl.trans (by
        refine XS.iload Xl.here hexec rfl (hb hbytes d3) rfl ?_
        refine XS.iload Xl.here hexec rfl (hb hbytes d5) rfl ?_
        refine XS.icmpNo Xl.here hexec rfl (hb hbytes d7) rfl (ii_ge_f (lt32 (by omega) (by omega))) ?_
        refine XS.aloadN Xl.here hexec rfl (hb hbytes d10) rfl rfl ?_
        refine XS.iloadN Xl.here hexec rfl (hb hbytes d11) rfl ?_
        exact Steps.refl _)
      have c4 : Steps p.tables e below (s₁.setTop (entryFrame m #[.ref b, .int (Int32.ofNat o), .ref d, .int (Int32.ofNat q), .int (Int32.ofNat len)] 7)) (Tl.setTop (mkF m 13 #[.val (.ref b), .val (.int (Int32.ofNat (o + i))), .val (.ref d), .val (.int (Int32.ofNat (q + i))), .val (.int (Int32.ofNat len)), .val (.int (Int32.ofNat i)), z] [.int (cv A (o + i))])) := c3.trans (by
        refine Xl.aget hexec hAl rfl (hA.get (i := o + i) (by omega)) rfl rfl (hb hbytes d12) ?_
        exact Steps.refl _)
      have c5 : Steps p.tables e below (s₁.setTop (entryFrame m #[.ref b, .int (Int32.ofNat o), .ref d, .int (Int32.ofNat q), .int (Int32.ofNat len)] 7)) (Tl.setTop (mkF m 15 #[.val (.ref b), .val (.int (Int32.ofNat (o + i))), .val (.ref d), .val (.int (Int32.ofNat (q + i))), .val (.int (Int32.ofNat len)), .val (.int (Int32.ofNat i)), .val (.int (cv A (o + i)))] [])) := c4.trans (by
        refine XS.istoreS Xl.here hexec rfl (hb hbytes d13) rfl rfl hz ?_
        exact Steps.refl _)
      have c6 : Steps p.tables e below (s₁.setTop (entryFrame m #[.ref b, .int (Int32.ofNat o), .ref d, .int (Int32.ofNat q), .int (Int32.ofNat len)] 7)) (Tl.setTop (mkF m 31 #[.val (.ref b), .val (.int (Int32.ofNat (o + i))), .val (.ref d), .val (.int (Int32.ofNat (q + i))), .val (.int (Int32.ofNat len)), .val (.int (Int32.ofNat i)), .val (.int (cv A (o + i)))] [.int (lo8 (cv A (o + i))), .int (Int32.ofNat (q + i)), .ref d])) := c5.trans (by
        refine XS.iload Xl.here hexec rfl (hb hbytes d15) rfl ?_
        refine sipushV Xl.here hexec rfl 255 (hb hbytes d17) (by decide) ?_
        refine XS.icmpYes Xl.here hexec rfl (pc0 := 20) rfl (hb hbytes d20) rfl (ii_le_t (hp i (by omega))) (by decide) rfl ?_
        refine XS.aloadN Xl.here hexec rfl (hb hbytes d26) rfl rfl ?_
        refine XS.iloadN Xl.here hexec rfl (hb hbytes d27) rfl ?_
        refine XS.iload Xl.here hexec rfl (hb hbytes d28) rfl ?_
        refine i2b Xl.here hexec rfl (hb hbytes d30) rfl ?_
        exact Steps.refl _)
      obtain ⟨T7, X7, p7, st7⟩ := Xl.aput hexec hBk rfl hlt rfl (fits_lo8 (cv A (o + i))) (g := (mkF m 31 #[.val (.ref b), .val (.int (Int32.ofNat (o + i))), .val (.ref d), .val (.int (Int32.ofNat (q + i))), .val (.int (Int32.ofNat len)), .val (.int (Int32.ofNat i)), .val (.int (cv A (o + i)))] [.int (lo8 (cv A (o + i))), .int (Int32.ofNat (q + i)), .ref d])) rfl (rest := []) rfl (hb hbytes d31)
      have c8 : Steps p.tables e below (s₁.setTop (entryFrame m #[.ref b, .int (Int32.ofNat o), .ref d, .int (Int32.ofNat q), .int (Int32.ofNat len)] 7)) (T7.setTop (mkF m 32 #[.val (.ref b), .val (.int (Int32.ofNat (o + i))), .val (.ref d), .val (.int (Int32.ofNat (q + i))), .val (.int (Int32.ofNat len)), .val (.int (Int32.ofNat i)), .val (.int (cv A (o + i)))] [])) := c6.trans (st7 _ (Steps.refl _))
      have c9 : Steps p.tables e below (s₁.setTop (entryFrame m #[.ref b, .int (Int32.ofNat o), .ref d, .int (Int32.ofNat q), .int (Int32.ofNat len)] 7)) (T7.setTop (mkF m 3 #[.val (.ref b), .val (.int (Int32.ofNat (o + i) + 1)), .val (.ref d), .val (.int (Int32.ofNat (q + i) + 1)), .val (.int (Int32.ofNat len)), .val (.int (Int32.ofNat i + 1)), .val (.int (cv A (o + i)))] [])) := c8.trans (by
        refine iincV X7.here hexec rfl 1 (hb hbytes d32) (by decide) rfl rfl ?_
        refine iincV X7.here hexec rfl 1 (hb hbytes d35) (by decide) rfl rfl ?_
        refine iincV X7.here hexec rfl 1 (hb hbytes d38) (by decide) rfl rfl ?_
        refine XS.goto X7.here hexec rfl (pc0 := 41) rfl (hb hbytes d41) (by decide) rfl ?_
        exact Steps.refl _)
      have c10 : Steps p.tables e below (s₁.setTop (entryFrame m #[.ref b, .int (Int32.ofNat o), .ref d, .int (Int32.ofNat q), .int (Int32.ofNat len)] 7)) (T7.setTop (mkF m 3 #[.val (.ref b), .val (.int (Int32.ofNat (o + (i + 1)))), .val (.ref d), .val (.int (Int32.ofNat (q + (i + 1)))), .val (.int (Int32.ofNat len)), .val (.int (Int32.ofNat (i + 1))), .val (.int (cv A (o + i)))] [])) := by
        have := c9
        rw [succ32, succ32, succ32] at this
        exact this
      exact ih (i + 1) (by omega) _ (Or.inr ⟨_, rfl, rfl⟩) T7 _ (by rw [copyLocs_step, ← List.append_assoc]; exact X7) (pl.trans p7) (fl.step (by omega) hlt (by simp)) c10
  obtain ⟨T9, B9, z9, X9, p9, f9, g9⟩ := loop len 0 (by omega) .unset (Or.inl rfl) s₁ B (by simpa [copyLocs] using X0) ⟨hB0.1, fun _ _ => rfl, rfl⟩ (Laid.zero _ _ _) c2
  have c11 : Steps p.tables e below (s₁.setTop (entryFrame m #[.ref b, .int (Int32.ofNat o), .ref d, .int (Int32.ofNat q), .int (Int32.ofNat len)] 7)) (T9.setTop (mkF m 46 #[.val (.ref b), .val (.int (Int32.ofNat (o + len))), .val (.ref d), .val (.int (Int32.ofNat (q + len))), .val (.int (Int32.ofNat len)), .val (.int (Int32.ofNat len)), z9] [.int (Int32.ofNat len)])) := g9.trans (by
    refine XS.iload X9.here hexec rfl (hb hbytes d3) rfl ?_
    refine XS.iload X9.here hexec rfl (hb hbytes d5) rfl ?_
    refine XS.icmpYes X9.here hexec rfl (pc0 := 7) rfl (hb hbytes d7) rfl (ii_ge_t (nlt32 (by omega) (Nat.le_refl _))) (by decide) rfl ?_
    refine XS.iload X9.here hexec rfl (hb hbytes d44) rfl ?_
    exact Steps.refl _)
  exact ⟨T9, some (.int (Int32.ofNat len)), _, _, _, X9, by simp, rfl, rfl, (fun h => by cases h), ⟨rfl, B9, p9.from hh0, f9⟩, fun fs hl => c11.trans (X9.ireturnOut hexec hret rfl (Or.inl rfl) (hb hbytes d46) hl)⟩
end Cmp5
namespace Cmp3
def yN : MethodName := ⟨"java/lang/StringUTF16", "compress", "([CII)[B"⟩
abbrev yB : ByteArray := jdk_52_method_16_code
theorem d0 : decode yB 0 = .ok (.iload_n 2, 1) := by decide +kernel
theorem d1 : decode yB 1 = .ok (.newarray .byte, 2) := by decide +kernel
theorem d3 : decode yB 3 = .ok (.astore_n 3, 1) := by decide +kernel
theorem d4 : decode yB 4 = .ok (.aload_n 0, 1) := by decide +kernel
theorem d5 : decode yB 5 = .ok (.iload_n 1, 1) := by decide +kernel
theorem d6 : decode yB 6 = .ok (.aload_n 3, 1) := by decide +kernel
theorem d7 : decode yB 7 = .ok (.iconst 0, 1) := by decide +kernel
theorem d8 : decode yB 8 = .ok (.iload_n 2, 1) := by decide +kernel
theorem d9 : decode yB 9 = .ok (.invokestatic 115, 3) := by decide +kernel
theorem d12 : decode yB 12 = .ok (.istore 4, 2) := by decide +kernel
theorem d14 : decode yB 14 = .ok (.iload 4, 2) := by decide +kernel
theorem d16 : decode yB 16 = .ok (.iload_n 2, 1) := by decide +kernel
theorem d17 : decode yB 17 = .ok (.if_icmp (.eq) 40, 3) := by decide +kernel
theorem d57 : decode yB 57 = .ok (.aload_n 3, 1) := by decide +kernel
theorem d58 : decode yB 58 = .ok (.areturn, 1) := by decide +kernel
def site : List Cond := [.arrayClass .byte, Cmp5.tab] ++ staticW U16 115 Cmp5.yN
def tab : Cond := tabOf yN yB 6 (some (.array .byte)) site
def P (b : Addr) (A : Cell) (o len : Nat) (args : Array Value) (s : State) : Prop := args = #[.ref b, .int (Int32.ofNat o), .int (Int32.ofNat len)] ∧ Ch b A s ∧ o + len ≤ A.slots.size ∧ len ≤ 536870912 ∧ ∀ i, i < len → ¬ 255 < cv A (o + i)
def E (b : Addr) (A : Cell) (o len : Nat) (r : Option Value) (s u : State) : Prop := NewArr .byte "[B" len (fun j => .int (lo8 (cv A (o + j)))) r s u ∧ u.heap.size = s.heap.size + 1
/-- no char of the range above 255: a new byte[] of their low bytes -/
theorem law (l : Launch) (b : Addr) (A : Cell) (o len : Nat) : Law l yN 3 3 1 18 yB 6 (some (.array .byte)) site (P b A o len) (E b A o len) [] 1 len := by
  refine Law.of_walk (plainFor_of_name (by decide +kernel)) (by decide +kernel) (by decide +kernel) (by decide) (fun _ _ h => by rw [h.1]; rfl) (fun _ U U' hal hh h => ⟨h.1, h.2.1.mv hal hh, h.2.2⟩) (fun r U U' V V' h1 hal h2 h => ⟨NewArr.mv r U U' V V' h1 hal h2 h.1, by rw [h1, h2]; exact h.2⟩) ?_
  intro p e s m args below meth c s₁ X0 hexec hbytes hml hret hlk hnm hown hh0 W hP
  obtain ⟨rfl, hA, l1, l2, hp⟩ := hP
  have a31 := hA.1.2.2.2
  have c1 : Steps p.tables e below (s₁.setTop (entryFrame m #[.ref b, .int (Int32.ofNat o), .int (Int32.ofNat len)] 6)) (s₁.setTop (mkF m 0 #[.val (.ref b), .val (.int (Int32.ofNat o)), .val (.int (Int32.ofNat len)), .unset, .unset, .unset] [])) := entry rfl
  have c2 : Steps p.tables e below (s₁.setTop (entryFrame m #[.ref b, .int (Int32.ofNat o), .int (Int32.ofNat len)] 6)) (s₁.setTop (mkF m 1 #[.val (.ref b), .val (.int (Int32.ofNat o)), .val (.int (Int32.ofNat len)), .unset, .unset, .unset] [.int (Int32.ofNat len)])) := c1.trans (by
    refine XS.iloadN X0.here hexec rfl (hb hbytes d0) rfl ?_
    exact Steps.refl _)
  obtain ⟨T3, B3, X3, ba3, bs3, bv3, bh3, bf3, st3⟩ := X0.anew hexec (atype := .byte) (wk W (.arrayClass .byte)) rfl (by show len * 1 ≤ _; omega) (by omega) (g := (mkF m 1 #[.val (.ref b), .val (.int (Int32.ofNat o)), .val (.int (Int32.ofNat len)), .unset, .unset, .unset] [.int (Int32.ofNat len)])) rfl (hb hbytes d1) (rest := []) rfl (Nat.le_refl _) (by show 0 + len ≤ len; omega)
  rw [hh0] at ba3 st3
  have kp3 : XT.Kept s T3 := (XT.Kept.of_eq hh0).push bh3
  have hA3 := hA.keep X3.warmed.alike (kp3 _ _ hA.1.1)
  have hne : b ≠ s.heap.size := hA.1.ne
  have c4 : Steps p.tables e below (s₁.setTop (entryFrame m #[.ref b, .int (Int32.ofNat o), .int (Int32.ofNat len)] 6)) (T3.setTop (mkF m 3 #[.val (.ref b), .val (.int (Int32.ofNat o)), .val (.int (Int32.ofNat len)), .unset, .unset, .unset] [.ref s.heap.size])) := c2.trans (st3 _ (Steps.refl _))
  have c5 : Steps p.tables e below (s₁.setTop (entryFrame m #[.ref b, .int (Int32.ofNat o), .int (Int32.ofNat len)] 6)) (T3.setTop (mkF m 9 #[.val (.ref b), .val (.int (Int32.ofNat o)), .val (.int (Int32.ofNat len)), .val (.ref s.heap.size), .unset, .unset] [.int (Int32.ofNat len), .int 0, .ref s.heap.size, .int (Int32.ofNat o), .ref b])) := c4.trans (by
    refine XS.astoreN X3.here hexec rfl (hb hbytes d3) rfl rfl rfl ?_
    refine XS.aloadN X3.here hexec rfl (hb hbytes d4) rfl rfl ?_
    refine XS.iloadN X3.here hexec rfl (hb hbytes d5) rfl ?_
    refine XS.aloadN X3.here hexec rfl (hb hbytes d6) rfl rfl ?_
    refine iconstV X3.here hexec rfl 0 (hb hbytes d7) (by decide) ?_
    refine XS.iloadN X3.here hexec rfl (hb hbytes d8) rfl ?_
    exact Steps.refl _)
  obtain ⟨v6, T6, X6, E6, g6⟩ := X3.callS hexec (Cmp5.law l b A s.heap.size B3 o 0 len) hown (wks W (staticW U16 115 Cmp5.yN)) (wk W Cmp5.tab) (W := 0) (Nat.le_of_ble_eq_true rfl) (Nat.le_of_ble_eq_true rfl) (Nat.le_refl _) (by show 0 + len + 0 ≤ len; omega) (g := (mkF m 9 #[.val (.ref b), .val (.int (Int32.ofNat o)), .val (.int (Int32.ofNat len)), .val (.ref s.heap.size), .unset, .unset] [.int (Int32.ofNat len), .int (Int32.ofNat 0), .ref s.heap.size, .int (Int32.ofNat o), .ref b])) rfl (by rw [hml]; rfl) c5 (argsL := [.ref b, .int (Int32.ofNat o), .ref s.heap.size, .int (Int32.ofNat 0), .int (Int32.ofNat len)]) (rest := []) rfl rfl (by show 2 * 0 + 0 ≤ _; decide) (hb hbytes d9) (⟨rfl, hA3, ba3, hne, l1, by rw [bs3]; simp, hp⟩)
  obtain ⟨rfl, B6, p6, f6⟩ := E6
  have c7 : Steps p.tables e below (s₁.setTop (entryFrame m #[.ref b, .int (Int32.ofNat o), .int (Int32.ofNat len)] 6)) (T6.setTop (mkF m 12 #[.val (.ref b), .val (.int (Int32.ofNat o)), .val (.int (Int32.ofNat len)), .val (.ref s.heap.size), .unset, .unset] [.int (Int32.ofNat len)])) := g6
  have c8 : Steps p.tables e below (s₁.setTop (entryFrame m #[.ref b, .int (Int32.ofNat o), .int (Int32.ofNat len)] 6)) (T6.setTop (mkF m 58 #[.val (.ref b), .val (.int (Int32.ofNat o)), .val (.int (Int32.ofNat len)), .val (.ref s.heap.size), .val (.int (Int32.ofNat len)), .unset] [.ref s.heap.size])) := c7.trans (by
    refine XS.istore X6.here hexec rfl (hb hbytes d12) rfl rfl ?_
    refine XS.iload X6.here hexec rfl (hb hbytes d14) rfl ?_
    refine XS.iloadN X6.here hexec rfl (hb hbytes d16) rfl ?_
    refine XS.icmpYes X6.here hexec rfl (pc0 := 17) rfl (hb hbytes d17) rfl (ii_eq_t rfl) (by decide) rfl ?_
    refine XS.aloadN X6.here hexec rfl (hb hbytes d57) rfl rfl ?_
    exact Steps.refl _)
  have X8 := X6.wide (L' := []) (cells' := 1) (slots' := len) (fun x hx hlt => by
    simp only [List.nil_append, copyLocs, List.mem_map, List.mem_range] at hx
    obtain ⟨i, -, rfl⟩ := hx
    exact absurd hlt (Nat.lt_irrefl _)) (Nat.le_refl _) (by omega)
  exact ⟨T6, some (.ref s.heap.size), _, _, _, X8, rfl, rfl, rfl, (fun h => by cases h), ⟨⟨rfl, B6, ba3.like (X3.warmed.alike.symm.trans X6.warmed.alike) p6.1 f6.1 f6.2.1 f6.2.2.1, f6.2.1.trans bv3, by rw [X6.warmed.alike.findClass, f6.1]; exact bf3, by rw [f6.2.2.1, bs3]; simp, fun j hj => by rw [f6.2.2.2 j, if_pos (by omega)]; rfl, kp3.put p6 (Nat.le_refl _)⟩, by rw [p6.2.2, bh3, hh0]; simp⟩, fun fs hl => c8.trans (X8.areturnOut hexec rfl hret rfl (hb hbytes d58) hl)⟩
end Cmp3
namespace CodL
def yN : MethodName := ⟨"java/lang/StringUTF16", "coderFromArrayLen", "([BI)B"⟩
abbrev yB : ByteArray := jdk_52_method_15_code
theorem d0 : decode yB 0 = .ok (.iload_n 1, 1) := by decide +kernel
theorem d1 : decode yB 1 = .ok (.aload_n 0, 1) := by decide +kernel
theorem d2 : decode yB 2 = .ok (.arraylength, 1) := by decide +kernel
theorem d3 : decode yB 3 = .ok (.isub, 1) := by decide +kernel
theorem d4 : decode yB 4 = .ok (.bipush 31, 2) := by decide +kernel
theorem d6 : decode yB 6 = .ok (.iushr, 1) := by decide +kernel
theorem d7 : decode yB 7 = .ok (.i2b, 1) := by decide +kernel
theorem d8 : decode yB 8 = .ok (.ireturn, 1) := by decide +kernel
def site : List Cond := []
def tab : Cond := tabOf yN yB 2 (some .byte) site
def P (d : Addr) (B : Cell) (args : Array Value) (s : State) : Prop := args = #[.ref d, .int (Int32.ofNat B.slots.size)] ∧ Arr .byte d B s
def E (r : Option Value) (s u : State) : Prop := XT.PureE (some (.int 0)) r s u
/-- an array as long as the number of chars: LATIN1 -/
theorem law (l : Launch) (d : Addr) (B : Cell) : Law l yN 2 2 0 0 yB 2 (some .byte) site (P d B) E [] 0 0 := by
  refine Law.of_walk (plainFor_of_name (by decide +kernel)) (by decide +kernel) (by decide +kernel) (by decide) (fun _ _ h => by rw [h.1]; rfl) (fun _ U U' hal hh h => ⟨h.1, h.2.mv hal hh⟩) (fun r U U' V V' h1 hal h2 h => XT.PureE.mv r U U' V V' h1 hal h2 h) ?_
  intro p e s m args below meth c s₁ X0 hexec hbytes hml hret hlk hnm hown hh0 W hP
  obtain ⟨rfl, hB⟩ := hP
  have hB0 := hB.mv X0.warmed.alike hh0
  have c1 : Steps p.tables e below (s₁.setTop (entryFrame m #[.ref d, .int (Int32.ofNat B.slots.size)] 2)) (s₁.setTop (mkF m 0 #[.val (.ref d), .val (.int (Int32.ofNat B.slots.size))] [])) := entry rfl
  have c2 : Steps p.tables e below (s₁.setTop (entryFrame m #[.ref d, .int (Int32.ofNat B.slots.size)] 2)) (s₁.setTop (mkF m 2 #[.val (.ref d), .val (.int (Int32.ofNat B.slots.size))] [.ref d, .int (Int32.ofNat B.slots.size)])) := c1.trans (by
    refine XS.iloadN X0.here hexec rfl (hb hbytes d0) rfl ?_
    refine XS.aloadN X0.here hexec rfl (hb hbytes d1) rfl rfl ?_
    exact Steps.refl _)
  have c3 : Steps p.tables e below (s₁.setTop (entryFrame m #[.ref d, .int (Int32.ofNat B.slots.size)] 2)) (s₁.setTop (mkF m 8 #[.val (.ref d), .val (.int (Int32.ofNat B.slots.size))] [.int (lo8 (ushr (Int32.ofNat B.slots.size - Int32.ofNat B.slots.size) 31))])) := c2.trans (by
    refine X0.alen hexec hB0 rfl rfl (hb hbytes d2) ?_
    refine XS.isub X0.here hexec rfl (hb hbytes d3) rfl ?_
    refine bipushV X0.here hexec rfl 31 (hb hbytes d4) (by decide) ?_
    refine iushr X0.here hexec rfl (hb hbytes d6) rfl ?_
    refine i2b X0.here hexec rfl (hb hbytes d7) rfl ?_
    exact Steps.refl _)
  have e0 : lo8 (ushr (Int32.ofNat B.slots.size - Int32.ofNat B.slots.size) 31) = 0 := by rw [Int32.sub_self]; decide
  rw [e0] at c3
  exact ⟨s₁, some (.int 0), _, _, _, X0, rfl, rfl, rfl, (fun h => by cases h), ⟨rfl, hh0⟩, fun fs hl => c3.trans (X0.ireturnOut hexec hret rfl (Or.inr (Or.inr (Or.inl rfl))) (hb hbytes d8) hl)⟩
end CodL
/-- the String at a is Latin-1 over a new byte[] (the heap's one new cell): the low bytes of the len chars of A from o on; every cell but a is kept -/
def Got (a : Addr) (D : Cell) (fV fC : Field) (A : Cell) (o len : Nat) (r : Option Value) (s u : State) : Prop := r = none ∧ ∃ D' V : Cell, Blank "java/lang/String" a D' u ∧ Same D D' [fV.slot, fC.slot] ∧ D'.slots[fV.slot]? = some (.ref s.heap.size) ∧ D'.slots[fC.slot]? = some (.int 0) ∧ Arr .byte s.heap.size V u ∧ V.vm = .none ∧ u.vm.findClass "[B" = some V.cls ∧ V.slots.size = len ∧ (∀ j, j < len → V.slots[j]? = some (.int (lo8 (cv A (o + j))))) ∧ (∀ (y : Addr) (c : Cell), y ≠ a → s.heap[y]? = some c → u.heap[y]? = some c) ∧ u.heap.size = s.heap.size + 1
theorem Got.mv {a : Addr} {D A : Cell} {fV fC : Field} {o len : Nat} : ∀ r (U U' V V' : State), U'.heap = U.heap → V.vm.Alike V'.vm → V'.heap = V.heap → Got a D fV fC A o len r U V → Got a D fV fC A o len r U' V' :=
  fun r U U' V V' h1 hal h2 ⟨e0, D', X, a1, a2, a3, a4, a5, a6, a7, a8, a9, a10, a11⟩ => ⟨e0, D', X, a1.mv hal h2, a2, by rw [h1]; exact a3, a4, by rw [h1]; exact a5.mv hal h2, a6, by rw [hal.findClass]; exact a7, a8, a9, by rw [h1, h2]; exact a10, by rw [h1, h2]; exact a11⟩
namespace New4
def yN : MethodName := ⟨"java/lang/String", "<init>", "([CIILjava/lang/Void;)V"⟩
abbrev yB : ByteArray := jdk_42_method_149_code
theorem d0 : decode yB 0 = .ok (.aload_n 0, 1) := by decide +kernel
theorem d1 : decode yB 1 = .ok (.invokespecial 1, 3) := by decide +kernel
theorem d4 : decode yB 4 = .ok (.iload_n 3, 1) := by decide +kernel
theorem d5 : decode yB 5 = .ok (.ifCond (.ne) 22, 3) := by decide +kernel
theorem d27 : decode yB 27 = .ok (.getstatic 38, 3) := by decide +kernel
theorem d30 : decode yB 30 = .ok (.ifCond (.eq) 28, 3) := by decide +kernel
theorem d33 : decode yB 33 = .ok (.aload_n 1, 1) := by decide +kernel
theorem d34 : decode yB 34 = .ok (.iload_n 2, 1) := by decide +kernel
theorem d35 : decode yB 35 = .ok (.iload_n 3, 1) := by decide +kernel
theorem d36 : decode yB 36 = .ok (.invokestatic 177, 3) := by decide +kernel
theorem d39 : decode yB 39 = .ok (.astore 5, 2) := by decide +kernel
theorem d41 : decode yB 41 = .ok (.aload_n 0, 1) := by decide +kernel
theorem d42 : decode yB 42 = .ok (.aload 5, 2) := by decide +kernel
theorem d44 : decode yB 44 = .ok (.iload_n 3, 1) := by decide +kernel
theorem d45 : decode yB 45 = .ok (.invokestatic 47, 3) := by decide +kernel
theorem d48 : decode yB 48 = .ok (.putfield 15, 3) := by decide +kernel
theorem d51 : decode yB 51 = .ok (.aload_n 0, 1) := by decide +kernel
theorem d52 : decode yB 52 = .ok (.aload 5, 2) := by decide +kernel
theorem d54 : decode yB 54 = .ok (.putfield 9, 3) := by decide +kernel
theorem d57 : decode yB 57 = .ok (.return_, 1) := by decide +kernel
def site : List Cond := [.fieldLink "java/lang/String" 38 "java/lang/String" "COMPACT_STRINGS" "Z", Cmp3.tab, CodL.tab, .laysFinal "java/lang/String" "java/lang/String" "value" "[B", .fieldLink "java/lang/String" 9 "java/lang/String" "value" "[B", .laysFinal "java/lang/String" "java/lang/String" "coder" "B", .fieldLink "java/lang/String" 15 "java/lang/String" "coder" "B"] ++ objW "java/lang/String" 1 ++ staticW "java/lang/String" 177 Cmp3.yN ++ staticW "java/lang/String" 47 CodL.yN
def tab : Cond := tabOf yN yB 6 none site
def P (a : Addr) (D : Cell) (fV fC : Field) (b : Addr) (A : Cell) (z : Int32) (o len : Nat) (args : Array Value) (s : State) : Prop := args = #[.ref a, .ref b, .int (Int32.ofNat o), .int (Int32.ofNat len), .null] ∧ Blank "java/lang/String" a D s ∧ Found "java/lang/String" "value" "[B" fV s ∧ Found "java/lang/String" "coder" "B" fC s ∧ Ch b A s ∧ StaticIs s "java/lang/String" "COMPACT_STRINGS" "Z" (.int z) ∧ ¬ z = 0 ∧ 0 < len ∧ o + len ≤ A.slots.size ∧ len ≤ 536870912 ∧ ∀ i, i < len → ¬ 255 < cv A (o + i)
def E (a : Addr) (D : Cell) (fV fC : Field) (A : Cell) (o len : Nat) (r : Option Value) (s u : State) : Prop := Got a D fV fC A o len r s u
/-- len > 0, no char of the range above 255: a Latin-1 String of their low bytes -/
theorem law (l : Launch) (a : Addr) (D : Cell) (fV fC : Field) (b : Addr) (A : Cell) (z : Int32) (o len : Nat) : Law l yN 5 4 2 35 yB 6 none site (P a D fV fC b A z o len) (E a D fV fC A o len) [⟨a, fC.slot⟩, ⟨a, fV.slot⟩] 1 len := by
  refine Law.of_walk (plainFor_of_name (by decide +kernel)) (by decide +kernel) (by decide +kernel) (by decide) (fun _ _ h => by rw [h.1]; rfl) (fun _ U U' hal hh h => ⟨h.1, h.2.1.mv hal hh, h.2.2.1.al hal, h.2.2.2.1.al hal, h.2.2.2.2.1.mv hal hh, h.2.2.2.2.2.1.there hal hh, h.2.2.2.2.2.2⟩) (fun r U U' V V' h1 hal h2 h => Got.mv r U U' V V' h1 hal h2 h) ?_
  intro p e s m args below meth c s₁ X0 hexec hbytes hml hret hlk hnm hown hh0 W hP
  obtain ⟨rfl, hB, f1, f2, hA, s1, hz, l0, l1, l2, hp⟩ := hP
  have a31 := hA.1.2.2.2
  have c1 : Steps p.tables e below (s₁.setTop (entryFrame m #[.ref a, .ref b, .int (Int32.ofNat o), .int (Int32.ofNat len), .null] 6)) (s₁.setTop (mkF m 0 #[.val (.ref a), .val (.ref b), .val (.int (Int32.ofNat o)), .val (.int (Int32.ofNat len)), .val .null, .unset] [])) := entry rfl
  have c2 : Steps p.tables e below (s₁.setTop (entryFrame m #[.ref a, .ref b, .int (Int32.ofNat o), .int (Int32.ofNat len), .null] 6)) (s₁.setTop (mkF m 1 #[.val (.ref a), .val (.ref b), .val (.int (Int32.ofNat o)), .val (.int (Int32.ofNat len)), .val .null, .unset] [.ref a])) := c1.trans (by
    refine XS.aloadN X0.here hexec rfl (hb hbytes d0) rfl rfl ?_
    exact Steps.refl _)
  obtain ⟨T3, X3, q3, st3⟩ := X0.oinit hexec hown (wks W (objW "java/lang/String" 1)) (g := (mkF m 1 #[.val (.ref a), .val (.ref b), .val (.int (Int32.ofNat o)), .val (.int (Int32.ofNat len)), .val .null, .unset] [.ref a])) rfl (by rw [hml]; rfl) (rest := []) rfl (hb hbytes d1) (W := 0) (by show 2 * 0 + 0 ≤ _; decide) (Nat.le_of_ble_eq_true rfl) (Nat.le_of_ble_eq_true rfl)
  have hh3 := q3.trans hh0
  have c4 : Steps p.tables e below (s₁.setTop (entryFrame m #[.ref a, .ref b, .int (Int32.ofNat o), .int (Int32.ofNat len), .null] 6)) (T3.setTop (mkF m 27 #[.val (.ref a), .val (.ref b), .val (.int (Int32.ofNat o)), .val (.int (Int32.ofNat len)), .val .null, .unset] [])) := (c2.trans (st3 _ (Steps.refl _))).trans (by
    refine XS.iloadN X3.here hexec rfl (hb hbytes d4) rfl ?_
    refine XS.ifYes X3.here hexec rfl (pc0 := 5) rfl (hb hbytes d5) rfl (i0_ne_t (nz32 (by omega) l0)) (by decide) rfl ?_
    exact Steps.refl _)
  obtain ⟨T5, X5, q5, st5⟩ := X3.sget hexec hown (wk W (.fieldLink "java/lang/String" 38 "java/lang/String" "COMPACT_STRINGS" "Z")) s1 (fun _ _ h => by rw [hh3]; exact h) (g := (mkF m 27 #[.val (.ref a), .val (.ref b), .val (.int (Int32.ofNat o)), .val (.int (Int32.ofNat len)), .val .null, .unset] [])) rfl (hb hbytes d27)
  have hh5 := q5.trans hh3
  have c6 : Steps p.tables e below (s₁.setTop (entryFrame m #[.ref a, .ref b, .int (Int32.ofNat o), .int (Int32.ofNat len), .null] 6)) (T5.setTop (mkF m 30 #[.val (.ref a), .val (.ref b), .val (.int (Int32.ofNat o)), .val (.int (Int32.ofNat len)), .val .null, .unset] [.int z])) := c4.trans (st5 _ (Steps.refl _))
  have c7 : Steps p.tables e below (s₁.setTop (entryFrame m #[.ref a, .ref b, .int (Int32.ofNat o), .int (Int32.ofNat len), .null] 6)) (T5.setTop (mkF m 36 #[.val (.ref a), .val (.ref b), .val (.int (Int32.ofNat o)), .val (.int (Int32.ofNat len)), .val .null, .unset] [.int (Int32.ofNat len), .int (Int32.ofNat o), .ref b])) := c6.trans (by
    refine XS.ifNo X5.here hexec rfl (hb hbytes d30) rfl (i0_eq_f hz) ?_
    refine XS.aloadN X5.here hexec rfl (hb hbytes d33) rfl rfl ?_
    refine XS.iloadN X5.here hexec rfl (hb hbytes d34) rfl ?_
    refine XS.iloadN X5.here hexec rfl (hb hbytes d35) rfl ?_
    exact Steps.refl _)
  obtain ⟨v8, T8, X8, E8, g8⟩ := X5.callS hexec (Cmp3.law l b A o len) hown (wks W (staticW "java/lang/String" 177 Cmp3.yN)) (wk W Cmp3.tab) (W := 0) (Nat.le_of_ble_eq_true rfl) (Nat.le_of_ble_eq_true rfl) (Nat.le_refl _) (by show 0 + len ≤ len; omega) (g := (mkF m 36 #[.val (.ref a), .val (.ref b), .val (.int (Int32.ofNat o)), .val (.int (Int32.ofNat len)), .val .null, .unset] [.int (Int32.ofNat len), .int (Int32.ofNat o), .ref b])) rfl (by rw [hml]; rfl) c7 (argsL := [.ref b, .int (Int32.ofNat o), .int (Int32.ofNat len)]) (rest := []) rfl rfl (by show 2 * 0 + 0 ≤ _; decide) (hb hbytes d36) (⟨rfl, hA.mv X5.warmed.alike hh5, l1, l2, hp⟩)
  obtain ⟨e8, z8⟩ := E8
  obtain ⟨rfl, N, n1, n2, n3, n4, n5, n6⟩ := NewArr.mv _ T5 s _ _ hh5.symm (Vm.Alike.refl _) rfl e8
  rw [hh5] at z8
  have hB1 := hB.keep X8.warmed.alike (n6 _ _ hB.1)
  have hne : s.heap.size ≠ a := (Nat.ne_of_lt (Array.getElem?_eq_some_iff.mp hB.1).1).symm
  have c9 : Steps p.tables e below (s₁.setTop (entryFrame m #[.ref a, .ref b, .int (Int32.ofNat o), .int (Int32.ofNat len), .null] 6)) (T8.setTop (mkF m 39 #[.val (.ref a), .val (.ref b), .val (.int (Int32.ofNat o)), .val (.int (Int32.ofNat len)), .val .null, .unset] [.ref s.heap.size])) := g8
  have c10 : Steps p.tables e below (s₁.setTop (entryFrame m #[.ref a, .ref b, .int (Int32.ofNat o), .int (Int32.ofNat len), .null] 6)) (T8.setTop (mkF m 45 #[.val (.ref a), .val (.ref b), .val (.int (Int32.ofNat o)), .val (.int (Int32.ofNat len)), .val .null, .val (.ref s.heap.size)] [.int (Int32.ofNat N.slots.size), .ref s.heap.size, .ref a])) := by
    have hc : Steps p.tables e below (s₁.setTop (entryFrame m #[.ref a, .ref b, .int (Int32.ofNat o), .int (Int32.ofNat len), .null] 6)) (T8.setTop (mkF m 45 #[.val (.ref a), .val (.ref b), .val (.int (Int32.ofNat o)), .val (.int (Int32.ofNat len)), .val .null, .val (.ref s.heap.size)] [.int (Int32.ofNat len), .ref s.heap.size, .ref a])) := c9.trans (by
      refine XS.astore X8.here hexec rfl (hb hbytes d39) rfl rfl rfl ?_
      refine XS.aloadN X8.here hexec rfl (hb hbytes d41) rfl rfl ?_
      refine XS.aload X8.here hexec rfl (hb hbytes d42) rfl rfl ?_
      refine XS.iloadN X8.here hexec rfl (hb hbytes d44) rfl ?_
      exact Steps.refl _)
    rw [n4]; exact hc
  obtain ⟨v11, T11, X11, E11, g11⟩ := X8.callS hexec (CodL.law l s.heap.size N) hown (wks W (staticW "java/lang/String" 47 CodL.yN)) (wk W CodL.tab) (W := 1) (Nat.le_of_ble_eq_true rfl) (Nat.le_of_ble_eq_true rfl) (Nat.le_refl _) (by show 0 + len + 0 ≤ len; omega) (g := (mkF m 45 #[.val (.ref a), .val (.ref b), .val (.int (Int32.ofNat o)), .val (.int (Int32.ofNat len)), .val .null, .val (.ref s.heap.size)] [.int (Int32.ofNat N.slots.size), .ref s.heap.size, .ref a])) rfl (by rw [hml]; rfl) c10 (argsL := [.ref s.heap.size, .int (Int32.ofNat N.slots.size)]) (rest := [.ref a]) rfl rfl (by show 2 * 0 + (1 + 0) ≤ _; decide) (hb hbytes d45) (⟨rfl, n1⟩)
  obtain ⟨rfl, q11⟩ := E11
  have hB11 := hB1.mv (X8.warmed.alike.symm.trans X11.warmed.alike) q11
  have c12 : Steps p.tables e below (s₁.setTop (entryFrame m #[.ref a, .ref b, .int (Int32.ofNat o), .int (Int32.ofNat len), .null] 6)) (T11.setTop (mkF m 48 #[.val (.ref a), .val (.ref b), .val (.int (Int32.ofNat o)), .val (.int (Int32.ofNat len)), .val .null, .val (.ref s.heap.size)] [.int 0, .ref a])) := g11
  obtain ⟨T13, X13, p13, bl13, sl13, st13⟩ := X11.finit hexec hown (wk W (.fieldLink "java/lang/String" 15 "java/lang/String" "coder" "B")) (Or.inr ⟨_, (wk W (.laysFinal "java/lang/String" "java/lang/String" "coder" "B"))⟩) (Or.inl ⟨rfl, hnm⟩) f2 (Or.inl rfl) hB11 (t := .byte) (by decide +kernel) rfl (g := (mkF m 48 #[.val (.ref a), .val (.ref b), .val (.int (Int32.ofNat o)), .val (.int (Int32.ofNat len)), .val .null, .val (.ref s.heap.size)] [.int 0, .ref a])) rfl (rest := []) rfl (hb hbytes d48)
  have c14 : Steps p.tables e below (s₁.setTop (entryFrame m #[.ref a, .ref b, .int (Int32.ofNat o), .int (Int32.ofNat len), .null] 6)) (T13.setTop (mkF m 54 #[.val (.ref a), .val (.ref b), .val (.int (Int32.ofNat o)), .val (.int (Int32.ofNat len)), .val .null, .val (.ref s.heap.size)] [.ref s.heap.size, .ref a])) := (c12.trans (st13 _ (Steps.refl _))).trans (by
    refine XS.aloadN X13.here hexec rfl (hb hbytes d51) rfl rfl ?_
    refine XS.aload X13.here hexec rfl (hb hbytes d52) rfl rfl ?_
    exact Steps.refl _)
  obtain ⟨T15, X15, p15, bl15, sl15, st15⟩ := X13.finit hexec hown (wk W (.fieldLink "java/lang/String" 9 "java/lang/String" "value" "[B")) (Or.inr ⟨_, (wk W (.laysFinal "java/lang/String" "java/lang/String" "value" "[B"))⟩) (Or.inl ⟨rfl, hnm⟩) f1 (Or.inl rfl) bl13 (t := (.array .byte)) (by decide +kernel) rfl (g := (mkF m 54 #[.val (.ref a), .val (.ref b), .val (.int (Int32.ofNat o)), .val (.int (Int32.ofNat len)), .val .null, .val (.ref s.heap.size)] [.ref s.heap.size, .ref a])) rfl (rest := []) rfl (hb hbytes d54)
  have c16 : Steps p.tables e below (s₁.setTop (entryFrame m #[.ref a, .ref b, .int (Int32.ofNat o), .int (Int32.ofNat len), .null] 6)) (T15.setTop (mkF m 57 #[.val (.ref a), .val (.ref b), .val (.int (Int32.ofNat o)), .val (.int (Int32.ofNat len)), .val .null, .val (.ref s.heap.size)] [])) := c14.trans (st15 _ (Steps.refl _))
  have ap := apart (Or.inr ⟨_, (wk W (.laysFinal "java/lang/String" "java/lang/String" "value" "[B"))⟩) (Or.inr ⟨_, (wk W (.laysFinal "java/lang/String" "java/lang/String" "coder" "B"))⟩) f1 f2 (t₁ := .array .byte) (t₂ := .byte) (by decide +kernel) (by decide +kernel) (by decide)
  have al := X8.warmed.alike.symm.trans X15.warmed.alike
  have n7 : T11.heap[s.heap.size]? = some N := by rw [q11]; exact n1.1
  exact ⟨T15, none, _, _, _, X15, by simp, rfl, by omega, (fun _ => rfl), ⟨rfl, _, N, bl15, ((Same.refl D _).set _ (by simp)).set _ (by simp), sl15, (Cell.slots_setSlot_ne _ ap).trans sl13, n1.keep al (p15.other hne (p13.other hne n7)), n2, by rw [al.findClass]; exact n3, n4, n5, fun y c h1 h2 => p15.other h1 (p13.other h1 (by rw [q11]; exact n6 y c h2)), by rw [p15.2.2, p13.2.2, q11]; exact z8⟩, fun fs hl => c16.trans (X15.returnOut hexec hret (hb hbytes d57) hl)⟩
end New4
namespace New1
def yN : MethodName := ⟨"java/lang/String", "<init>", "([C)V"⟩
abbrev yB : ByteArray := jdk_42_method_3_code
theorem d0 : decode yB 0 = .ok (.aload_n 0, 1) := by decide +kernel
theorem d1 : decode yB 1 = .ok (.aload_n 1, 1) := by decide +kernel
theorem d2 : decode yB 2 = .ok (.iconst 0, 1) := by decide +kernel
theorem d3 : decode yB 3 = .ok (.aload_n 1, 1) := by decide +kernel
theorem d4 : decode yB 4 = .ok (.arraylength, 1) := by decide +kernel
theorem d5 : decode yB 5 = .ok (.aconst_null, 1) := by decide +kernel
theorem d6 : decode yB 6 = .ok (.invokespecial 27, 3) := by decide +kernel
theorem d9 : decode yB 9 = .ok (.return_, 1) := by decide +kernel
def site : List Cond := [New4.tab] ++ initW "java/lang/String" 27 New4.yN
def tab : Cond := tabOf yN yB 2 none site
def P (a : Addr) (D : Cell) (fV fC : Field) (b : Addr) (A : Cell) (z : Int32) (args : Array Value) (s : State) : Prop := args = #[.ref a, .ref b] ∧ Blank "java/lang/String" a D s ∧ Found "java/lang/String" "value" "[B" fV s ∧ Found "java/lang/String" "coder" "B" fC s ∧ Ch b A s ∧ StaticIs s "java/lang/String" "COMPACT_STRINGS" "Z" (.int z) ∧ ¬ z = 0 ∧ 0 < A.slots.size ∧ A.slots.size ≤ 536870912 ∧ ∀ i, i < A.slots.size → ¬ 255 < cv A i
def E (a : Addr) (D : Cell) (fV fC : Field) (A : Cell) (r : Option Value) (s u : State) : Prop := Got a D fV fC A 0 A.slots.size r s u
/-- new String(chars), not empty, no char above 255: a Latin-1 String of their low bytes -/
theorem law (l : Launch) (a : Addr) (D : Cell) (fV fC : Field) (b : Addr) (A : Cell) (z : Int32) : Law l yN 2 1 3 52 yB 2 none site (P a D fV fC b A z) (E a D fV fC A) [⟨a, fC.slot⟩, ⟨a, fV.slot⟩] 1 A.slots.size := by
  refine Law.of_walk (plainFor_of_name (by decide +kernel)) (by decide +kernel) (by decide +kernel) (by decide) (fun _ _ h => by rw [h.1]; rfl) (fun _ U U' hal hh h => ⟨h.1, h.2.1.mv hal hh, h.2.2.1.al hal, h.2.2.2.1.al hal, h.2.2.2.2.1.mv hal hh, h.2.2.2.2.2.1.there hal hh, h.2.2.2.2.2.2⟩) (fun r U U' V V' h1 hal h2 h => Got.mv r U U' V V' h1 hal h2 h) ?_
  intro p e s m args below meth c s₁ X0 hexec hbytes hml hret hlk hnm hown hh0 W hP
  obtain ⟨rfl, hB, f1, f2, hA, s1, hz, l0, l2, hp⟩ := hP
  have c1 : Steps p.tables e below (s₁.setTop (entryFrame m #[.ref a, .ref b] 2)) (s₁.setTop (mkF m 0 #[.val (.ref a), .val (.ref b)] [])) := entry rfl
  have c2 : Steps p.tables e below (s₁.setTop (entryFrame m #[.ref a, .ref b] 2)) (s₁.setTop (mkF m 6 #[.val (.ref a), .val (.ref b)] [.null, .int (Int32.ofNat A.slots.size), .int 0, .ref b, .ref a])) := c1.trans (by
    refine XS.aloadN X0.here hexec rfl (hb hbytes d0) rfl rfl ?_
    refine XS.aloadN X0.here hexec rfl (hb hbytes d1) rfl rfl ?_
    refine iconstV X0.here hexec rfl 0 (hb hbytes d2) (by decide) ?_
    refine XS.aloadN X0.here hexec rfl (hb hbytes d3) rfl rfl ?_
    refine X0.alen hexec (hA.1.mv X0.warmed.alike hh0) rfl rfl (hb hbytes d4) ?_
    refine XS.aconstNull X0.here hexec rfl (hb hbytes d5) ?_
    exact Steps.refl _)
  obtain ⟨v3, T3, X3, E3, g3⟩ := X0.callN hexec (New4.law l a D fV fC b A z 0 A.slots.size) rfl hown (wks W (initW "java/lang/String" 27 New4.yN)) (W New4.tab (by simp only [site, List.mem_cons, List.mem_append, true_or, or_true])) (W := 0) (Nat.le_of_ble_eq_true rfl) (Nat.le_of_ble_eq_true rfl) (Nat.le_refl _) (by show 0 + A.slots.size ≤ A.slots.size; omega) (g := (mkF m 6 #[.val (.ref a), .val (.ref b)] [.null, .int (Int32.ofNat A.slots.size), .int (Int32.ofNat 0), .ref b, .ref a])) rfl (by rw [hml]; rfl) c2 (argsL := [.ref b, .int (Int32.ofNat 0), .int (Int32.ofNat A.slots.size), .null]) (rest := []) rfl rfl (by show 2 * 0 + 0 ≤ _; decide) (hb hbytes d6) (⟨rfl, hB.mv X0.warmed.alike hh0, f1.al X0.warmed.alike, f2.al X0.warmed.alike, hA.mv X0.warmed.alike hh0, s1.there X0.warmed.alike hh0, hz, l0, by omega, l2, fun i hi => by rw [Nat.zero_add]; exact hp i hi⟩)
  have e0 := Got.mv _ s₁ s _ _ hh0.symm (Vm.Alike.refl _) rfl E3
  obtain rfl := e0.1
  have c4 : Steps p.tables e below (s₁.setTop (entryFrame m #[.ref a, .ref b] 2)) (T3.setTop (mkF m 9 #[.val (.ref a), .val (.ref b)] [])) := g3
  exact ⟨T3, none, _, _, _, X3, by simp, rfl, by omega, (fun _ => rfl), e0, fun fs hl => c4.trans (X3.returnOut hexec hret (hb hbytes d9) hl)⟩
theorem pays {l : Launch} {R : Room} {p : Program} {e : Env} {below : List Frame} {s : State} {sargs : Array Value} {len W : Nat} (a : Addr) (D : Cell) (fV fC : Field) (b : Addr) (A : Cell) (z : Int32) (htab : tab.before sargs s = true) (hfr : 4 ≤ R.frames) (hlo : W + 65 ≤ R.locals) :
    Back l R p e below s sargs yN len W (fun A₁ a₁ => A₁.cells + 1 ≤ R.cells ∧ A₁.slots + A.slots.size ≤ R.slots ∧ P a D fV fC b A z a₁ A₁.U) (fun A₁ _ v₁ B₁ => E a D fV fC A v₁ A₁.U B₁.U ∧ B₁.locs = A₁.locs ++ [⟨a, fC.slot⟩, ⟨a, fV.slot⟩] ∧ B₁.cells = A₁.cells + 1 ∧ B₁.slots = A₁.slots + A.slots.size) :=
  (law l a D fV fC b A z).pays htab hfr (by omega)
end New1
/-- the byte, read back as charAt reads it, is the char -/
theorem lo8_mask {x : Int32} (h0 : ¬ x < 0) (h1 : ¬ 255 < x) : lo8 x &&& 255 = x := by
  have t : ∀ k : Fin 256, lo8 (Int32.ofNat k.val) &&& 255 = Int32.ofNat k.val := by decide +kernel
  rw [Int32.lt_iff_toInt_lt] at h0 h1
  have e0 : (0 : Int32).toInt = 0 := rfl
  have e1 : (255 : Int32).toInt = 255 := rfl
  obtain ⟨k, hk⟩ : ∃ k : Nat, x.toInt = k := ⟨x.toInt.toNat, by omega⟩
  have hx : x = Int32.ofNat k := Int32.toInt_inj.mp (by rw [hk, Int32.toInt_ofNat_small (by omega)])
  rw [hx]
  exact t ⟨k, by omega⟩
end StrChars
namespace StrChars.Road
open Jvm Sem ClassFile Op Lib Jvm.Stand Jvm.Free Jvm.Free.XT
open Jvm.Lib.Cold (StaticIs)
abbrev ST : String := "java/lang/String"
/-- every table word that New1's law asks, flat -/
abbrev words : List Jvm.Cond := [.code New1.yN New1.yB 2 none, .initialized ST, .methodLink ST 27 New4.yN, .instanceMethod New4.yN,
  .code New4.yN New4.yB 6 none, .fieldLink ST 38 ST "COMPACT_STRINGS" "Z", .laysFinal ST ST "value" "[B", .fieldLink ST 9 ST "value" "[B", .laysFinal ST ST "coder" "B", .fieldLink ST 15 ST "coder" "B",
  .methodLink ST 1 Lib.objectInit, .instanceMethod Lib.objectInit, .code Lib.objectInit ⟨#[0xb1]⟩ 1 none, .methodLink ST 177 Cmp3.yN, .static Cmp3.yN, .methodLink ST 47 CodL.yN, .static CodL.yN,
  .code Cmp3.yN Cmp3.yB 6 (some (.array .byte)), .initialized U16, .arrayClass .byte, .methodLink U16 115 Cmp5.yN, .static Cmp5.yN, .code Cmp5.yN Cmp5.yB 7 (some .int), .code CodL.yN CodL.yB 2 (some .byte)]
theorem tab_of {a : Array Value} {s : State} (h : ∀ w ∈ words, w.before a s = true) : New1.tab.before a s = true := by
  have h5 : Cmp5.tab.before a s = true := unparts (wk h (.code Cmp5.yN Cmp5.yB 7 (some .int))) (wks h (.initialized Cmp5.yN.cls :: Cmp5.site))
  have hc : CodL.tab.before a s = true := unparts (wk h (.code CodL.yN CodL.yB 2 (some .byte))) (wks h (.initialized CodL.yN.cls :: CodL.site))
  have q5 : ∀ w ∈ Cmp5.tab :: words, w.before a s = true := fun w hw => (List.mem_cons.mp hw).elim (fun e => e ▸ h5) (h w)
  have h3 : Cmp3.tab.before a s = true := unparts (wk q5 (.code Cmp3.yN Cmp3.yB 6 (some (.array .byte)))) (wks q5 (.initialized Cmp3.yN.cls :: Cmp3.site))
  have q3 : ∀ w ∈ Cmp3.tab :: CodL.tab :: words, w.before a s = true := fun w hw => (List.mem_cons.mp hw).elim (fun e => e ▸ h3) fun hw => (List.mem_cons.mp hw).elim (fun e => e ▸ hc) (h w)
  have h4 : New4.tab.before a s = true := unparts (wk q3 (.code New4.yN New4.yB 6 none)) (wks q3 (.initialized New4.yN.cls :: New4.site))
  have q4 : ∀ w ∈ New4.tab :: words, w.before a s = true := fun w hw => (List.mem_cons.mp hw).elim (fun e => e ▸ h4) (h w)
  exact unparts (wk q4 (.code New1.yN New1.yB 2 none)) (wks q4 (.initialized New1.yN.cls :: New1.site))
/-- the words ride from the start Z to the walk's own state -/
theorem moved {Z s : State} {a0 args : Array Value} (hZ : Z.Warmed39 s.vm) (hw : ∀ d ∈ words, d.before a0 Z = true) : ∀ d ∈ words, d.before args s = true := fun d hd => by
  have q := hw d hd
  have t : ∀ d ∈ words, d = .arrayClass .byte ∨ (d.onTables && d.keepsFace) = true := by decide +kernel
  rcases t d hd with rfl | t
  · exact RoadKit.mvA hZ q
  · exact RoadKit.mv hZ q t
/-- WHAT COMES BACK, over the tables of the start Z: h the heap at the call, h' behind it -/
def Q (Z : State) (x : Addr) (A : Cell) (h : Heap) (v : Option Value) (h' : Heap) (L : List Loc) : Prop := v = none ∧ (∀ y ∈ L, y.base = x) ∧ RoadKit.Keep h h' [x] ∧ h'.size = h.size + 1 ∧ RoadKit.Exa Z h' x ST ∧ RoadKit.Fld Z h' x ST "value" "[B" (.ref h.size) ∧ RoadKit.Fld Z h' x ST "coder" "B" (.int 0) ∧
  (∃ V : Cell, RoadKit.Arr Z h' h.size V .byte ∧ V.vm = .none ∧ Z.vm.findClass "[B" = some V.cls ∧ V.slots.size = A.slots.size ∧ ∀ j, j < A.slots.size → V.slots[j]? = some (.int (lo8 (cv A j)))) ∧
  ∀ (O n d : String) (w : Value), RoadKit.Fld Z h x O n d w → RoadKit.slotOf Z O n d ≠ RoadKit.slotOf Z ST "value" "[B" → RoadKit.slotOf Z O n d ≠ RoadKit.slotOf Z ST "coder" "B" → RoadKit.Fld Z h' x O n d w
/-- **new String(chars) AT A CALL, IN THE ROAD'S FORM**: for specialBack behind newO: x the fresh String, b the char[] with the cell A -/
theorem back {p : Program} {l : Launch} {e : Env} {R : Room} {s : State} {args : Array Value} {below : List Frame} {len W : Nat} {Z : State} {a0 : Array Value} {h : Heap} (hZ : Z.Warmed39 s.vm) (hw : ∀ d ∈ words, d.before a0 Z = true) {kI : Nat} (wi : (Jvm.Cond.instantiable ST kI).before a0 Z = true)
    {x b : Addr} {A : Cell} {z : Int32} {v0 c0 : Value} (E : RoadKit.Exa Z h x ST) (V : RoadKit.Fld Z h x ST "value" "[B" v0) (C : RoadKit.Fld Z h x ST "coder" "B" c0) (K : RoadKit.Arr Z h b A .char) (hty : Typed .char A) (S : RoadKit.Sta Z h ST "COMPACT_STRINGS" "Z" (.int z)) (hz : ¬ z = 0)
    (l0 : 0 < A.slots.size) (l2 : A.slots.size ≤ 536870912) (hp : ∀ i, i < A.slots.size → ¬ 255 < cv A i) (hfr : 4 ≤ R.frames) (hlo : W + 65 ≤ R.locals) :
    Back l R p e below s args New1.yN len W (fun P a => a = #[.ref x, .ref b] ∧ P.U.heap = h ∧ P.cells + 1 ≤ R.cells ∧ P.slots + A.slots.size ≤ R.slots)
      (fun P _ v B => ∃ L, Q Z x A h v B.U.heap L ∧ B.locs = P.locs ++ L ∧ B.cells = P.cells + 1 ∧ B.slots = P.slots + A.slots.size) := by
  intro m meth c P g ig mk a X hg hsize hdg hW hn hp'
  obtain ⟨rfl, rfl, r1, r2⟩ := hp'
  have al : Z.vm.Alike P.U.vm := hZ.alike.trans X.warmed.alike
  obtain ⟨D, cfV, kV, iV, fV, hD, gV, stV, knV, obV, asV, slV⟩ := id V
  obtain ⟨D', cfC, kC, iC, fC, hD', gC, stC, -, -, asC, slC⟩ := id C
  cases hD.symm.trans hD'
  obtain ⟨D2, kD, e1, e2, e3, e4, e5⟩ := id E
  cases hD.symm.trans e1
  obtain ⟨c2, k2, i1, i2, i3, -⟩ := Cond.instantiable_spec wi
  cases e2.symm.trans i1
  cases e3.symm.trans i2
  obtain ⟨kU, u1, u2⟩ := al.2.2 _ _ e3
  have hB : Blank ST x D P.U := ⟨hD, ⟨knV, fun q hq => by rw [hq] at obV; cases obV⟩, by rw [al.findClass]; exact e2, kU, u1, by rw [u2]; exact i3, by rw [u2]; exact e5 i3⟩
  have F1 : Found ST "value" "[B" fV P.U := ⟨SBG.found_only al ⟨cfV, kV, iV, gV⟩, stV⟩
  have F2 : Found ST "coder" "B" fC P.U := ⟨SBG.found_only al ⟨cfC, kC, iC, gC⟩, stC⟩
  have hA : Ch b A P.U := ⟨⟨K.1, State.isArrayOf_alike al K.2.1, K.2.2, by omega⟩, hty⟩
  have hS : StaticIs P.U ST "COMPACT_STRINGS" "Z" (.int z) := by
    obtain ⟨cfS, iS, kS, fS, st, cS, t1, t2, t3, t4, t5, t6, t7⟩ := S
    exact StaticIs.there (s := { Z with heap := P.U.heap }) ⟨cfS, iS, kS, fS, st, cS, t1, t2, t3, t4, t5, (fun q => by rw [q] at t6; cases t6), t7⟩ al rfl
  obtain ⟨v, B, X', ⟨⟨hv, E', V', q1, q2, q3, q4, q5, q6, q7, q8, q9, q10, q11⟩, hl, hc, hs⟩, st⟩ := New1.pays x D fV fC b A z (tab_of (moved hZ hw)) hfr hlo m meth c P g ig mk _ X hg hsize hdg hW hn ⟨r1, r2, rfl, hB, F1, F2, hA, hS, hz, l0, l2, hp⟩
  have al' : Z.vm.Alike B.U.vm := hZ.alike.trans X'.warmed.alike
  have hsz : E'.slots.size = D.slots.size := by
    obtain ⟨-, -, -, kB, w1, w2, w3⟩ := q1
    obtain ⟨kB', y1, y2⟩ := al'.2.2 _ _ e3
    rw [q2.2.1] at w1
    cases w1.symm.trans y1
    rw [w3, e5 i3, y2]
  refine ⟨v, B, X', ⟨_, ⟨hv, ?_, ⟨by omega, fun y cy hy hn' => q10 y cy (by simpa using hn') hy, fun y cy hy => ?_⟩, q11, ⟨E', _, q1.1, by rw [q2.2.1]; exact e2, by rw [q2.2.1]; exact e3, by rw [q2.1]; exact obV, fun _ => by rw [hsz]; exact e5 i3⟩,
    ⟨E', cfV, kV, iV, fV, q1.1, gV, stV, by rw [q2.1]; exact knV, by rw [q2.1]; exact obV, by rw [q2.2.1]; exact asV, q3⟩, ⟨E', cfC, kC, iC, fC, q1.1, gC, stC, by rw [q2.1]; exact knV, by rw [q2.1]; exact obV, by rw [q2.2.1]; exact asC, q4⟩,
    ⟨V', ⟨q5.1, State.isArrayOf_alike al'.symm q5.2.1, q5.2.2.1⟩, q6, by rw [← al'.findClass]; exact q7, q8, fun j hj => by have := q9 j hj; rwa [Nat.zero_add] at this⟩, fun O n d w F n1 n2 => ?_⟩, hl, hc, hs⟩, st⟩
  · intro y hy
    simp only [List.mem_cons, List.not_mem_nil, or_false] at hy
    rcases hy with rfl | rfl <;> rfl
  · by_cases q : y = x
    · subst q
      cases hD.symm.trans hy
      exact ⟨E', q1.1, q2.2.1, q2.1, hsz⟩
    · exact ⟨cy, q10 y cy q hy, rfl, rfl, rfl⟩
  · obtain ⟨D3, cf, k, i, f, g1, g2, g3, g4, g5, g6, g7⟩ := F
    cases hD.symm.trans g1
    simp only [RoadKit.slotOf, g2, gV, gC, Option.map_some, Option.getD_some] at n1 n2
    exact ⟨E', cf, k, i, f, q1.1, g2, g3, by rw [q2.1]; exact g4, by rw [q2.1]; exact g5, by rw [q2.2.1]; exact g6, by rw [q2.2.2 f.slot (by simp [n1, n2])]; exact g7⟩
end StrChars.Road
namespace StrChars.Road
open Jvm Sem ClassFile Op Lib Jvm.Stand Jvm.Free Jvm.Free.XT
/-- WHAT COMES BACK, the byte[] as a list of values -/
def QA (Z : State) (x : Addr) (zn : Int32) (cs : List Int32) (h : Heap) (v : Option Value) (h' : Heap) (L : List Loc) : Prop := v = none ∧ (∀ y ∈ L, y.base = x) ∧ RoadKit.Keep h h' [x] ∧ h'.size = h.size + 1 ∧ RoadKit.Exa Z h' x ST ∧ RoadKit.Fld Z h' x ST "value" "[B" (.ref h.size) ∧ RoadKit.Fld Z h' x ST "coder" "B" (.int 0) ∧
  (∃ kb, Z.vm.findClass "[B" = some kb ∧ RoadKit.Arv Z h' h.size kb .byte zn (cs.map fun c => .int (lo8 c)) (.int 0)) ∧
  ∀ (O n d : String) (w : Value), RoadKit.Fld Z h x O n d w → RoadKit.slotOf Z O n d ≠ RoadKit.slotOf Z ST "value" "[B" → RoadKit.slotOf Z O n d ≠ RoadKit.slotOf Z ST "coder" "B" → RoadKit.Fld Z h' x O n d w
/-- **new String(chars) AT A CALL, THE ARRAYS AS LISTS**: the char[] at b holds cs, not empty, no char above 255 -/
theorem backArv {p : Program} {l : Launch} {e : Env} {R : Room} {s : State} {args : Array Value} {below : List Frame} {len W : Nat} {Z : State} {a0 : Array Value} {h : Heap} (hZ : Z.Warmed39 s.vm) (hw : ∀ d ∈ words, d.before a0 Z = true) {kI : Nat} (wi : (Jvm.Cond.instantiable ST kI).before a0 Z = true)
    {x b : Addr} {k : ClassId} {zn z : Int32} {cs : List Int32} {dv v0 c0 : Value} (E : RoadKit.Exa Z h x ST) (V : RoadKit.Fld Z h x ST "value" "[B" v0) (C : RoadKit.Fld Z h x ST "coder" "B" c0) (K : RoadKit.Arv Z h b k .char zn (cs.map Value.int) dv) (S : RoadKit.Sta Z h ST "COMPACT_STRINGS" "Z" (.int z)) (hz : ¬ z = 0)
    (hlen : zn.toNatClampNeg = cs.length) (h0 : 0 < cs.length) (hbig : cs.length ≤ 536870912) (hall : ∀ c ∈ cs, ¬ 255 < c) (hfr : 4 ≤ R.frames) (hlo : W + 65 ≤ R.locals) :
    Back l R p e below s args New1.yN len W (fun P a => a = #[.ref x, .ref b] ∧ P.U.heap = h ∧ P.cells + 1 ≤ R.cells ∧ P.slots + cs.length ≤ R.slots)
      (fun P _ v B => ∃ L, QA Z x zn cs h v B.U.heap L ∧ B.locs = P.locs ++ L ∧ B.cells = P.cells + 1 ∧ B.slots = P.slots + cs.length) := by
  obtain ⟨A, K1, K2, K3, K4, K5, K6⟩ := K
  have e : A.slots.size = cs.length := K3.trans hlen
  have hat : ∀ (i : Nat) (hi : i < cs.length), A.slots[i]? = some (.int cs[i]) := fun i hi => by rw [K5 i (by omega)]; simp [List.getD_eq_getElem?_getD, hi]
  have hcv : ∀ (i : Nat) (hi : i < cs.length), cv A i = cs[i] := fun i hi => by unfold cv; rw [hat i hi]
  have hty : Typed .char A := fun i v hv => by
    have hi : i < A.slots.size := (Array.getElem?_eq_some_iff.mp hv).1
    have q := K5 i hi
    rw [hv] at q
    rw [Option.some.inj q]
    exact K6 i hi
  refine Back.mono (back hZ hw wi E V C K1 hty S hz (by omega) (by omega) (fun i hi => by rw [hcv i (by omega)]; exact hall _ (List.getElem_mem _)) hfr hlo) (fun P a hp => ⟨hp.1, hp.2.1, hp.2.2.1, by rw [e]; exact hp.2.2.2⟩) (fun P a v B hp hq => ?_)
  obtain ⟨L, ⟨q1, q2, q3, q4, q5, q6, q7, ⟨V', v1, v2, v3, v4, v5⟩, q9⟩, hl, hc, hs⟩ := hq
  refine ⟨L, ⟨q1, q2, q3, q4, q5, q6, q7, ⟨V'.cls, v3, V', v1, rfl, by rw [v4, e, hlen], K4, fun i hi => ?_, fun i hi => ?_⟩, q9⟩, hl, hc, by rw [hs, e]⟩
  · have hi' : i < cs.length := by omega
    rw [v5 i (by omega), hcv i hi']; simp [List.getD_eq_getElem?_getD, hi']
  · have hi' : i < cs.length := by omega
    simp only [List.getD_eq_getElem?_getD, List.getElem?_map, List.getElem?_eq_getElem hi', Option.map_some, Option.getD_some]
    exact fits_lo8 _
end StrChars.Road
namespace StrChars.Road
open Jvm Sem ClassFile Op Lib Jvm.Stand Jvm.Free Jvm.Free.XT
/-- WHAT COMES BACK, in the writer's own shape -/
def QV (Z : State) (x : Addr) (N : Int32) (bs : List Int32) (h : Heap) (n0 : Nat) (v : Option Value) (h' : Heap) (L : List Loc) : Prop := v = none ∧ RoadKit.Fr n0 L ∧ RoadKit.Keep h h' [x] ∧ RoadKit.Exa Z h' x ST ∧ RoadKit.Fld Z h' x ST "coder" "B" (.int 0) ∧
  ∃ (t : Addr) (kb : ClassId), n0 ≤ t ∧ h.size ≤ t ∧ ¬ t = x ∧ RoadKit.Fld Z h' x ST "value" "[B" (.ref t) ∧ RoadKit.Arv Z h' t kb .byte N (bs.map Value.int) (.int 0)
/-- **new String(chars) AT A CALL, FOR THE WRITER**: a char[] of n known ints, each 0 to 255 -/
theorem backV {p : Program} {l : Launch} {e : Env} {R : Room} {s : State} {args : Array Value} {below : List Frame} {len W : Nat} {Z : State} {a0 : Array Value} {h : Heap} (hZ : Z.Warmed39 s.vm) (hw : ∀ d ∈ words, d.before a0 Z = true) {kI : Nat} (wi : (Jvm.Cond.instantiable ST kI).before a0 Z = true)
    {x b : Addr} {kC : ClassId} {cs bs : List Int32} {d v0 c0 : Value} {z N : Int32} {n n0 : Nat} (hx0 : n0 ≤ x) (hh0 : n0 ≤ h.size) (E : RoadKit.Exa Z h x ST) (V : RoadKit.Fld Z h x ST "value" "[B" v0) (C : RoadKit.Fld Z h x ST "coder" "B" c0) (K : RoadKit.Arv Z h b kC .char N (cs.map Value.int) d) (S : RoadKit.Sta Z h ST "COMPACT_STRINGS" "Z" (.int z)) (hz : ¬ z = 0)
    (hn : cs.length = n) (hN : N = Int32.ofNat n) (l0 : 0 < n) (l2 : n ≤ 4000) (hp : ∀ c ∈ cs, ¬ c < 0 ∧ ¬ (255 : Int32) < c) (hb : bs = cs.map (fun c => c.toInt8.toInt32)) (hfr : 4 ≤ R.frames) (hlo : W + 65 ≤ R.locals) :
    Back l R p e below s args (⟨"java/lang/String", "<init>", "([C)V"⟩ : MethodName) len W (fun P a => a = #[.ref x, .ref b] ∧ P.U.heap = h ∧ P.cells + 1 ≤ R.cells ∧ P.slots + n ≤ R.slots)
      (fun P _ v B => ∃ L, QV Z x N bs h n0 v B.U.heap L ∧ B.locs = P.locs ++ L ∧ B.cells = P.cells + 1 ∧ B.slots = P.slots + n) := by
  subst hn hN hb
  refine Back.mono (backArv hZ hw wi E V C K S hz (n32 (by omega)) l0 (by omega) (fun c hc => (hp c hc).2) hfr hlo) (fun P a hp => hp) (fun P a v B hp hq => ?_)
  obtain ⟨L, ⟨q1, q2, q3, q4, q5, q6, q7, ⟨kb, v1, v2⟩, q9⟩, hl, hc, hs⟩ := hq
  exact ⟨L, ⟨q1, fun y hy => by rw [q2 y hy]; exact hx0, q3, q5, q7, h.size, kb, hh0, Nat.le_refl _, Nat.ne_of_gt E.lt, q6, by rw [List.map_map]; exact v2⟩, hl, hc, hs⟩
end StrChars.Road
namespace StrChars
open Jvm Sem ClassFile Op Lib Jvm.Stand Jvm.Free.XT Jvm.Free.ALB Jvm.Free.JM Jvm.Free
open Jvm.Lib.Cold (StaticIs)
def hi8 (x : Int32) : Int32 := lo8 (x >>> ((8 : Int32) &&& 31))
/-- what StringUTF16.getChar makes of two bytes -/
def pairCh (u v : Int32) : Int32 := (((u &&& 255) <<< ((0 : Int32) &&& 31)) ||| ((v &&& 255) <<< ((8 : Int32) &&& 31))).toUInt32.toUInt16.toUInt32.toInt32
theorem lo8_and (x : Int32) : (lo8 x &&& 255).toBitVec.toNat = x.toBitVec.toNat % 256 := by
  have h : (lo8 x).toBitVec = (x.toBitVec.signExtend 8).signExtend 32 := by rw [lo8, Int8.toBitVec_toInt32, Int32.toBitVec_toInt8]
  rw [Int32.toBitVec_and, BitVec.toNat_and, h]
  have e : ((x.toBitVec.signExtend 8).signExtend 32).toNat % 256 = x.toBitVec.toNat % 256 := by
    rw [BitVec.toNat_signExtend]
    have hlt := x.toBitVec.isLt
    simp only [BitVec.toNat_setWidth, BitVec.toNat_signExtend]
    split <;> split <;> omega
  rw [← e]
  exact Nat.and_two_pow_sub_one_eq_mod _ 8
theorem pair_says {c : Int32} (h0 : ¬ c < 0) (h1 : ¬ 65535 < c) : pairCh (lo8 c) (hi8 c) = c := by
  rw [Int32.lt_iff_toInt_lt] at h0 h1
  have e0 : (0 : Int32).toInt = 0 := rfl
  have e1 : (65535 : Int32).toInt = 65535 := rfl
  have hc : c.toInt = c.toBitVec.toNat := by
    have := c.toBitVec.isLt
    have e : c.toInt = c.toBitVec.toInt := rfl
    rw [e] at h0 h1
    rw [e]
    rw [BitVec.toInt_eq_toNat_cond] at h0 h1 ⊢
    split at h0 <;> split <;> omega
  have hn : c.toBitVec.toNat < 65536 := by omega
  have a1 := lo8_and c
  have a2 : (hi8 c &&& 255).toBitVec.toNat = c.toBitVec.toNat / 256 := by
    rw [hi8, lo8_and]
    have e : ((8 : Int32) &&& 31) = 8 := by decide
    rw [e, Int32.toBitVec_shiftRight]
    have e2 : ((8 : Int32).toBitVec.smod 32) = 8#32 := by decide
    rw [e2, BitVec.sshiftRight_eq', BitVec.toNat_sshiftRight_of_msb_false (by rw [BitVec.msb_eq_false_iff_two_mul_lt]; omega)]
    show c.toBitVec.toNat >>> 8 % 256 = _
    rw [Nat.shiftRight_eq_div_pow]
    omega
  unfold pairCh
  apply Int32.toBitVec_inj.mp
  apply BitVec.eq_of_toNat_eq
  have f0 : ((0 : Int32) &&& 31) = 0 := by decide
  have f8 : ((8 : Int32) &&& 31) = 8 := by decide
  rw [f0, f8]
  have g : (((lo8 c &&& 255) <<< (0 : Int32)) ||| ((hi8 c &&& 255) <<< (8 : Int32))).toBitVec.toNat = c.toBitVec.toNat := by
    rw [Int32.toBitVec_or, Int32.toBitVec_shiftLeft, Int32.toBitVec_shiftLeft]
    have s0 : ((0 : Int32).toBitVec.smod 32) = 0#32 := by decide
    have s8 : ((8 : Int32).toBitVec.smod 32) = 8#32 := by decide
    rw [s0, s8, BitVec.toNat_or]
    simp only [BitVec.shiftLeft_eq', BitVec.toNat_shiftLeft, a1, a2]
    show (c.toBitVec.toNat % 256) <<< 0 % 2 ^ 32 ||| (c.toBitVec.toNat / 256) <<< 8 % 2 ^ 32 = _
    rw [Nat.shiftLeft_zero, Nat.mod_eq_of_lt (show c.toBitVec.toNat % 256 < 2 ^ 32 by omega), Nat.mod_eq_of_lt (show (c.toBitVec.toNat / 256) <<< 8 < 2 ^ 32 by rw [Nat.shiftLeft_eq]; omega), Nat.or_comm, ← Nat.shiftLeft_add_eq_or_of_lt (by omega), Nat.shiftLeft_eq]
    omega
  show BitVec.toNat (((((lo8 c &&& 255) <<< (0 : Int32)) ||| ((hi8 c &&& 255) <<< (8 : Int32))).toBitVec.setWidth 16).setWidth 32) = _
  rw [BitVec.toNat_setWidth, BitVec.toNat_setWidth, g]
  omega
end StrChars
namespace StrChars
open Jvm Sem ClassFile Op Lib Jvm.Stand Jvm.Free.XT Jvm.Free.ALB Jvm.Free.JM Jvm.Free
open Jvm.Lib.Cold (StaticIs)
/-- the array's cell V codes the n chars f 0 .. f (n - 1) by the coder cd, as the JDK does: coder 1 just where some char is above 255 -/
def Cod (cd : Int32) (n : Nat) (f : Nat → Int32) (V : Cell) : Prop := (cd = 0 ∧ V.slots.size = n ∧ ∀ j, j < n → V.slots[j]? = some (.int (lo8 (f j))) ∧ ¬ 255 < f j) ∨ (cd = 1 ∧ V.slots.size = 2 * n ∧ (∀ j, j < n → V.slots[2 * j]? = some (.int (lo8 (f j))) ∧ V.slots[2 * j + 1]? = some (.int (hi8 (f j)))) ∧ ∃ j, j < n ∧ 255 < f j)
/-- **x is a String of the n chars f 0 .. f (n - 1)**, Latin-1 or UTF-16; its array at t has the cell V -/
def Txt (x t : Addr) (V : Cell) (cd : Int32) (n : Nat) (f : Nat → Int32) (U : State) : Prop := Exact "java/lang/String" x U ∧ Has x "java/lang/String" "value" "[B" (.ref t) U ∧ Has x "java/lang/String" "coder" "B" (.int cd) U ∧ XT.Arr .byte t V U ∧ Cod cd n f V ∧ ∀ j, j < n → ¬ f j < 0 ∧ ¬ 65535 < f j
theorem Txt.mv {x t : Addr} {V : Cell} {cd : Int32} {n : Nat} {f : Nat → Int32} {U U' : State} (h : Txt x t V cd n f U) (hal : U.vm.Alike U'.vm) (hh : U'.heap = U.heap) : Txt x t V cd n f U' := ⟨h.1.mv hal hh, h.2.1.mv hal hh, h.2.2.1.mv hal hh, h.2.2.2.1.mv hal hh, h.2.2.2.2⟩
end StrChars
namespace StrChars.Road
open Jvm Sem ClassFile Op Lib Jvm.Stand Jvm.Free Jvm.Free.XT
open Jvm.Lib.Cold (StaticIs)
theorem consq {a : Array Value} {s : State} {c : Jvm.Cond} {L : List Jvm.Cond} (h0 : c.before a s = true) (h : ∀ w ∈ L, w.before a s = true) : ∀ w ∈ c :: L, w.before a s = true := fun w hw => (List.mem_cons.mp hw).elim (fun e => e ▸ h0) (h w)
/-- the bytes of the chars cs, low before high -/
def wideBytes : List Int32 → List Value
  | [] => []
  | c :: cs => .int (lo8 c) :: .int (hi8 c) :: wideBytes cs
theorem wide_lo (d : Value) : ∀ (cs : List Int32) (j : Nat), j < cs.length → (wideBytes cs).getD (2 * j) d = .int (lo8 (cs.getD j 0))
  | [], j, h => absurd h (Nat.not_lt_zero j)
  | c :: cs, 0, _ => rfl
  | c :: cs, j + 1, h => by
    have q := wide_lo d cs j (by simpa using h)
    rw [show 2 * (j + 1) = 2 * j + 1 + 1 from by omega]
    simpa [wideBytes] using q
theorem wide_hi (d : Value) : ∀ (cs : List Int32) (j : Nat), j < cs.length → (wideBytes cs).getD (2 * j + 1) d = .int (hi8 (cs.getD j 0))
  | [], j, h => absurd h (Nat.not_lt_zero j)
  | c :: cs, 0, _ => rfl
  | c :: cs, j + 1, h => by
    have q := wide_hi d cs j (by simpa using h)
    rw [show 2 * (j + 1) + 1 = 2 * j + 1 + 1 + 1 from by omega]
    simpa [wideBytes] using q
theorem low_at (d : Value) (cs : List Int32) (j : Nat) (h : j < cs.length) : (cs.map fun c => Value.int (lo8 c)).getD j d = .int (lo8 (cs.getD j 0)) := by
  simp [List.getD_eq_getElem?_getD, h]
/-- an array of N2 bytes vs codes the chars cs by the coder cd -/
def CodA (cs : List Int32) (cd N2 : Int32) (vs : List Value) : Prop := (cd = 0 ∧ N2 = Int32.ofNat cs.length ∧ vs = (cs.map fun c => Value.int (lo8 c)) ∧ ∀ c ∈ cs, ¬ 255 < c) ∨ (cd = 1 ∧ N2 = Int32.ofNat (2 * cs.length) ∧ vs = wideBytes cs ∧ ∃ c ∈ cs, 255 < c)
theorem CodA.cod {cs : List Int32} {cd N2 : Int32} {vs : List Value} {V : Cell} (h : CodA cs cd N2 vs) (hn : 2 * cs.length < 2 ^ 31) (hs : V.slots.size = N2.toNatClampNeg) (hv : RoadKit.Has V vs (.int 0)) : Cod cd cs.length (fun j => cs.getD j 0) V := by
  rcases h with ⟨rfl, rfl, rfl, h⟩ | ⟨rfl, rfl, rfl, c, hc, hw⟩
  · rw [n32 (by omega)] at hs
    exact Or.inl ⟨rfl, hs, fun j hj => ⟨by rw [hv j (by omega), low_at _ _ _ hj], by
      have e : cs.getD j 0 = cs[j] := by simp [List.getD_eq_getElem?_getD, hj]
      show ¬ 255 < cs.getD j 0
      rw [e]; exact h _ (List.getElem_mem _)⟩⟩
  · rw [n32 (by omega)] at hs
    obtain ⟨j, hj, rfl⟩ := List.getElem_of_mem hc
    exact Or.inr ⟨rfl, hs, fun j hj => ⟨by rw [hv _ (by omega), wide_lo _ _ _ hj], by rw [hv _ (by omega), wide_hi _ _ _ hj]⟩, j, hj, by
      have e : cs.getD j 0 = cs[j] := by simp [List.getD_eq_getElem?_getD, hj]
      show 255 < cs.getD j 0
      rw [e]; exact hw⟩
/-- an object of exactly java/lang/String, its two fields found: as the laws ask it -/
theorem strObj {Z U : State} {a0 : Array Value} {kI : Nat} (wi : (Jvm.Cond.instantiable ST kI).before a0 Z = true) (al : Z.vm.Alike U.vm) {x : Addr} {v0 c0 : Value} (E : RoadKit.Exa Z U.heap x ST) (V : RoadKit.Fld Z U.heap x ST "value" "[B" v0) (C : RoadKit.Fld Z U.heap x ST "coder" "B" c0) :
    ∃ (D : Cell) (fV fC : Field), Blank ST x D U ∧ Found ST "value" "[B" fV U ∧ Found ST "coder" "B" fC U ∧ D.slots[fV.slot]? = some v0 ∧ D.slots[fC.slot]? = some c0 ∧ RoadKit.slotOf Z ST "value" "[B" = fV.slot ∧ RoadKit.slotOf Z ST "coder" "B" = fC.slot := by
  obtain ⟨D, cfV, kV, iV, fV, hD, gV, stV, knV, obV, asV, slV⟩ := V
  obtain ⟨D', cfC, kC, iC, fC, hD', gC, stC, -, -, asC, slC⟩ := C
  cases hD.symm.trans hD'
  obtain ⟨D2, kD, e1, e2, e3, e4, e5⟩ := E
  cases hD.symm.trans e1
  obtain ⟨c2, k2, i1, i2, i3, -⟩ := Cond.instantiable_spec wi
  cases e2.symm.trans i1
  cases e3.symm.trans i2
  obtain ⟨kU, u1, u2⟩ := al.2.2 _ _ e3
  exact ⟨D, fV, fC, ⟨hD, ⟨knV, fun q hq => by rw [hq] at obV; cases obV⟩, by rw [al.findClass]; exact e2, kU, u1, by rw [u2]; exact i3, by rw [u2]; exact e5 i3⟩, ⟨SBG.found_only al ⟨cfV, kV, iV, gV⟩, stV⟩, ⟨SBG.found_only al ⟨cfC, kC, iC, gC⟩, stC⟩, slV, slC, by simp [RoadKit.slotOf, gV], by simp [RoadKit.slotOf, gC]⟩
theorem sta_is {Z U : State} (al : Z.vm.Alike U.vm) {C n d : String} {v : Value} (S : RoadKit.Sta Z U.heap C n d v) : StaticIs U C n d v := by
  obtain ⟨cfS, iS, kS, fS, st, cS, t1, t2, t3, t4, t5, t6, t7⟩ := S
  exact StaticIs.there (s := { Z with heap := U.heap }) ⟨cfS, iS, kS, fS, st, cS, t1, t2, t3, t4, t5, (fun q => by rw [q] at t6; cases t6), t7⟩ al rfl
end StrChars.Road
namespace StrChars
open Jvm Sem ClassFile Op Lib Jvm.Stand Jvm.Free.XT Jvm.Free.ALB Jvm.Free.JM Jvm.Free
open Jvm.Lib.Cold (StaticIs)
/-- what place i of a byte[]'s cell holds -/
def yv (A : Cell) (i : Nat) : Int32 := match A.slots[i]? with | some (.int x) => x | _ => 0
theorem yv_get {a : Addr} {A : Cell} {U : State} (h : XT.Arr .byte a A U) (ht : Typed .byte A) {i : Nat} (hi : i < A.slots.size) : A.slots[i]? = some (.int (yv A i)) := by
  have e := Array.getElem?_eq_getElem hi
  have f := ht i _ e
  unfold yv; rw [e]
  generalize A.slots[i] = v at f
  cases v <;> simp [fits] at f ⊢
/-- the two arrays are equal, place for place -/
def EqC (A B : Cell) : Prop := A.slots.size = B.slots.size ∧ ∀ i, i < A.slots.size → yv A i = yv B i
/-- a boolean that says whether p -/
def Says01 (q : Prop) (r : Option Value) (s u : State) : Prop := ∃ v : Int32, r = some (.int v) ∧ u.heap = s.heap ∧ ((v = 1 ∧ q) ∨ (v = 0 ∧ ¬ q))
theorem Says01.mv {q : Prop} : ∀ r (U U' V V' : State), U'.heap = U.heap → V.vm.Alike V'.vm → V'.heap = V.heap → Says01 q r U V → Says01 q r U' V' :=
  fun r U U' V V' h1 _ h2 ⟨v, a, b, c⟩ => ⟨v, a, by rw [h1, h2]; exact b, c⟩
namespace LEq
def yN : MethodName := ⟨"java/lang/StringLatin1", "equals", "([B[B)Z"⟩
abbrev yB : ByteArray := jdk_43_method_13_code
theorem d0 : decode yB 0 = .ok (.aload_n 0, 1) := by decide +kernel
theorem d1 : decode yB 1 = .ok (.arraylength, 1) := by decide +kernel
theorem d2 : decode yB 2 = .ok (.aload_n 1, 1) := by decide +kernel
theorem d3 : decode yB 3 = .ok (.arraylength, 1) := by decide +kernel
theorem d4 : decode yB 4 = .ok (.if_icmp (.ne) 30, 3) := by decide +kernel
theorem d7 : decode yB 7 = .ok (.iconst 0, 1) := by decide +kernel
theorem d8 : decode yB 8 = .ok (.istore_n 2, 1) := by decide +kernel
theorem d9 : decode yB 9 = .ok (.iload_n 2, 1) := by decide +kernel
theorem d10 : decode yB 10 = .ok (.aload_n 0, 1) := by decide +kernel
theorem d11 : decode yB 11 = .ok (.arraylength, 1) := by decide +kernel
theorem d12 : decode yB 12 = .ok (.if_icmp (.ge) 20, 3) := by decide +kernel
theorem d15 : decode yB 15 = .ok (.aload_n 0, 1) := by decide +kernel
theorem d16 : decode yB 16 = .ok (.iload_n 2, 1) := by decide +kernel
theorem d17 : decode yB 17 = .ok (.baload, 1) := by decide +kernel
theorem d18 : decode yB 18 = .ok (.aload_n 1, 1) := by decide +kernel
theorem d19 : decode yB 19 = .ok (.iload_n 2, 1) := by decide +kernel
theorem d20 : decode yB 20 = .ok (.baload, 1) := by decide +kernel
theorem d21 : decode yB 21 = .ok (.if_icmp (.eq) 5, 3) := by decide +kernel
theorem d24 : decode yB 24 = .ok (.iconst 0, 1) := by decide +kernel
theorem d25 : decode yB 25 = .ok (.ireturn, 1) := by decide +kernel
theorem d26 : decode yB 26 = .ok (.iinc 2 1, 3) := by decide +kernel
theorem d29 : decode yB 29 = .ok (.goto (-20), 3) := by decide +kernel
theorem d32 : decode yB 32 = .ok (.iconst 1, 1) := by decide +kernel
theorem d33 : decode yB 33 = .ok (.ireturn, 1) := by decide +kernel
theorem d34 : decode yB 34 = .ok (.iconst 0, 1) := by decide +kernel
theorem d35 : decode yB 35 = .ok (.ireturn, 1) := by decide +kernel
def site : List Cond := []
def tab : Cond := tabOf yN yB 3 (some .boolean) site
def P (a : Addr) (A : Cell) (b : Addr) (B : Cell) (args : Array Value) (s : State) : Prop := args = #[.ref a, .ref b] ∧ XT.Arr .byte a A s ∧ Typed .byte A ∧ XT.Arr .byte b B s ∧ Typed .byte B
/-- whether two byte[] are equal, place for place -/
theorem law (l : Launch) (a : Addr) (A : Cell) (b : Addr) (B : Cell) : Law l yN 2 2 0 0 yB 3 (some .boolean) site (P a A b B) (Says01 (EqC A B)) [] 0 0 := by
  refine Law.of_walk (plainFor_of_name (by decide +kernel)) (by decide +kernel) (by decide +kernel) (by decide) (fun _ _ h => by rw [h.1]; rfl) (fun _ U U' hal hh h => ⟨h.1, h.2.1.mv hal hh, h.2.2.1, h.2.2.2.1.mv hal hh, h.2.2.2.2⟩) (fun r U U' V V' h1 hal h2 h => Says01.mv r U U' V V' h1 hal h2 h) ?_
  intro p e s m args below meth c s₁ X0 hexec hbytes hml hret hlk hnm hown hh0 W hP
  obtain ⟨rfl, hA, tA, hB, tB⟩ := hP
  have a31 := hA.2.2.2
  have b31 := hB.2.2.2
  have hA0 := hA.mv X0.warmed.alike hh0
  have hB0 := hB.mv X0.warmed.alike hh0
  have c1 : Steps p.tables e below (s₁.setTop (entryFrame m #[.ref a, .ref b] 3)) (s₁.setTop (mkF m 0 #[.val (.ref a), .val (.ref b), .unset] [])) := entry rfl
  have c2 : Steps p.tables e below (s₁.setTop (entryFrame m #[.ref a, .ref b] 3)) (s₁.setTop (mkF m 4 #[.val (.ref a), .val (.ref b), .unset] [.int (Int32.ofNat B.slots.size), .int (Int32.ofNat A.slots.size)])) := c1.trans (by
    refine XS.aloadN X0.here hexec rfl (hb hbytes d0) rfl rfl ?_
    refine X0.alen hexec hA0 rfl rfl (hb hbytes d1) ?_
    refine XS.aloadN X0.here hexec rfl (hb hbytes d2) rfl rfl ?_
    refine X0.alen hexec hB0 rfl rfl (hb hbytes d3) ?_
    exact Steps.refl _)
  by_cases hs : A.slots.size = B.slots.size
  · have c3 : Steps p.tables e below (s₁.setTop (entryFrame m #[.ref a, .ref b] 3)) (s₁.setTop (mkF m 9 #[.val (.ref a), .val (.ref b), .val (.int 0)] [])) := c2.trans (by
      refine XS.icmpNo X0.here hexec rfl (hb hbytes d4) rfl (ii_ne_f (by rw [hs])) ?_
      refine iconstV X0.here hexec rfl 0 (hb hbytes d7) (by decide) ?_
      refine XS.istoreN X0.here hexec rfl (hb hbytes d8) rfl rfl ?_
      exact Steps.refl _)
    have loop : ∀ (r i : Nat), i + r = A.slots.size → (∀ j, j < i → yv A j = yv B j) → Steps p.tables e below (s₁.setTop (entryFrame m #[.ref a, .ref b] 3)) (s₁.setTop (mkF m 9 #[.val (.ref a), .val (.ref b), .val (.int (Int32.ofNat i))] [])) → ∃ (pc : Nat) (Ls : Array Slot) (v : Int32), (pc = 25 ∨ pc = 33) ∧ ((v = 1 ∧ EqC A B) ∨ (v = 0 ∧ ¬ EqC A B)) ∧ Steps p.tables e below (s₁.setTop (entryFrame m #[.ref a, .ref b] 3)) (s₁.setTop (mkF m pc Ls [.int v])) := by
      intro r
      induction r with
      | zero =>
        intro i hi he cl
        exact ⟨33, _, 1, Or.inr rfl, Or.inl ⟨rfl, hs, fun j hj => he j (by omega)⟩, cl.trans (by
          refine XS.iloadN X0.here hexec rfl (hb hbytes d9) rfl ?_
          refine XS.aloadN X0.here hexec rfl (hb hbytes d10) rfl rfl ?_
          refine X0.alen hexec hA0 rfl rfl (hb hbytes d11) ?_
          refine XS.icmpYes X0.here hexec rfl (pc0 := 12) rfl (hb hbytes d12) rfl (ii_ge_t (nlt32 (by omega) (by omega))) (by decide) rfl ?_
          refine iconstV X0.here hexec rfl 1 (hb hbytes d32) (by decide) ?_
          exact Steps.refl _)⟩
      | succ r ih =>
        intro i hi he cl
        have c4 : Steps p.tables e below (s₁.setTop (entryFrame m #[.ref a, .ref b] 3)) (s₁.setTop (mkF m 21 #[.val (.ref a), .val (.ref b), .val (.int (Int32.ofNat i))] [.int (yv B i), .int (yv A i)])) := cl.trans (by
          refine XS.iloadN X0.here hexec rfl (hb hbytes d9) rfl ?_
          refine XS.aloadN X0.here hexec rfl (hb hbytes d10) rfl rfl ?_
          refine X0.alen hexec hA0 rfl rfl (hb hbytes d11) ?_
          refine XS.icmpNo X0.here hexec rfl (hb hbytes d12) rfl (ii_ge_f (lt32 (by omega) (by omega))) ?_
          refine XS.aloadN X0.here hexec rfl (hb hbytes d15) rfl rfl ?_
          refine XS.iloadN X0.here hexec rfl (hb hbytes d16) rfl ?_
          refine X0.aget hexec hA0 rfl (yv_get hA tA (i := i) (by omega)) rfl rfl (hb hbytes d17) ?_
          refine XS.aloadN X0.here hexec rfl (hb hbytes d18) rfl rfl ?_
          refine XS.iloadN X0.here hexec rfl (hb hbytes d19) rfl ?_
          refine X0.aget hexec hB0 rfl (yv_get hB tB (i := i) (by omega)) rfl rfl (hb hbytes d20) ?_
          exact Steps.refl _)
        by_cases hv : yv A i = yv B i
        · have c5 : Steps p.tables e below (s₁.setTop (entryFrame m #[.ref a, .ref b] 3)) (s₁.setTop (mkF m 9 #[.val (.ref a), .val (.ref b), .val (.int (Int32.ofNat i + 1))] [])) := c4.trans (by
            refine XS.icmpYes X0.here hexec rfl (pc0 := 21) rfl (hb hbytes d21) rfl (ii_eq_t hv) (by decide) rfl ?_
            refine iincV X0.here hexec rfl 1 (hb hbytes d26) (by decide) rfl rfl ?_
            refine XS.goto X0.here hexec rfl (pc0 := 29) rfl (hb hbytes d29) (by decide) rfl ?_
            exact Steps.refl _)
          rw [succ32] at c5
          exact ih (i + 1) (by omega) (fun j hj => by
            by_cases e : j = i
            · rw [e]; exact hv
            · exact he j (by omega)) c5
        · exact ⟨25, _, 0, Or.inl rfl, Or.inr ⟨rfl, fun q => hv (q.2 i (by omega))⟩, c4.trans (by
            refine XS.icmpNo X0.here hexec rfl (hb hbytes d21) rfl (ii_eq_f hv) ?_
            refine iconstV X0.here hexec rfl 0 (hb hbytes d24) (by decide) ?_
            exact Steps.refl _)⟩
    obtain ⟨pc, Ls, v, hpc, hv, cz⟩ := loop A.slots.size 0 (by omega) (fun j hj => absurd hj (Nat.not_lt_zero j)) c3
    have nv : narrow .boolean (.int v) = .int v := by rcases hv with ⟨rfl, -⟩ | ⟨rfl, -⟩ <;> rfl
    rcases hpc with rfl | rfl
    · exact ⟨s₁, some (.int v), _, _, _, X0, rfl, rfl, rfl, (fun h => by cases h), ⟨v, rfl, hh0, hv⟩, fun fs hl => cz.trans (X0.ireturnOut hexec hret nv (Or.inr (Or.inl rfl)) (hb hbytes d25) hl)⟩
    · exact ⟨s₁, some (.int v), _, _, _, X0, rfl, rfl, rfl, (fun h => by cases h), ⟨v, rfl, hh0, hv⟩, fun fs hl => cz.trans (X0.ireturnOut hexec hret nv (Or.inr (Or.inl rfl)) (hb hbytes d33) hl)⟩
  · have c3 : Steps p.tables e below (s₁.setTop (entryFrame m #[.ref a, .ref b] 3)) (s₁.setTop (mkF m 35 #[.val (.ref a), .val (.ref b), .unset] [.int 0])) := c2.trans (by
      refine XS.icmpYes X0.here hexec rfl (pc0 := 4) rfl (hb hbytes d4) rfl (ii_ne_t (ne32 a31 b31 hs)) (by decide) rfl ?_
      refine iconstV X0.here hexec rfl 0 (hb hbytes d34) (by decide) ?_
      exact Steps.refl _)
    exact ⟨s₁, some (.int 0), _, _, _, X0, rfl, rfl, rfl, (fun h => by cases h), ⟨0, rfl, hh0, Or.inr ⟨rfl, fun q => hs q.1⟩⟩, fun fs hl => c3.trans (X0.ireturnOut hexec hret rfl (Or.inr (Or.inl rfl)) (hb hbytes d35) hl)⟩
end LEq
theorem Cod.ty {cd : Int32} {n : Nat} {f : Nat → Int32} {V : Cell} (h : Cod cd n f V) : Typed .byte V := fun i v hv => by
  have hi : i < V.slots.size := (Array.getElem?_eq_some_iff.mp hv).1
  rcases h with ⟨-, k1, k2⟩ | ⟨-, k1, k2, -⟩
  · rw [(k2 i (by omega)).1] at hv; cases hv; exact fits_lo8 _
  · rcases Nat.mod_two_eq_zero_or_one i with e | e
    · obtain ⟨j, rfl⟩ : ∃ j, i = 2 * j := ⟨i / 2, by omega⟩
      rw [(k2 j (by omega)).1] at hv; cases hv; exact fits_lo8 _
    · obtain ⟨j, rfl⟩ : ∃ j, i = 2 * j + 1 := ⟨i / 2, by omega⟩
      rw [(k2 j (by omega)).2] at hv; cases hv; exact fits_lo8 _
/-- the same text -/
def SameT (n : Nat) (f : Nat → Int32) (k : Nat) (g : Nat → Int32) : Prop := n = k ∧ ∀ j, j < n → f j = g j
theorem lo8_inj {x y : Int32} (h0 : ¬ x < 0) (h1 : ¬ 255 < x) (k0 : ¬ y < 0) (k1 : ¬ 255 < y) (h : lo8 x = lo8 y) : x = y := by
  rw [← lo8_mask h0 h1, ← lo8_mask k0 k1, h]
/-- arrays coded by one coder are equal just where the texts are -/
theorem Cod.eqv {cd : Int32} {n k : Nat} {f g : Nat → Int32} {V V' : Cell} (h : Cod cd n f V) (h' : Cod cd k g V') (hf : ∀ j, j < n → ¬ f j < 0 ∧ ¬ 65535 < f j) (hg : ∀ j, j < k → ¬ g j < 0 ∧ ¬ 65535 < g j) : EqC V V' ↔ SameT n f k g := by
  have yvv : ∀ {W : Cell} {i : Nat} {x : Int32}, W.slots[i]? = some (.int x) → yv W i = x := fun q => by unfold yv; rw [q]
  rcases h with ⟨rfl, k1, k2⟩ | ⟨rfl, k1, k2, -⟩
  · rcases h' with ⟨-, m1, m2⟩ | ⟨e, -⟩
    · constructor
      · rintro ⟨e1, e2⟩
        refine ⟨by omega, fun j hj => ?_⟩
        have q := e2 j (by omega)
        rw [yvv (k2 j hj).1, yvv (m2 j (by omega)).1] at q
        exact lo8_inj (hf j hj).1 (k2 j hj).2 (hg j (by omega)).1 (m2 j (by omega)).2 q
      · rintro ⟨rfl, e2⟩
        refine ⟨by omega, fun j hj => ?_⟩
        rw [yvv (k2 j (by omega)).1, yvv (m2 j (by omega)).1, e2 j (by omega)]
    · exact absurd e (by decide)
  · rcases h' with ⟨e, -⟩ | ⟨-, m1, m2, -⟩
    · exact absurd e (by decide)
    · constructor
      · rintro ⟨e1, e2⟩
        refine ⟨by omega, fun j hj => ?_⟩
        have q1 := e2 (2 * j) (by omega)
        have q2 := e2 (2 * j + 1) (by omega)
        rw [yvv (k2 j hj).1, yvv (m2 j (by omega)).1] at q1
        rw [yvv (k2 j hj).2, yvv (m2 j (by omega)).2] at q2
        rw [← pair_says (hf j hj).1 (hf j hj).2, ← pair_says (hg j (by omega)).1 (hg j (by omega)).2, q1, q2]
      · rintro ⟨rfl, e2⟩
        refine ⟨by omega, fun i hi => ?_⟩
        rcases Nat.mod_two_eq_zero_or_one i with e | e
        · obtain ⟨j, rfl⟩ : ∃ j, i = 2 * j := ⟨i / 2, by omega⟩
          rw [yvv (k2 j (by omega)).1, yvv (m2 j (by omega)).1, e2 j (by omega)]
        · obtain ⟨j, rfl⟩ : ∃ j, i = 2 * j + 1 := ⟨i / 2, by omega⟩
          rw [yvv (k2 j (by omega)).2, yvv (m2 j (by omega)).2, e2 j (by omega)]
/-- two codings differ: so do the texts -/
theorem Cod.dif {cd cd' : Int32} {n k : Nat} {f g : Nat → Int32} {V V' : Cell} (h : Cod cd n f V) (h' : Cod cd' k g V') (hne : ¬ cd = cd') : ¬ SameT n f k g := by
  rintro ⟨rfl, e⟩
  rcases h with ⟨rfl, -, k2⟩ | ⟨rfl, -, -, j, hj, hw⟩
  · rcases h' with ⟨rfl, -⟩ | ⟨-, -, -, j, hj, hw⟩
    · exact hne rfl
    · exact (k2 j hj).2 (by rw [e j hj]; exact hw)
  · rcases h' with ⟨-, -, m2⟩ | ⟨rfl, -⟩
    · exact (m2 j hj).2 (by rw [← e j hj]; exact hw)
    · exact hne rfl
/-- an object of exactly C is an instance of C -/
theorem cinst {p : Program} {l : Launch} {e : Env} {R : Room} {s : State} {m : MethodId} {args : Array Value} {below : List Frame} {meth : Method} {c : Code} {T : State} {locs : List Loc} {cells slots : Nat} (X : Stand p l e R s m args below meth c T locs cells slots) (hexec : p.tables.exec = Jvm.exec) {own C : String} {index : Nat} (hown : s.vm.findClass own = some m.cls) (hlink : (Cond.classLink own index C).before args s = true) {a : Addr} (hE : Exact C a T)
    {g : JFrame} (hg : g.method = m) {rest : List Value} (hstack : g.stack = .ref a :: rest) (hdg : decode c.code g.pc = .ok (.instanceof index, 3)) :
    ∃ T', Stand p l e R s m args below meth c T' locs cells slots ∧ T'.heap = T.heap ∧ ∀ target, Steps p.tables e below (T'.setTop { g with pc := g.pc + 3, stack := .int 1 :: rest }) target → Steps p.tables e below (T.setTop g) target := by
  obtain ⟨cB, h1, D, h2, h3, h4⟩ := hE
  have h1' : s.vm.findClass C = some cB := by rw [← X.warmed.alike.findClass]; exact h1
  obtain ⟨vm', X', st⟩ := X.instanceofYes hexec hown hlink h2 h4 h1' (by rw [h3]; exact Jvm.Free.SB.assignable_self _ _) hg hstack hdg
  exact ⟨_, X', rfl, st⟩
theorem cself {p : Program} {l : Launch} {e : Env} {R : Room} {s : State} {m : MethodId} {args : Array Value} {below : List Frame} {meth : Method} {c : Code} {T : State} {locs : List Loc} {cells slots : Nat} (X : Stand p l e R s m args below meth c T locs cells slots) (hexec : p.tables.exec = Jvm.exec) {own C : String} {index : Nat} (hown : s.vm.findClass own = some m.cls) (hlink : (Cond.classLink own index C).before args s = true) {a : Addr} (hE : Exact C a T)
    {g : JFrame} (hg : g.method = m) {rest : List Value} (hstack : g.stack = .ref a :: rest) (hdg : decode c.code g.pc = .ok (.checkcast index, 3)) :
    ∃ T', Stand p l e R s m args below meth c T' locs cells slots ∧ T'.heap = T.heap ∧ ∀ target, Steps p.tables e below (T'.setTop { g with pc := g.pc + 3, stack := .ref a :: rest }) target → Steps p.tables e below (T.setTop g) target := by
  obtain ⟨cB, h1, D, h2, h3, h4⟩ := hE
  have h1' : s.vm.findClass C = some cB := by rw [← X.warmed.alike.findClass]; exact h1
  obtain ⟨vm', X', st⟩ := X.checkcastYes hexec hown hlink h2 h4 h1' (by rw [h3]; exact Jvm.Free.SB.assignable_self _ _) hg hstack hdg
  exact ⟨_, X', rfl, fun t h => st t (by rw [← hstack] at h; exact h)⟩
namespace SEq
def yN : MethodName := ⟨"java/lang/String", "equals", "(Ljava/lang/Object;)Z"⟩
abbrev yB : ByteArray := jdk_42_method_66_code
theorem d0 : decode yB 0 = .ok (.aload_n 0, 1) := by decide +kernel
theorem d1 : decode yB 1 = .ok (.aload_n 1, 1) := by decide +kernel
theorem d2 : decode yB 2 = .ok (.if_acmp (.ne) 5, 3) := by decide +kernel
theorem d5 : decode yB 5 = .ok (.iconst 1, 1) := by decide +kernel
theorem d6 : decode yB 6 = .ok (.ireturn, 1) := by decide +kernel
theorem d7 : decode yB 7 = .ok (.aload_n 1, 1) := by decide +kernel
theorem d8 : decode yB 8 = .ok (.instanceof 10, 3) := by decide +kernel
theorem d11 : decode yB 11 = .ok (.ifCond (.eq) 43, 3) := by decide +kernel
theorem d14 : decode yB 14 = .ok (.aload_n 1, 1) := by decide +kernel
theorem d15 : decode yB 15 = .ok (.checkcast 10, 3) := by decide +kernel
theorem d18 : decode yB 18 = .ok (.astore_n 2, 1) := by decide +kernel
theorem d19 : decode yB 19 = .ok (.getstatic 38, 3) := by decide +kernel
theorem d22 : decode yB 22 = .ok (.ifCond (.eq) 14, 3) := by decide +kernel
theorem d25 : decode yB 25 = .ok (.aload_n 0, 1) := by decide +kernel
theorem d26 : decode yB 26 = .ok (.getfield 15, 3) := by decide +kernel
theorem d29 : decode yB 29 = .ok (.aload_n 2, 1) := by decide +kernel
theorem d30 : decode yB 30 = .ok (.getfield 15, 3) := by decide +kernel
theorem d33 : decode yB 33 = .ok (.if_icmp (.ne) 21, 3) := by decide +kernel
theorem d36 : decode yB 36 = .ok (.aload_n 0, 1) := by decide +kernel
theorem d37 : decode yB 37 = .ok (.getfield 9, 3) := by decide +kernel
theorem d40 : decode yB 40 = .ok (.aload_n 2, 1) := by decide +kernel
theorem d41 : decode yB 41 = .ok (.getfield 9, 3) := by decide +kernel
theorem d44 : decode yB 44 = .ok (.invokestatic 541, 3) := by decide +kernel
theorem d47 : decode yB 47 = .ok (.ifCond (.eq) 7, 3) := by decide +kernel
theorem d50 : decode yB 50 = .ok (.iconst 1, 1) := by decide +kernel
theorem d51 : decode yB 51 = .ok (.goto 4, 3) := by decide +kernel
theorem d54 : decode yB 54 = .ok (.iconst 0, 1) := by decide +kernel
theorem d55 : decode yB 55 = .ok (.ireturn, 1) := by decide +kernel
def site : List Cond := [.classLink "java/lang/String" 10 "java/lang/String", .fieldLink "java/lang/String" 38 "java/lang/String" "COMPACT_STRINGS" "Z", .fieldLink "java/lang/String" 15 "java/lang/String" "coder" "B", .fieldLink "java/lang/String" 9 "java/lang/String" "value" "[B", LEq.tab] ++ staticW "java/lang/String" 541 LEq.yN
def tab : Cond := tabOf yN yB 3 (some .boolean) site
def P (x t : Addr) (V : Cell) (cd : Int32) (n : Nat) (f : Nat → Int32) (y t' : Addr) (V' : Cell) (cd' : Int32) (k : Nat) (g : Nat → Int32) (z : Int32) (args : Array Value) (s : State) : Prop := args = #[.ref x, .ref y] ∧ Txt x t V cd n f s ∧ Txt y t' V' cd' k g s ∧ StaticIs s "java/lang/String" "COMPACT_STRINGS" "Z" (.int z) ∧ ¬ z = 0
/-- equals(Object) of two Strings: whether the texts are the same -/
theorem law (l : Launch) (x t : Addr) (V : Cell) (cd : Int32) (n : Nat) (f : Nat → Int32) (y t' : Addr) (V' : Cell) (cd' : Int32) (k : Nat) (g : Nat → Int32) (z : Int32) : Law l yN 2 1 1 14 yB 3 (some .boolean) site (P x t V cd n f y t' V' cd' k g z) (Says01 (SameT n f k g)) [] 0 0 := by
  refine Law.of_walk (plainFor_of_name (by decide +kernel)) (by decide +kernel) (by decide +kernel) (by decide) (fun _ _ h => by rw [h.1]; rfl) (fun _ U U' hal hh h => ⟨h.1, h.2.1.mv hal hh, h.2.2.1.mv hal hh, h.2.2.2.1.there hal hh, h.2.2.2.2⟩) (fun r U U' V V' h1 hal h2 h => Says01.mv r U U' V V' h1 hal h2 h) ?_
  intro p e s m args below meth c s₁ X0 hexec hbytes hml hret hlk hnm hown hh0 W hP
  obtain ⟨rfl, hx, hy, s1, hz⟩ := hP
  have c1 : Steps p.tables e below (s₁.setTop (entryFrame m #[.ref x, .ref y] 3)) (s₁.setTop (mkF m 2 #[.val (.ref x), .val (.ref y), .unset] [.ref y, .ref x])) := Steps.trans (entry rfl) (by
    show Steps p.tables e below (s₁.setTop (mkF m 0 #[.val (.ref x), .val (.ref y), .unset] [])) _
    refine XS.aloadN X0.here hexec rfl (hb hbytes d0) rfl rfl ?_
    refine XS.aloadN X0.here hexec rfl (hb hbytes d1) rfl rfl ?_
    exact Steps.refl _)
  by_cases hxy : x = y
  · have c2 : Steps p.tables e below (s₁.setTop (entryFrame m #[.ref x, .ref y] 3)) (s₁.setTop (mkF m 6 #[.val (.ref x), .val (.ref y), .unset] [.int 1])) := c1.trans (by
      refine acmpNo X0.here hexec rfl (hb hbytes d2) rfl rfl rfl (by simp [acmp, hxy]) ?_
      refine iconstV X0.here hexec rfl 1 (hb hbytes d5) (by decide) ?_
      exact Steps.refl _)
    subst hxy
    have ec : cd = cd' := by
      obtain ⟨D, fd, a1, a2, a3⟩ := hx.2.2.1
      obtain ⟨D', fd', b1, b2, b3⟩ := hy.2.2.1
      cases a1.symm.trans b1
      obtain ⟨q1, q2, q3, q4⟩ := a2.1
      obtain ⟨r1, r2, r3, r4⟩ := b2.1
      cases q4.symm.trans r4
      cases a3.symm.trans b3; rfl
    have et : t = t' := by
      obtain ⟨D, fd, a1, a2, a3⟩ := hx.2.1
      obtain ⟨D', fd', b1, b2, b3⟩ := hy.2.1
      cases a1.symm.trans b1
      obtain ⟨q1, q2, q3, q4⟩ := a2.1
      obtain ⟨r1, r2, r3, r4⟩ := b2.1
      cases q4.symm.trans r4
      cases a3.symm.trans b3; rfl
    subst ec et
    have ev : V = V' := by cases hx.2.2.2.1.1.symm.trans hy.2.2.2.1.1; rfl
    subst ev
    have hs : SameT n f k g := (Cod.eqv hx.2.2.2.2.1 hy.2.2.2.2.1 hx.2.2.2.2.2 hy.2.2.2.2.2).mp ⟨rfl, fun _ _ => rfl⟩
    exact ⟨s₁, some (.int 1), _, _, _, X0, rfl, rfl, rfl, (fun h => by cases h), ⟨1, rfl, hh0, Or.inl ⟨rfl, hs⟩⟩, fun fs hl => c2.trans (X0.ireturnOut hexec hret rfl (Or.inr (Or.inl rfl)) (hb hbytes d6) hl)⟩
  · have c2 : Steps p.tables e below (s₁.setTop (entryFrame m #[.ref x, .ref y] 3)) (s₁.setTop (mkF m 8 #[.val (.ref x), .val (.ref y), .unset] [.ref y])) := c1.trans (by
      refine acmpYes X0.here hexec rfl (pc0 := 2) rfl (hb hbytes d2) rfl rfl rfl (by simp [acmp, hxy]) (by decide) rfl ?_
      refine XS.aloadN X0.here hexec rfl (hb hbytes d7) rfl rfl ?_
      exact Steps.refl _)
    obtain ⟨T3, X3, q3, st3⟩ := cinst X0 hexec hown (wk W (.classLink "java/lang/String" 10 "java/lang/String")) (hy.mv X0.warmed.alike hh0).1 (g := (mkF m 8 #[.val (.ref x), .val (.ref y), .unset] [.ref y])) rfl (rest := []) rfl (hb hbytes d8)
    have hh3 := q3.trans hh0
    have c4 : Steps p.tables e below (s₁.setTop (entryFrame m #[.ref x, .ref y] 3)) (T3.setTop (mkF m 15 #[.val (.ref x), .val (.ref y), .unset] [.ref y])) := (c2.trans (st3 _ (Steps.refl _))).trans (by
      refine XS.ifNo X3.here hexec rfl (hb hbytes d11) rfl (i0_eq_f (by decide)) ?_
      refine XS.aloadN X3.here hexec rfl (hb hbytes d14) rfl rfl ?_
      exact Steps.refl _)
    obtain ⟨T5, X5, q5, st5⟩ := cself X3 hexec hown (wk W (.classLink "java/lang/String" 10 "java/lang/String")) (hy.mv X3.warmed.alike hh3).1 (g := (mkF m 15 #[.val (.ref x), .val (.ref y), .unset] [.ref y])) rfl (rest := []) rfl (hb hbytes d15)
    have hh5 := q5.trans hh3
    have c6 : Steps p.tables e below (s₁.setTop (entryFrame m #[.ref x, .ref y] 3)) (T5.setTop (mkF m 19 #[.val (.ref x), .val (.ref y), .val (.ref y)] [])) := (c4.trans (st5 _ (Steps.refl _))).trans (by
      refine XS.astoreN X5.here hexec rfl (hb hbytes d18) rfl rfl rfl ?_
      exact Steps.refl _)
    obtain ⟨T7, X7, q7, st7⟩ := X5.sget hexec hown (wk W (.fieldLink "java/lang/String" 38 "java/lang/String" "COMPACT_STRINGS" "Z")) s1 (fun _ _ h => by rw [hh5]; exact h) (g := (mkF m 19 #[.val (.ref x), .val (.ref y), .val (.ref y)] [])) rfl (hb hbytes d19)
    have hh7 := q7.trans hh5
    have c8 : Steps p.tables e below (s₁.setTop (entryFrame m #[.ref x, .ref y] 3)) (T7.setTop (mkF m 26 #[.val (.ref x), .val (.ref y), .val (.ref y)] [.ref x])) := (c6.trans (st7 _ (Steps.refl _))).trans (by
      refine XS.ifNo X7.here hexec rfl (hb hbytes d22) rfl (i0_eq_f hz) ?_
      refine XS.aloadN X7.here hexec rfl (hb hbytes d25) rfl rfl ?_
      exact Steps.refl _)
    obtain ⟨T9, X9, q9, st9⟩ := X7.hget hexec hown (wk W (.fieldLink "java/lang/String" 15 "java/lang/String" "coder" "B")) (hx.mv X7.warmed.alike hh7).2.2.1 (g := (mkF m 26 #[.val (.ref x), .val (.ref y), .val (.ref y)] [.ref x])) rfl (rest := []) rfl (hb hbytes d26)
    have hh9 := q9.trans hh7
    have c10 : Steps p.tables e below (s₁.setTop (entryFrame m #[.ref x, .ref y] 3)) (T9.setTop (mkF m 30 #[.val (.ref x), .val (.ref y), .val (.ref y)] [.ref y, .int cd])) := (c8.trans (st9 _ (Steps.refl _))).trans (by
      refine XS.aloadN X9.here hexec rfl (hb hbytes d29) rfl rfl ?_
      exact Steps.refl _)
    obtain ⟨T11, X11, q11, st11⟩ := X9.hget hexec hown (wk W (.fieldLink "java/lang/String" 15 "java/lang/String" "coder" "B")) (hy.mv X9.warmed.alike hh9).2.2.1 (g := (mkF m 30 #[.val (.ref x), .val (.ref y), .val (.ref y)] [.ref y, .int cd])) rfl (rest := [.int cd]) rfl (hb hbytes d30)
    have hh11 := q11.trans hh9
    have c12 : Steps p.tables e below (s₁.setTop (entryFrame m #[.ref x, .ref y] 3)) (T11.setTop (mkF m 33 #[.val (.ref x), .val (.ref y), .val (.ref y)] [.int cd', .int cd])) := c10.trans (st11 _ (Steps.refl _))
    by_cases hcd : cd = cd'
    · subst hcd
      have c13 : Steps p.tables e below (s₁.setTop (entryFrame m #[.ref x, .ref y] 3)) (T11.setTop (mkF m 37 #[.val (.ref x), .val (.ref y), .val (.ref y)] [.ref x])) := c12.trans (by
        refine XS.icmpNo X11.here hexec rfl (hb hbytes d33) rfl (ii_ne_f rfl) ?_
        refine XS.aloadN X11.here hexec rfl (hb hbytes d36) rfl rfl ?_
        exact Steps.refl _)
      obtain ⟨T14, X14, q14, st14⟩ := X11.hget hexec hown (wk W (.fieldLink "java/lang/String" 9 "java/lang/String" "value" "[B")) (hx.mv X11.warmed.alike hh11).2.1 (g := (mkF m 37 #[.val (.ref x), .val (.ref y), .val (.ref y)] [.ref x])) rfl (rest := []) rfl (hb hbytes d37)
      have hh14 := q14.trans hh11
      have c15 : Steps p.tables e below (s₁.setTop (entryFrame m #[.ref x, .ref y] 3)) (T14.setTop (mkF m 41 #[.val (.ref x), .val (.ref y), .val (.ref y)] [.ref y, .ref t])) := (c13.trans (st14 _ (Steps.refl _))).trans (by
        refine XS.aloadN X14.here hexec rfl (hb hbytes d40) rfl rfl ?_
        exact Steps.refl _)
      obtain ⟨T16, X16, q16, st16⟩ := X14.hget hexec hown (wk W (.fieldLink "java/lang/String" 9 "java/lang/String" "value" "[B")) (hy.mv X14.warmed.alike hh14).2.1 (g := (mkF m 41 #[.val (.ref x), .val (.ref y), .val (.ref y)] [.ref y, .ref t])) rfl (rest := [.ref t]) rfl (hb hbytes d41)
      have hh16 := q16.trans hh14
      have c17 : Steps p.tables e below (s₁.setTop (entryFrame m #[.ref x, .ref y] 3)) (T16.setTop (mkF m 44 #[.val (.ref x), .val (.ref y), .val (.ref y)] [.ref t', .ref t])) := c15.trans (st16 _ (Steps.refl _))
      obtain ⟨v18, T18, X18, E18, g18⟩ := X16.callS hexec (LEq.law l t V t' V') hown (wks W (staticW "java/lang/String" 541 LEq.yN)) (wk W LEq.tab) (W := 0) (Nat.le_of_ble_eq_true rfl) (Nat.le_of_ble_eq_true rfl) (Nat.le_refl _) (Nat.le_refl _) (g := (mkF m 44 #[.val (.ref x), .val (.ref y), .val (.ref y)] [.ref t', .ref t])) rfl (by rw [hml]; rfl) c17 (argsL := [.ref t, .ref t']) (rest := []) rfl rfl (by show 2 * 0 + 0 ≤ _; decide) (hb hbytes d44) (⟨rfl, hx.2.2.2.1.mv X16.warmed.alike hh16, hx.2.2.2.2.1.ty, hy.2.2.2.1.mv X16.warmed.alike hh16, hy.2.2.2.2.1.ty⟩)
      obtain ⟨v, rfl, q18, hv⟩ := E18
      have iff := Cod.eqv hx.2.2.2.2.1 hy.2.2.2.2.1 hx.2.2.2.2.2 hy.2.2.2.2.2
      rcases hv with ⟨rfl, he⟩ | ⟨rfl, he⟩
      · have c19 : Steps p.tables e below (s₁.setTop (entryFrame m #[.ref x, .ref y] 3)) (T18.setTop (mkF m 55 #[.val (.ref x), .val (.ref y), .val (.ref y)] [.int 1])) := Steps.trans g18 (by
          refine XS.ifNo X18.here hexec rfl (hb hbytes d47) rfl (i0_eq_f (by decide)) ?_
          refine iconstV X18.here hexec rfl 1 (hb hbytes d50) (by decide) ?_
          refine XS.goto X18.here hexec rfl (pc0 := 51) rfl (hb hbytes d51) (by decide) rfl ?_
          exact Steps.refl _)
        exact ⟨T18, some (.int 1), _, _, _, X18, rfl, rfl, rfl, (fun h => by cases h), ⟨1, rfl, q18.trans hh16, Or.inl ⟨rfl, iff.mp he⟩⟩, fun fs hl => c19.trans (X18.ireturnOut hexec hret rfl (Or.inr (Or.inl rfl)) (hb hbytes d55) hl)⟩
      · have c19 : Steps p.tables e below (s₁.setTop (entryFrame m #[.ref x, .ref y] 3)) (T18.setTop (mkF m 55 #[.val (.ref x), .val (.ref y), .val (.ref y)] [.int 0])) := Steps.trans g18 (by
          refine XS.ifYes X18.here hexec rfl (pc0 := 47) rfl (hb hbytes d47) rfl (i0_eq_t rfl) (by decide) rfl ?_
          refine iconstV X18.here hexec rfl 0 (hb hbytes d54) (by decide) ?_
          exact Steps.refl _)
        exact ⟨T18, some (.int 0), _, _, _, X18, rfl, rfl, rfl, (fun h => by cases h), ⟨0, rfl, q18.trans hh16, Or.inr ⟨rfl, fun q => he (iff.mpr q)⟩⟩, fun fs hl => c19.trans (X18.ireturnOut hexec hret rfl (Or.inr (Or.inl rfl)) (hb hbytes d55) hl)⟩
    · have c13 : Steps p.tables e below (s₁.setTop (entryFrame m #[.ref x, .ref y] 3)) (T11.setTop (mkF m 55 #[.val (.ref x), .val (.ref y), .val (.ref y)] [.int 0])) := c12.trans (by
        refine XS.icmpYes X11.here hexec rfl (pc0 := 33) rfl (hb hbytes d33) rfl (ii_ne_t hcd) (by decide) rfl ?_
        refine iconstV X11.here hexec rfl 0 (hb hbytes d54) (by decide) ?_
        exact Steps.refl _)
      exact ⟨T11, some (.int 0), _, _, _, X11, rfl, rfl, rfl, (fun h => by cases h), ⟨0, rfl, hh11, Or.inr ⟨rfl, Cod.dif hx.2.2.2.2.1 hy.2.2.2.2.1 hcd⟩⟩, fun fs hl => c13.trans (X11.ireturnOut hexec hret rfl (Or.inr (Or.inl rfl)) (hb hbytes d55) hl)⟩
theorem pays {l : Launch} {R : Room} {p : Program} {e : Env} {below : List Frame} {s : State} {sargs : Array Value} {len W : Nat} (x t : Addr) (V : Cell) (cd : Int32) (n : Nat) (f : Nat → Int32) (y t' : Addr) (V' : Cell) (cd' : Int32) (k : Nat) (g : Nat → Int32) (z : Int32) (htab : tab.before sargs s = true) (hfr : 2 ≤ R.frames) (hlo : W + 28 ≤ R.locals) :
    Back l R p e below s sargs yN len W (fun A₁ a₁ => A₁.cells + 0 ≤ R.cells ∧ A₁.slots + 0 ≤ R.slots ∧ P x t V cd n f y t' V' cd' k g z a₁ A₁.U) (fun A₁ _ v₁ B₁ => Says01 (SameT n f k g) v₁ A₁.U B₁.U ∧ B₁.locs = A₁.locs ++ [] ∧ B₁.cells = A₁.cells + 0 ∧ B₁.slots = A₁.slots + 0) :=
  (law l x t V cd n f y t' V' cd' k g z).pays htab hfr (by omega)
end SEq
end StrChars
namespace StrChars.Road
open Jvm Sem ClassFile Op Lib Jvm.Stand Jvm.Free Jvm.Free.XT
open Jvm.Lib.Cold (StaticIs)
/-- the words of String.equals(Object) -/
abbrev wordsEq : List Jvm.Cond := [.code SEq.yN SEq.yB 3 (some .boolean), .initialized ST, .classLink ST 10 ST, .fieldLink ST 38 ST "COMPACT_STRINGS" "Z", .fieldLink ST 15 ST "coder" "B", .fieldLink ST 9 ST "value" "[B", .methodLink ST 541 LEq.yN, .static LEq.yN, .code LEq.yN LEq.yB 3 (some .boolean), .initialized "java/lang/StringLatin1"]
theorem tabEq_of {a : Array Value} {s : State} (h : ∀ w ∈ wordsEq, w.before a s = true) : SEq.tab.before a s = true := by
  have hl : LEq.tab.before a s = true := unparts (wk h (.code LEq.yN LEq.yB 3 (some .boolean))) (wks h (.initialized LEq.yN.cls :: LEq.site))
  have q := consq hl h
  exact unparts (wk q (.code SEq.yN SEq.yB 3 (some .boolean))) (wks q (.initialized SEq.yN.cls :: SEq.site))
theorem movedEq {Z s : State} {a0 args : Array Value} (hZ : Z.Warmed39 s.vm) (hw : ∀ d ∈ wordsEq, d.before a0 Z = true) : ∀ d ∈ wordsEq, d.before args s = true := fun d hd => by
  have t : ∀ d ∈ wordsEq, (d.onTables && d.keepsFace) = true := by decide +kernel
  exact RoadKit.mv hZ (hw d hd) (t d hd)
/-- the road's facts of a String, as the laws ask it -/
theorem txt_of {Z U : State} {a0 : Array Value} {kI : Nat} (wi : (Jvm.Cond.instantiable ST kI).before a0 Z = true) (al : Z.vm.Alike U.vm) {x t : Addr} {kb : ClassId} {cs : List Int32} {cd N2 : Int32} {vs : List Value} (E : RoadKit.Exa Z U.heap x ST) (V : RoadKit.Fld Z U.heap x ST "value" "[B" (.ref t)) (C : RoadKit.Fld Z U.heap x ST "coder" "B" (.int cd)) (K : RoadKit.Arv Z U.heap t kb .byte N2 vs (.int 0)) (hc : CodA cs cd N2 vs) (hb : ∀ c ∈ cs, ¬ c < 0 ∧ ¬ (65535 : Int32) < c) (l2 : cs.length ≤ 4000) :
    ∃ A, Txt x t A cd cs.length (fun j => cs.getD j 0) U := by
  obtain ⟨A, K1, K2, K3, K4, K5, K6⟩ := K
  have hcod := hc.cod (by omega) K3 K5
  obtain ⟨D, fV, fC, hB, F1, F2, g1, g2, -, -⟩ := strObj wi al E V C
  exact ⟨A, ⟨_, hB.2.2.1, D, hB.1, rfl, by cases q : D.vm <;> first | rfl | exact absurd q (hB.2.1.2 _)⟩, Has.of hB F1 g1, Has.of hB F2 g2, ⟨K1.1, State.isArrayOf_alike al K1.2.1, K1.2.2, by rcases hcod with ⟨-, q, -⟩ | ⟨-, q, -⟩ <;> omega⟩, hcod, fun j hj => by
    have e : cs.getD j 0 = cs[j] := by simp [List.getD_eq_getElem?_getD, hj]
    show ¬ cs.getD j 0 < 0 ∧ ¬ 65535 < cs.getD j 0
    rw [e]; exact hb _ (List.getElem_mem _)⟩
theorem same_list (cs ds : List Int32) : SameT cs.length (fun j => cs.getD j 0) ds.length (fun j => ds.getD j 0) ↔ cs = ds := by
  constructor
  · rintro ⟨e, q⟩
    refine List.ext_getElem e fun j h1 h2 => ?_
    have := q j h1
    simpa [List.getD_eq_getElem?_getD, h1, h2] using this
  · rintro rfl
    exact ⟨rfl, fun _ _ => rfl⟩
/-- **equals(Object) OF TWO SUCH STRINGS**: 1 just where the chars are the same -/
theorem eqW {p : Program} {l : Launch} {e : Env} {R : Room} {s : State} {args : Array Value} {below : List Frame} {len W : Nat} {Z : State} {a0 : Array Value} {h : Heap} (hZ : Z.Warmed39 s.vm) (hw : ∀ d ∈ wordsEq, d.before a0 Z = true) {kI : Nat} (wi : (Jvm.Cond.instantiable ST kI).before a0 Z = true)
    {x t : Addr} {kb : ClassId} {cs : List Int32} {cd N2 : Int32} {vs : List Value} (E : RoadKit.Exa Z h x ST) (V : RoadKit.Fld Z h x ST "value" "[B" (.ref t)) (C : RoadKit.Fld Z h x ST "coder" "B" (.int cd)) (K : RoadKit.Arv Z h t kb .byte N2 vs (.int 0)) (hc : CodA cs cd N2 vs) (hb : ∀ c ∈ cs, ¬ c < 0 ∧ ¬ (65535 : Int32) < c) (l2 : cs.length ≤ 4000)
    {y t' : Addr} {kb' : ClassId} {ds : List Int32} {cd' N2' : Int32} {vs' : List Value} (E' : RoadKit.Exa Z h y ST) (V' : RoadKit.Fld Z h y ST "value" "[B" (.ref t')) (C' : RoadKit.Fld Z h y ST "coder" "B" (.int cd')) (K' : RoadKit.Arv Z h t' kb' .byte N2' vs' (.int 0)) (hc' : CodA ds cd' N2' vs') (hb' : ∀ c ∈ ds, ¬ c < 0 ∧ ¬ (65535 : Int32) < c) (l2' : ds.length ≤ 4000)
    {z : Int32} (S : RoadKit.Sta Z h ST "COMPACT_STRINGS" "Z" (.int z)) (hz : ¬ z = 0) (hfr : 2 ≤ R.frames) (hlo : W + 28 ≤ R.locals) :
    Back l R p e below s args (⟨"java/lang/String", "equals", "(Ljava/lang/Object;)Z"⟩ : MethodName) len W (fun P a => a = #[.ref x, .ref y] ∧ P.U.heap = h ∧ P.cells + 0 ≤ R.cells ∧ P.slots + 0 ≤ R.slots)
      (fun P _ v B => ∃ L, (((v = some (.int 1) ∧ cs = ds) ∨ (v = some (.int 0) ∧ ¬ cs = ds)) ∧ L = [] ∧ B.U.heap = h) ∧ B.locs = P.locs ++ L ∧ B.cells = P.cells + 0 ∧ B.slots = P.slots + 0) := by
  intro m meth c P g ig mk a X hg hsize hdg hW hn hp'
  obtain ⟨rfl, rfl, r1, r2⟩ := hp'
  have al : Z.vm.Alike P.U.vm := hZ.alike.trans X.warmed.alike
  obtain ⟨A, hx⟩ := txt_of wi al E V C K hc hb l2
  obtain ⟨A', hy⟩ := txt_of wi al E' V' C' K' hc' hb' l2'
  obtain ⟨v, B, X', ⟨⟨w, hv, hh, hq⟩, hl, hk, hs⟩, st⟩ := SEq.pays x t A cd cs.length (fun j => cs.getD j 0) y t' A' cd' ds.length (fun j => ds.getD j 0) z (tabEq_of (movedEq hZ hw)) hfr hlo m meth c P g ig mk _ X hg hsize hdg hW hn ⟨r1, r2, rfl, hx, hy, sta_is al S, hz⟩
  refine ⟨v, B, X', ⟨[], ⟨?_, rfl, hh⟩, hl, hk, hs⟩, st⟩
  rcases hq with ⟨rfl, q⟩ | ⟨rfl, q⟩
  · exact Or.inl ⟨hv, (same_list cs ds).mp q⟩
  · exact Or.inr ⟨hv, fun e => q ((same_list cs ds).mpr e)⟩
end StrChars.Road
namespace StrChars.Road
open Jvm Sem ClassFile Op Lib Jvm.Stand Jvm.Free Jvm.Free.XT
open Jvm.Lib.Cold (StaticIs)
/-- what backV says of its String, as the contracts of this text ask it: cs's low bytes, coder 0 -/
theorem codOf {cs : List Int32} {n : Nat} (hn : cs.length = n) (hb : ∀ c ∈ cs, ¬ 255 < c) : CodA cs 0 (Int32.ofNat n) ((cs.map lo8).map Value.int) := Or.inl ⟨rfl, by rw [hn], by simp [List.map_map, Function.comp_def], hb⟩
end StrChars.Road
end Jvm.Pilot.@@N@@

namespace Jvm.Pilot.@@N@@
open Jvm Jvm.ClassFile Sem Op Lib Jvm.Free Jvm.Stand Jvm.LawKit Jvm.RoadKit Bundle Jvm.Pilot.@@N@@.Jvm.D
/-- what is left of a walk: from the frame f of T the run comes to its end, where Qe holds -/
def own_Rest (p : Program) (e : Env) (below : List Frame) (Qe : Outcome → State → Prop) (T : State) (f : JFrame) : Prop :=
  ∃ s₂ o, Steps p.tables e below (T.setTop f) s₂ ∧ s₂.status = .running ∧ Ended s₂ below o ∧ Qe o s₂
abbrev own_S (p : Program) (e : Env) (below : List Frame) (T : State) (f : JFrame) (t : State) : Prop := Steps p.tables e below (T.setTop f) t
theorem own_by {p : Program} {e : Env} {below : List Frame} {Qe : Outcome → State → Prop} {T T' : State} {f f' : JFrame}
    (h : ∀ t, Steps p.tables e below (T'.setTop f') t → Steps p.tables e below (T.setTop f) t) (k : own_Rest p e below Qe T' f') : own_Rest p e below Qe T f := by
  obtain ⟨s₂, o, h1, h2⟩ := k
  exact ⟨s₂, o, h _ h1, h2⟩
theorem own_at {p : Program} {e : Env} {below : List Frame} {Qe : Outcome → State → Prop} {T : State} {f f' : JFrame}
    (h : ∀ {t}, Steps p.tables e below (T.setTop f') t → Steps p.tables e below (T.setTop f) t) (k : own_Rest p e below Qe T f') :
    ∃ s₂ o, Steps p.tables e below (T.setTop f) s₂ ∧ s₂.status = .running ∧ Ended s₂ below o ∧ Qe o s₂ := by
  obtain ⟨s₂, o, h1, h2⟩ := k
  exact ⟨s₂, o, h h1, h2⟩
theorem own_c255 (x : Int32) : ¬ (x &&& (255 : Int32)).toUInt32.toUInt16.toUInt32.toInt32 < 0 ∧ ¬ (255 : Int32) < (x &&& (255 : Int32)).toUInt32.toUInt16.toUInt32.toInt32 := by
  have h1 := c_mask x 255 8 (by decide) (by decide)
  have h2 := c_i2c (x &&& (255 : Int32))
  simp only [Int32.lt_iff_toInt_lt, Int32.reduceToInt]
  omega
theorem own_narc {z : Int32} (h : ¬ z < 0 ∧ ¬ (255 : Int32) < z) : nar .char z = z := by
  have h2 := c_i2c z
  obtain ⟨h3, h4⟩ := h
  simp only [Int32.lt_iff_toInt_lt, Int32.reduceToInt] at h3 h4
  have e : (nar .char z).toInt = z.toInt := by
    show z.toUInt32.toUInt16.toUInt32.toInt32.toInt = z.toInt
    omega
  exact Int32.toInt_inj.mp e
theorem own_nrb {z : Int32} (h : z = 0 ∨ z = 1) : narrow .boolean (.int z) = .int z := by rcases h with rfl | rfl <;> rfl
theorem own_ftb {z : Int32} (h : z = 0 ∨ z = 1) : fits .boolean (.int z) = true := by rcases h with rfl | rfl <;> rfl
theorem own_eqi {t : Term} {n : Int32} {args : Array Value} {Z : State} (h : (Jvm.Cond.eq t (.int n)).value args Z none Z [] = some true) : t.eval args Z none [] Z = some (.int n) := by
  obtain ⟨x, y, h1, h2, h3, -⟩ := cmp_v (Or.inl h)
  have e : y = .int n := (Option.some.inj h2).symm
  subst e
  cases x <;> simp [Kin, Value.isRef] at h3
  rename_i z
  have : z = n := by simpa [Cond.value, h1, Term.eval] using h
  rw [h1, this]
theorem own_fld {t : Term} {n : Int32} {args : Array Value} {Z : State} {a : Addr} {C f d : String} (ev : t.eval args Z none [] Z = some (.ref a)) (h : (Jvm.Cond.eq (.field t C f d) (.int n)).value args Z none Z [] = some true) : Fld Z Z.heap a C f d (.int n) :=
  Fld.start ((fld_at ev).symm.trans (own_eqi h))
theorem own_nb {z : Int32} (h : z = 0 ∨ z = 1) : nar .boolean z = z := by rcases h with rfl | rfl <;> rfl
abbrev own_ARRIINU (x0 : Addr) (x1 : Addr) (x2 : Int32) (x3 : Int32) : Array Slot := #[.val (.ref x0), .val (.ref x1), .val (.int x2), .val (.int x3), .val .null, .unset]
abbrev own_AIIIIII (x0 : Int32) (x1 : Int32) (x2 : Int32) (x3 : Int32) (x4 : Int32) (x5 : Int32) : Array Slot := #[.val (.int x0), .val (.int x1), .val (.int x2), .val (.int x3), .val (.int x4), .val (.int x5)]
abbrev own_AIIIIIUUUUUUUUUUUUUUUUUUUU (x0 : Int32) (x1 : Int32) (x2 : Int32) (x3 : Int32) (x4 : Int32) : Array Slot := #[.val (.int x0), .val (.int x1), .val (.int x2), .val (.int x3), .val (.int x4), .unset, .unset, .unset, .unset, .unset, .unset, .unset, .unset, .unset, .unset, .unset, .unset, .unset, .unset, .unset, .unset, .unset, .unset, .unset, .unset]
abbrev own_AIIIIIIUUUUUUUUUUUUUUUUUUU (x0 : Int32) (x1 : Int32) (x2 : Int32) (x3 : Int32) (x4 : Int32) (x5 : Int32) : Array Slot := #[.val (.int x0), .val (.int x1), .val (.int x2), .val (.int x3), .val (.int x4), .val (.int x5), .unset, .unset, .unset, .unset, .unset, .unset, .unset, .unset, .unset, .unset, .unset, .unset, .unset, .unset, .unset, .unset, .unset, .unset, .unset]
abbrev own_AIIIIIIIUUUUUUUUUUUUUUUUUU (x0 : Int32) (x1 : Int32) (x2 : Int32) (x3 : Int32) (x4 : Int32) (x5 : Int32) (x6 : Int32) : Array Slot := #[.val (.int x0), .val (.int x1), .val (.int x2), .val (.int x3), .val (.int x4), .val (.int x5), .val (.int x6), .unset, .unset, .unset, .unset, .unset, .unset, .unset, .unset, .unset, .unset, .unset, .unset, .unset, .unset, .unset, .unset, .unset, .unset]
abbrev own_AIIIIIIIIUUUUUUUUUUUUUUUUU (x0 : Int32) (x1 : Int32) (x2 : Int32) (x3 : Int32) (x4 : Int32) (x5 : Int32) (x6 : Int32) (x7 : Int32) : Array Slot := #[.val (.int x0), .val (.int x1), .val (.int x2), .val (.int x3), .val (.int x4), .val (.int x5), .val (.int x6), .val (.int x7), .unset, .unset, .unset, .unset, .unset, .unset, .unset, .unset, .unset, .unset, .unset, .unset, .unset, .unset, .unset, .unset, .unset]
abbrev own_AIIIIIIIIIUUUUUUUUUUUUUUUU (x0 : Int32) (x1 : Int32) (x2 : Int32) (x3 : Int32) (x4 : Int32) (x5 : Int32) (x6 : Int32) (x7 : Int32) (x8 : Int32) : Array Slot := #[.val (.int x0), .val (.int x1), .val (.int x2), .val (.int x3), .val (.int x4), .val (.int x5), .val (.int x6), .val (.int x7), .val (.int x8), .unset, .unset, .unset, .unset, .unset, .unset, .unset, .unset, .unset, .unset, .unset, .unset, .unset, .unset, .unset, .unset]
abbrev own_AIIIIIIIIIIUUUUUUUUUUUUUUU (x0 : Int32) (x1 : Int32) (x2 : Int32) (x3 : Int32) (x4 : Int32) (x5 : Int32) (x6 : Int32) (x7 : Int32) (x8 : Int32) (x9 : Int32) : Array Slot := #[.val (.int x0), .val (.int x1), .val (.int x2), .val (.int x3), .val (.int x4), .val (.int x5), .val (.int x6), .val (.int x7), .val (.int x8), .val (.int x9), .unset, .unset, .unset, .unset, .unset, .unset, .unset, .unset, .unset, .unset, .unset, .unset, .unset, .unset, .unset]
abbrev own_AIIIIIIIIIIIUUUUUUUUUUUUUU (x0 : Int32) (x1 : Int32) (x2 : Int32) (x3 : Int32) (x4 : Int32) (x5 : Int32) (x6 : Int32) (x7 : Int32) (x8 : Int32) (x9 : Int32) (x10 : Int32) : Array Slot := #[.val (.int x0), .val (.int x1), .val (.int x2), .val (.int x3), .val (.int x4), .val (.int x5), .val (.int x6), .val (.int x7), .val (.int x8), .val (.int x9), .val (.int x10), .unset, .unset, .unset, .unset, .unset, .unset, .unset, .unset, .unset, .unset, .unset, .unset, .unset, .unset]
abbrev own_AIIIIIIIIIIIIUUUUUUUUUUUUU (x0 : Int32) (x1 : Int32) (x2 : Int32) (x3 : Int32) (x4 : Int32) (x5 : Int32) (x6 : Int32) (x7 : Int32) (x8 : Int32) (x9 : Int32) (x10 : Int32) (x11 : Int32) : Array Slot := #[.val (.int x0), .val (.int x1), .val (.int x2), .val (.int x3), .val (.int x4), .val (.int x5), .val (.int x6), .val (.int x7), .val (.int x8), .val (.int x9), .val (.int x10), .val (.int x11), .unset, .unset, .unset, .unset, .unset, .unset, .unset, .unset, .unset, .unset, .unset, .unset, .unset]
abbrev own_AIIIIIIIIIIIIIUUUUUUUUUUUU (x0 : Int32) (x1 : Int32) (x2 : Int32) (x3 : Int32) (x4 : Int32) (x5 : Int32) (x6 : Int32) (x7 : Int32) (x8 : Int32) (x9 : Int32) (x10 : Int32) (x11 : Int32) (x12 : Int32) : Array Slot := #[.val (.int x0), .val (.int x1), .val (.int x2), .val (.int x3), .val (.int x4), .val (.int x5), .val (.int x6), .val (.int x7), .val (.int x8), .val (.int x9), .val (.int x10), .val (.int x11), .val (.int x12), .unset, .unset, .unset, .unset, .unset, .unset, .unset, .unset, .unset, .unset, .unset, .unset]
abbrev own_AIIIIIIIIIIIIIIUUUUUUUUUUU (x0 : Int32) (x1 : Int32) (x2 : Int32) (x3 : Int32) (x4 : Int32) (x5 : Int32) (x6 : Int32) (x7 : Int32) (x8 : Int32) (x9 : Int32) (x10 : Int32) (x11 : Int32) (x12 : Int32) (x13 : Int32) : Array Slot := #[.val (.int x0), .val (.int x1), .val (.int x2), .val (.int x3), .val (.int x4), .val (.int x5), .val (.int x6), .val (.int x7), .val (.int x8), .val (.int x9), .val (.int x10), .val (.int x11), .val (.int x12), .val (.int x13), .unset, .unset, .unset, .unset, .unset, .unset, .unset, .unset, .unset, .unset, .unset]
abbrev own_AIIIIIIIIIIIIIIIUUUUUUUUUU (x0 : Int32) (x1 : Int32) (x2 : Int32) (x3 : Int32) (x4 : Int32) (x5 : Int32) (x6 : Int32) (x7 : Int32) (x8 : Int32) (x9 : Int32) (x10 : Int32) (x11 : Int32) (x12 : Int32) (x13 : Int32) (x14 : Int32) : Array Slot := #[.val (.int x0), .val (.int x1), .val (.int x2), .val (.int x3), .val (.int x4), .val (.int x5), .val (.int x6), .val (.int x7), .val (.int x8), .val (.int x9), .val (.int x10), .val (.int x11), .val (.int x12), .val (.int x13), .val (.int x14), .unset, .unset, .unset, .unset, .unset, .unset, .unset, .unset, .unset, .unset]
abbrev own_AIIIIIIIIIIIIIIIIUUUUUUUUU (x0 : Int32) (x1 : Int32) (x2 : Int32) (x3 : Int32) (x4 : Int32) (x5 : Int32) (x6 : Int32) (x7 : Int32) (x8 : Int32) (x9 : Int32) (x10 : Int32) (x11 : Int32) (x12 : Int32) (x13 : Int32) (x14 : Int32) (x15 : Int32) : Array Slot := #[.val (.int x0), .val (.int x1), .val (.int x2), .val (.int x3), .val (.int x4), .val (.int x5), .val (.int x6), .val (.int x7), .val (.int x8), .val (.int x9), .val (.int x10), .val (.int x11), .val (.int x12), .val (.int x13), .val (.int x14), .val (.int x15), .unset, .unset, .unset, .unset, .unset, .unset, .unset, .unset, .unset]
abbrev own_AIIIIIIIIIIIIIIIIIUUUUUUUU (x0 : Int32) (x1 : Int32) (x2 : Int32) (x3 : Int32) (x4 : Int32) (x5 : Int32) (x6 : Int32) (x7 : Int32) (x8 : Int32) (x9 : Int32) (x10 : Int32) (x11 : Int32) (x12 : Int32) (x13 : Int32) (x14 : Int32) (x15 : Int32) (x16 : Int32) : Array Slot := #[.val (.int x0), .val (.int x1), .val (.int x2), .val (.int x3), .val (.int x4), .val (.int x5), .val (.int x6), .val (.int x7), .val (.int x8), .val (.int x9), .val (.int x10), .val (.int x11), .val (.int x12), .val (.int x13), .val (.int x14), .val (.int x15), .val (.int x16), .unset, .unset, .unset, .unset, .unset, .unset, .unset, .unset]
abbrev own_AIIIIIIIIIIIIIIIIIRUUUUUUU (x0 : Int32) (x1 : Int32) (x2 : Int32) (x3 : Int32) (x4 : Int32) (x5 : Int32) (x6 : Int32) (x7 : Int32) (x8 : Int32) (x9 : Int32) (x10 : Int32) (x11 : Int32) (x12 : Int32) (x13 : Int32) (x14 : Int32) (x15 : Int32) (x16 : Int32) (x17 : Addr) : Array Slot := #[.val (.int x0), .val (.int x1), .val (.int x2), .val (.int x3), .val (.int x4), .val (.int x5), .val (.int x6), .val (.int x7), .val (.int x8), .val (.int x9), .val (.int x10), .val (.int x11), .val (.int x12), .val (.int x13), .val (.int x14), .val (.int x15), .val (.int x16), .val (.ref x17), .unset, .unset, .unset, .unset, .unset, .unset, .unset]
abbrev own_AIIIIIIIIIIIIIIIIIRRUUUUUU (x0 : Int32) (x1 : Int32) (x2 : Int32) (x3 : Int32) (x4 : Int32) (x5 : Int32) (x6 : Int32) (x7 : Int32) (x8 : Int32) (x9 : Int32) (x10 : Int32) (x11 : Int32) (x12 : Int32) (x13 : Int32) (x14 : Int32) (x15 : Int32) (x16 : Int32) (x17 : Addr) (x18 : Addr) : Array Slot := #[.val (.int x0), .val (.int x1), .val (.int x2), .val (.int x3), .val (.int x4), .val (.int x5), .val (.int x6), .val (.int x7), .val (.int x8), .val (.int x9), .val (.int x10), .val (.int x11), .val (.int x12), .val (.int x13), .val (.int x14), .val (.int x15), .val (.int x16), .val (.ref x17), .val (.ref x18), .unset, .unset, .unset, .unset, .unset, .unset]
abbrev own_AIIIIIIIIIIIIIIIIIRRRUUUUU (x0 : Int32) (x1 : Int32) (x2 : Int32) (x3 : Int32) (x4 : Int32) (x5 : Int32) (x6 : Int32) (x7 : Int32) (x8 : Int32) (x9 : Int32) (x10 : Int32) (x11 : Int32) (x12 : Int32) (x13 : Int32) (x14 : Int32) (x15 : Int32) (x16 : Int32) (x17 : Addr) (x18 : Addr) (x19 : Addr) : Array Slot := #[.val (.int x0), .val (.int x1), .val (.int x2), .val (.int x3), .val (.int x4), .val (.int x5), .val (.int x6), .val (.int x7), .val (.int x8), .val (.int x9), .val (.int x10), .val (.int x11), .val (.int x12), .val (.int x13), .val (.int x14), .val (.int x15), .val (.int x16), .val (.ref x17), .val (.ref x18), .val (.ref x19), .unset, .unset, .unset, .unset, .unset]
abbrev own_AIIIIIIIIIIIIIIIIIRRRRUUUU (x0 : Int32) (x1 : Int32) (x2 : Int32) (x3 : Int32) (x4 : Int32) (x5 : Int32) (x6 : Int32) (x7 : Int32) (x8 : Int32) (x9 : Int32) (x10 : Int32) (x11 : Int32) (x12 : Int32) (x13 : Int32) (x14 : Int32) (x15 : Int32) (x16 : Int32) (x17 : Addr) (x18 : Addr) (x19 : Addr) (x20 : Addr) : Array Slot := #[.val (.int x0), .val (.int x1), .val (.int x2), .val (.int x3), .val (.int x4), .val (.int x5), .val (.int x6), .val (.int x7), .val (.int x8), .val (.int x9), .val (.int x10), .val (.int x11), .val (.int x12), .val (.int x13), .val (.int x14), .val (.int x15), .val (.int x16), .val (.ref x17), .val (.ref x18), .val (.ref x19), .val (.ref x20), .unset, .unset, .unset, .unset]
abbrev own_AIIIIIIIIIIIIIIIIIRRRRRUUU (x0 : Int32) (x1 : Int32) (x2 : Int32) (x3 : Int32) (x4 : Int32) (x5 : Int32) (x6 : Int32) (x7 : Int32) (x8 : Int32) (x9 : Int32) (x10 : Int32) (x11 : Int32) (x12 : Int32) (x13 : Int32) (x14 : Int32) (x15 : Int32) (x16 : Int32) (x17 : Addr) (x18 : Addr) (x19 : Addr) (x20 : Addr) (x21 : Addr) : Array Slot := #[.val (.int x0), .val (.int x1), .val (.int x2), .val (.int x3), .val (.int x4), .val (.int x5), .val (.int x6), .val (.int x7), .val (.int x8), .val (.int x9), .val (.int x10), .val (.int x11), .val (.int x12), .val (.int x13), .val (.int x14), .val (.int x15), .val (.int x16), .val (.ref x17), .val (.ref x18), .val (.ref x19), .val (.ref x20), .val (.ref x21), .unset, .unset, .unset]
abbrev own_AIIIIIIIIIIIIIIIIIRRRRRIUU (x0 : Int32) (x1 : Int32) (x2 : Int32) (x3 : Int32) (x4 : Int32) (x5 : Int32) (x6 : Int32) (x7 : Int32) (x8 : Int32) (x9 : Int32) (x10 : Int32) (x11 : Int32) (x12 : Int32) (x13 : Int32) (x14 : Int32) (x15 : Int32) (x16 : Int32) (x17 : Addr) (x18 : Addr) (x19 : Addr) (x20 : Addr) (x21 : Addr) (x22 : Int32) : Array Slot := #[.val (.int x0), .val (.int x1), .val (.int x2), .val (.int x3), .val (.int x4), .val (.int x5), .val (.int x6), .val (.int x7), .val (.int x8), .val (.int x9), .val (.int x10), .val (.int x11), .val (.int x12), .val (.int x13), .val (.int x14), .val (.int x15), .val (.int x16), .val (.ref x17), .val (.ref x18), .val (.ref x19), .val (.ref x20), .val (.ref x21), .val (.int x22), .unset, .unset]
abbrev own_AIIIIIIIIIIIIIIIIIRRRRRIRU (x0 : Int32) (x1 : Int32) (x2 : Int32) (x3 : Int32) (x4 : Int32) (x5 : Int32) (x6 : Int32) (x7 : Int32) (x8 : Int32) (x9 : Int32) (x10 : Int32) (x11 : Int32) (x12 : Int32) (x13 : Int32) (x14 : Int32) (x15 : Int32) (x16 : Int32) (x17 : Addr) (x18 : Addr) (x19 : Addr) (x20 : Addr) (x21 : Addr) (x22 : Int32) (x23 : Addr) : Array Slot := #[.val (.int x0), .val (.int x1), .val (.int x2), .val (.int x3), .val (.int x4), .val (.int x5), .val (.int x6), .val (.int x7), .val (.int x8), .val (.int x9), .val (.int x10), .val (.int x11), .val (.int x12), .val (.int x13), .val (.int x14), .val (.int x15), .val (.int x16), .val (.ref x17), .val (.ref x18), .val (.ref x19), .val (.ref x20), .val (.ref x21), .val (.int x22), .val (.ref x23), .unset]
abbrev own_AIIIIIIIIIIIIIIIIIRRRRRIRI (x0 : Int32) (x1 : Int32) (x2 : Int32) (x3 : Int32) (x4 : Int32) (x5 : Int32) (x6 : Int32) (x7 : Int32) (x8 : Int32) (x9 : Int32) (x10 : Int32) (x11 : Int32) (x12 : Int32) (x13 : Int32) (x14 : Int32) (x15 : Int32) (x16 : Int32) (x17 : Addr) (x18 : Addr) (x19 : Addr) (x20 : Addr) (x21 : Addr) (x22 : Int32) (x23 : Addr) (x24 : Int32) : Array Slot := #[.val (.int x0), .val (.int x1), .val (.int x2), .val (.int x3), .val (.int x4), .val (.int x5), .val (.int x6), .val (.int x7), .val (.int x8), .val (.int x9), .val (.int x10), .val (.int x11), .val (.int x12), .val (.int x13), .val (.int x14), .val (.int x15), .val (.int x16), .val (.ref x17), .val (.ref x18), .val (.ref x19), .val (.ref x20), .val (.ref x21), .val (.int x22), .val (.ref x23), .val (.int x24)]
def own_Str (Z : State) (h : Heap) (a : Addr) (cs : List Int32) : Prop := ∃ (t : Addr) (kb : ClassId) (cd N : Int32) (vs : List Value), Exa Z h a "java/lang/String" ∧ Fld Z h a "java/lang/String" "value" "[B" (.ref t) ∧ Fld Z h a "java/lang/String" "coder" "B" (.int cd) ∧ Arv Z h t kb .byte N vs (.int 0) ∧ StrChars.Road.CodA cs cd N vs ∧ (∀ c ∈ cs, ¬ c < 0 ∧ ¬ (65535 : Int32) < c) ∧ cs.length ≤ 4000
theorem own_Str.ext {Z : State} {h h' : Heap} {a : Addr} {cs : List Int32} (F : own_Str Z h a cs) (E : Ext h h') : own_Str Z h' a cs := by
  obtain ⟨t, kb, cd, N, vs, h1, h2, h3, h4, r⟩ := F
  exact ⟨t, kb, cd, N, vs, h1.ext E, h2.ext E, h3.ext E, h4.ext E, r⟩
theorem own_Str.exa {Z : State} {h : Heap} {a : Addr} {cs : List Int32} (F : own_Str Z h a cs) : Exa Z h a "java/lang/String" := by obtain ⟨_, _, _, _, _, h1, -⟩ := F; exact h1
theorem own_Str.lt {Z : State} {h : Heap} {a : Addr} {cs : List Int32} (F : own_Str Z h a cs) : a < h.size := F.exa.lt
theorem own_kx {h h' : Heap} (K : Keep h h' []) : Ext h h' := ⟨K.1, fun x c q => K.2.1 x c q List.not_mem_nil⟩
theorem own_Str.keepX {Z : State} {h h' : Heap} {a x : Addr} {cs : List Int32} {C : String} {a0 : Array Value} {k : Nat} (F : own_Str Z h a cs) (K : Keep h h' [x]) (E : Exa Z h x C) (hC : C ≠ "java/lang/String") (wi : (Jvm.Cond.instantiable C k).before a0 Z = true) : own_Str Z h' a cs := by
  obtain ⟨t, kb, cd, N, vs, h1, h2, h3, h4, r⟩ := F
  have n1 : a ∉ [x] := fun q => (E.ne h1 hC) (List.mem_singleton.mp q).symm
  have n2 : t ∉ [x] := fun q => (E.neArv h4 wi) (List.mem_singleton.mp q).symm
  exact ⟨t, kb, cd, N, vs, h1.keep K, h2.keep K n1, h3.keep K n1, h4.keep K n2, r⟩
theorem own_Str.keepA {Z : State} {h h' : Heap} {a x : Addr} {cs : List Int32} {k : ClassId} {z : Int32} {us : List Value} {d : Value} {a0 : Array Value} {kI : Nat} (F : own_Str Z h a cs) (K : Keep h h' [x]) (A : Arv Z h x k .char z us d) (wi : (Jvm.Cond.instantiable "java/lang/String" kI).before a0 Z = true) : own_Str Z h' a cs := by
  obtain ⟨t, kb, cd, N, vs, h1, h2, h3, h4, r⟩ := F
  have n1 : a ∉ [x] := fun q => (h1.neArv A wi) (List.mem_singleton.mp q)
  have n2 : t ∉ [x] := fun q => by
    rw [List.mem_singleton.mp q] at h4
    obtain ⟨c, A1, -⟩ := A
    obtain ⟨c2, A2, -⟩ := h4
    cases A1.1.symm.trans A2.1
    obtain ⟨-, kA, hkA, comp, hkind⟩ := A1.2.1
    obtain ⟨-, kB, hkB, compB, hkindB⟩ := A2.2.1
    cases hkA.symm.trans hkB
    rw [hkind] at hkindB; cases hkindB
  exact ⟨t, kb, cd, N, vs, h1.keep K, h2.keep K n1, h3.keep K n1, h4.keep K n2, r⟩
theorem own_up (cs : List Int32) (h : ∀ c ∈ cs, ¬ c < 0 ∧ ¬ (255 : Int32) < c) : ∀ c ∈ cs, ¬ c < 0 ∧ ¬ (65535 : Int32) < c := fun c hc => ⟨(h c hc).1, fun q => (h c hc).2 (by rw [Int32.lt_iff_toInt_lt] at q ⊢; have e1 : (65535 : Int32).toInt = 65535 := rfl; have e2 : (255 : Int32).toInt = 255 := rfl; omega)⟩
theorem own_eqv {v : Option Value} {cs ds : List Int32} (h : (v = some (.int 1) ∧ cs = ds) ∨ (v = some (.int 0) ∧ ¬ cs = ds)) : v = some (.int (if cs = ds then (1 : Int32) else (0 : Int32))) := by
  rcases h with ⟨h, q⟩ | ⟨h, q⟩ <;> rw [h]
  · rw [if_pos q]
  · rw [if_neg q]
theorem own_if1 {P : Prop} [Decidable P] {c : Int32} (h : c = if P then (1 : Int32) else (0 : Int32)) (q : ¬ c = 0) : P := by
  by_cases p : P
  · exact p
  · rw [if_neg p] at h; exact absurd h q
theorem own_if0 {P : Prop} [Decidable P] {c : Int32} (h : c = if P then (1 : Int32) else (0 : Int32)) (q : c = 0) : ¬ P := by
  intro p; rw [if_pos p] at h; rw [h] at q; exact absurd q (by decide)
theorem own_safe0 {Z : State} {EL : List (String × Nat)} {vm : Vm} {h : Heap} {x : Addr} {a0 : Array Value} {k : Nat} (hal : Z.vm.Alike vm) (E : Exa Z h x "java/lang/String") (F : Fld Z h x "java/lang/String" "value" "[B" .null) (wi : (Jvm.Cond.instantiable "java/lang/String" k).before a0 Z = true) : Safe Z EL vm h x := fun B => by
  obtain ⟨p, -, u, a, -, q, -, G, rfl | rfl⟩ := B
  · obtain ⟨cell, cf, kk, i, f, e1, e2, e3, -, -, -, e7⟩ := F
    cases (show h[q.sa]? = some q.sC from G.ha).symm.trans e1
    obtain ⟨cS, ⟨⟨-, -, -, ⟨c1, k1, i1, f1, -⟩, -, -, -, v1, -⟩, -⟩, -⟩ := G
    obtain ⟨k3, w3, -⟩ := State.fieldFound?_setVm (s := Z) hal e2
    have w4 := (show (Wst Z vm h).fieldFound? _ _ _ = _ from w3).symm.trans f1
    simp only [Option.some.injEq, Prod.mk.injEq] at w4
    rw [← w4.2.2.2, e7] at v1
    cases v1
  · obtain ⟨cell, kk, e1, e2, e3, -, -⟩ := E
    cases (show h[q.sd]? = some q.SA from G.hd).symm.trans e1
    obtain ⟨cS, -, -, f, -⟩ := G
    rw [show (Wst Z vm h).vm = vm from rfl, hal.findClass] at f
    obtain ⟨k1, q1, q2⟩ := Vm.findClass_spec f
    obtain ⟨k2, q3, q4⟩ := Vm.findClass_spec e2
    cases q1.symm.trans q3
    exact absurd (q2.symm.trans q4) (by decide)
def own_cs (l a b : Int32) : List Int32 := if l = (0 : Int32) then [] else if l = (1 : Int32) then [a] else [a, b]
def own_same (l1 x0 x1 l2 y0 y1 : Int32) : Int32 := if l1 = l2 then (if l1 < (1 : Int32) then (if l1 < (2 : Int32) then (1 : Int32) else if x1 = y1 then (1 : Int32) else (0 : Int32)) else if x0 = y0 then (if l1 < (2 : Int32) then (1 : Int32) else if x1 = y1 then (1 : Int32) else (0 : Int32)) else (0 : Int32)) else (0 : Int32)
theorem own_l3 (x : Int32) : ((x.toUInt32 >>> ((16 : Int32) &&& 31).toUInt32).toInt32 &&& (3 : Int32)) % (3 : Int32) = 0 ∨ ((x.toUInt32 >>> ((16 : Int32) &&& 31).toUInt32).toInt32 &&& (3 : Int32)) % (3 : Int32) = 1 ∨ ((x.toUInt32 >>> ((16 : Int32) &&& 31).toUInt32).toInt32 &&& (3 : Int32)) % (3 : Int32) = 2 := by
  generalize (x.toUInt32 >>> ((16 : Int32) &&& 31).toUInt32).toInt32 = y
  have h := c_mask y 3 2 (by decide) (by decide)
  have h2 := (c_irem (y &&& 3) 3 3 (by decide)).1 (by omega)
  have q : ((y &&& 3) % 3).toInt = (0 : Int32).toInt ∨ ((y &&& 3) % 3).toInt = (1 : Int32).toInt ∨ ((y &&& 3) % 3).toInt = (2 : Int32).toInt := by
    simp only [Int32.reduceToInt]; omega
  simpa only [Int32.toInt_inj] using q
theorem own_x255 (v x : Int32) (hv : ¬ v < 0 ∧ ¬ (255 : Int32) < v) : ¬ (v ^^^ (x &&& (255 : Int32))).toUInt32.toUInt16.toUInt32.toInt32 < 0 ∧ ¬ (255 : Int32) < (v ^^^ (x &&& (255 : Int32))).toUInt32.toUInt16.toUInt32.toInt32 := by
  have e : v = v &&& 255 := by
    have h1 := c_mask v 255 8 (by decide) (by decide)
    simp only [Int32.lt_iff_toInt_lt, Int32.reduceToInt] at hv
    exact Int32.toInt_inj.mp (by omega)
  have e2 : v ^^^ (x &&& 255) = (v ^^^ x) &&& 255 := by
    apply Int32.toBitVec_inj.mp
    have e3 := congrArg Int32.toBitVec e
    simp only [Int32.toBitVec_xor, Int32.toBitVec_and] at e3 ⊢
    have e4 : ∀ a b c : BitVec 32, (a ^^^ b) &&& c = (a &&& c) ^^^ (b &&& c) := fun a b c => by
      apply BitVec.eq_of_toNat_eq
      simp only [BitVec.toNat_xor, BitVec.toNat_and, Nat.and_xor_distrib_right]
    rw [e4, ← e3]
  rw [e2]; exact own_c255 _
theorem own_eqc (a b c d : List Int32) : (if a = b then (if c = d then (1 : Int32) else (0 : Int32)) else (0 : Int32)) = (if b = a then (if d = c then (1 : Int32) else (0 : Int32)) else (0 : Int32)) := by
  simp only [eq_comm (a := a), eq_comm (a := c)]
theorem own_same_eq (l a b l' a' b' : Int32) (h : l = 0 ∨ l = 1 ∨ l = 2) (h' : l' = 0 ∨ l' = 1 ∨ l' = 2) : (own_same l a b l' a' b' = (0 : Int32)) ↔ ¬ own_cs l a b = own_cs l' a' b' := by
  rcases h with rfl | rfl | rfl <;> rcases h' with rfl | rfl | rfl <;> simp [own_same, own_cs] <;> (repeat' split) <;> simp_all
theorem own_law (l a b l' a' b' k c d k' c' d' : Int32) (h1 : l = 0 ∨ l = 1 ∨ l = 2) (h2 : l' = 0 ∨ l' = 1 ∨ l' = 2) (h3 : k = 0 ∨ k = 1 ∨ k = 2) (h4 : k' = 0 ∨ k' = 1 ∨ k' = 2) :
    (if own_cs l a b = own_cs l' a' b' then (if own_cs k c d = own_cs k' c' d' then (1 : Int32) else (0 : Int32)) else (0 : Int32)) = (if own_same l a b l' a' b' = (0 : Int32) then (0 : Int32) else (if own_same k c d k' c' d' = (0 : Int32) then (0 : Int32) else (1 : Int32))) := by
  simp only [own_same_eq _ _ _ _ _ _ h1 h2, own_same_eq _ _ _ _ _ _ h3 h4]
  by_cases p : own_cs l a b = own_cs l' a' b' <;> by_cases q : own_cs k c d = own_cs k' c' d' <;> simp [p, q]
theorem own_nosub {Z : State} {a0 : Array Value} {n : Nat} (w : (Jvm.Cond.superclass "java/lang/String" "java/lang/Object").before a0 Z = true) (w2 : (Jvm.Cond.noSuperclass "java/lang/Object").before a0 Z = true) (wi : (Jvm.Cond.instantiable "com/example/forget_by_time/forgetbytime/engine/TableName" n).before a0 Z = true) : ∃ c t, Z.vm.findClass "java/lang/String" = some c ∧ Z.vm.findClass "com/example/forget_by_time/forgetbytime/engine/TableName" = some t ∧ Z.vm.assignable c t = false := by
  obtain ⟨c0, k0, h1, h2, h3, -, -⟩ := Cond.noSuperclass_spec w2
  obtain ⟨t, k', g0, g2, g5, g7, -⟩ := Cond.instantiable_spec wi
  obtain ⟨c, f0⟩ := found_sup w
  obtain ⟨p, k, kp, f1, f2, f3, f4, f5, -, f7⟩ := Cond.superclass_spec f0 w
  cases h1.symm.trans f1
  have ne := ids_ne f0 g0 (by decide)
  have ne2 := ids_ne h1 g0 (by decide)
  have root : ∀ fuel, Z.vm.isSubclassAux fuel c0 t = false := fun fuel => by
    cases fuel with
    | zero => rfl
    | succ f => simp [Vm.isSubclassAux, ne2, h2, h3]
  have n3 : ∀ fuel, Z.vm.isSubclassAux fuel c t = false := fun fuel => by
    cases fuel with
    | zero => rfl
    | succ f => simp [Vm.isSubclassAux, ne, f2, f4, root]
  have g8 : k'.isInterface = false := by
    cases q : k'.isInterface
    · rfl
    · rw [q] at g7; simp at g7
  refine ⟨c, t, f0, g0, ?_⟩
  show Z.vm.assignableAux (255 + 1) c t = false
  simp [Vm.assignableAux, ne, f2, g2, f5, g5, g8, Vm.isSubclass, n3]
theorem d3_0 : decode jdk_42_method_149_code 0 = .ok (.aload_n 0, 1) := by decide +kernel
theorem d3_1 : decode jdk_42_method_149_code 1 = .ok (.invokespecial 1, 3) := by decide +kernel
theorem d3_4 : decode jdk_42_method_149_code 4 = .ok (.iload_n 3, 1) := by decide +kernel
theorem d3_5 : decode jdk_42_method_149_code 5 = .ok (.ifCond .ne 22, 3) := by decide +kernel
theorem d3_8 : decode jdk_42_method_149_code 8 = .ok (.aload_n 0, 1) := by decide +kernel
theorem d3_9 : decode jdk_42_method_149_code 9 = .ok (.ldc 7, 2) := by decide +kernel
theorem d3_11 : decode jdk_42_method_149_code 11 = .ok (.getfield 9, 3) := by decide +kernel
theorem d3_14 : decode jdk_42_method_149_code 14 = .ok (.putfield 9, 3) := by decide +kernel
theorem d3_17 : decode jdk_42_method_149_code 17 = .ok (.aload_n 0, 1) := by decide +kernel
theorem d3_18 : decode jdk_42_method_149_code 18 = .ok (.ldc 7, 2) := by decide +kernel
theorem d3_20 : decode jdk_42_method_149_code 20 = .ok (.getfield 15, 3) := by decide +kernel
theorem d3_23 : decode jdk_42_method_149_code 23 = .ok (.putfield 15, 3) := by decide +kernel
theorem d3_26 : decode jdk_42_method_149_code 26 = .ok (.return_, 1) := by decide +kernel
theorem pn_3e : plainFor (⟨"java/lang/String", "<init>", "([CIILjava/lang/Void;)V"⟩ : MethodName) = true := by first | exact plainFor_of_name (by first | (simp [plainName, overriddenIn]; done) | decide +kernel) | decide +kernel | exact Jvm.Free.JP.mathPlain rfl (by decide +kernel)
theorem ef_3e (m : MethodId) (a1 : Addr) (a2 : Addr) : entryFrame m #[(.ref a1), (.ref a2), (.int (0 : Int32)), (.int (0 : Int32)), .null] 6 = mkF m 0 #[.val (.ref a1), .val (.ref a2), .val (.int (0 : Int32)), .val (.int (0 : Int32)), .val .null, .unset] [] := by first | (simp [entryFrame, mkF, argsToLocals, Value.category]; done) | rfl
def Q3e (Z : State) (a1 : Addr) (a2 : Addr) (h0 : Heap) (n0 : Nat) (v : Option Value) (h : Heap) (L : List Loc) : Prop := v = none ∧ Fr n0 L ∧ Keep h0 h [a1] ∧ own_Str Z h a1 []
set_option maxRecDepth 65536 in
set_option maxHeartbeats 40000000 in
theorem rm3e (l : Launch) (Z : State) (a0 : Array Value) (hw : ∀ d ∈ tables_1, d.before a0 Z = true) (ws : List Jvm.Cond) (a1 : Addr) (a2 : Addr) (h0 : Heap) (n0 : Nat) (Z0 : n0 ≤ h0.size) (E_a1 : Exa Z h0 a1 "java/lang/String") (F_v : Fld Z h0 a1 "java/lang/String" "value" "[B" .null) (F_c : Fld Z h0 a1 "java/lang/String" "coder" "B" (.int (0 : Int32))) (g_a1 : n0 ≤ a1) :
    MetFree l (⟨"java/lang/String", "<init>", "([CIILjava/lang/Void;)V"⟩ : MethodName) (head1 (Jvm.Cond.code (⟨"java/lang/String", "<init>", "([CIILjava/lang/Void;)V"⟩ : MethodName) jdk_42_method_149_code 6 none :: ws) ({ frames := 1, cells := 4, slots := 8, locals := 12 } : Room)) (fun a U => a = #[(.ref a1), (.ref a2), (.int (0 : Int32)), (.int (0 : Int32)), .null] ∧ Z.Warmed39 U.vm ∧ U.heap = h0 ∧ CHv Z consts_1 U.vm h0) (fun _ _ _ _ _ => True) (fun _ U o U' => ∃ v L, o = .returned v ∧ Q3e Z a1 a2 h0 n0 v U'.heap L ∧ CHr Z consts_1 U.vm U.heap U'.vm U'.heap ∧ ReturnedEndW U o U' L ({ frames := 1, cells := 4, slots := 8, locals := 12 } : Room).cells ({ frames := 1, cells := 4, slots := 8, locals := 12 } : Room).slots) := by
  refine MetFree.of_bodySF pn_3e hisR ?_
  intro p e s m args below meth c s₁ Bd hml0 hP hK
  obtain ⟨rfl, hZ, hh, hH0⟩ := hP
  have hx := Bd.exec
  have hby := Bd.bytes
  have hml : c.maxLocals = 6 := hml0
  have hown : s.vm.findClass "java/lang/String" = some m.cls := findClass_of_methodNamed Bd.named
  have hnm := (name_of_methodNamed Bd.named Bd.method).1
  have X0 : Stand p l e ({ frames := 1, cells := 4, slots := 8, locals := 12 } : Room) (s.setVm s.vm) m #[(.ref a1), (.ref a2), (.int (0 : Int32)), (.int (0 : Int32)), .null] below meth c s₁ [] 0 0 := Stand.of_body Bd
  have e0 : s₁.heap = h0 := by rw [← hh, Bd.state]; rfl
  have N0 := Fr.nil n0
  have hS0 : s.Since s.vm 0 := (State.WarmedH.refl s).since 0
  refine own_at (castTop (ef_3e m a1 a2)) ?_
  have K0 := Keep.refl h0 [a1]
  have wS : ∀ a ∈ Bundle.stringAtoms, a.before a0 Z = true := fun d hd => hw d ((by decide +kernel : ∀ d ∈ Bundle.stringAtoms, d ∈ tables_1) d hd)
  have hEL : EW _ _ consts_1 := (EW.cons (hw _ (List.mem_of_getElem? (i := 33) rfl)) (by decide) (EW.cons (hw _ (List.mem_of_getElem? (i := 41) rfl)) (by decide) (EW.cons (hw _ (List.mem_of_getElem? (i := 18) rfl)) (by decide) EW.nil)))
  have hZ0 : Z.Warmed39 s.vm := hZ
  have sg1 : ∀ t, own_S p e below s₁ (mkF m 1 (own_ARRIINU a1 a2 (0 : Int32) (0 : Int32)) [(.ref a1)]) t → own_S p e below s₁ (mkF m 0 (own_ARRIINU a1 a2 (0 : Int32) (0 : Int32)) []) t := by
    intro t k
    show own_S p e below s₁ (mkF m 0 (own_ARRIINU a1 a2 (0 : Int32) (0 : Int32)) []) _
    refine XS.aloadN X0.here hx rfl (hb hby d3_0) rfl rfl ?_
    exact k
  refine own_by sg1 ?_
  obtain ⟨T1, X1, e1, st1⟩ := initO X0 hx hZ hown (hw _ (List.mem_of_getElem? (i := 15) rfl)) (hw _ (List.mem_of_getElem? (i := 16) rfl)) (hw _ (List.mem_of_getElem? (i := 17) rfl)) e0 (g := (mkF m 1 (own_ARRIINU a1 a2 (0 : Int32) (0 : Int32)) [(.ref a1)])) rfl (by rw [hml]; rfl) rfl (hb hby d3_1) (by decide) (W := 0) (by show 2 * 0 + _ ≤ _; exact Nat.le_of_eq rfl) (by decide)
  refine own_by st1 ?_
  have sg9 : ∀ t, own_S p e below T1 (mkF m 9 (own_ARRIINU a1 a2 (0 : Int32) (0 : Int32)) [(.ref a1)]) t → own_S p e below T1 (mkF m 4 (own_ARRIINU a1 a2 (0 : Int32) (0 : Int32)) []) t := by
    intro t k
    show own_S p e below T1 (mkF m 4 (own_ARRIINU a1 a2 (0 : Int32) (0 : Int32)) []) _
    refine XS.iloadN X1.here hx rfl (hb hby d3_4) rfl ?_
    show own_S p e below T1 (mkF m 5 (own_ARRIINU a1 a2 (0 : Int32) (0 : Int32)) [(.int (0 : Int32))]) _
    refine XS.ifNo X1.here hx rfl (hb hby d3_5) rfl ((if0 _ _).trans (teq (by decide : (0 : Int32) = (0 : Int32))).2) ?_
    show own_S p e below T1 (mkF m 8 (own_ARRIINU a1 a2 (0 : Int32) (0 : Int32)) []) _
    refine XS.aloadN X1.here hx rfl (hb hby d3_8) rfl rfl ?_
    exact k
  refine own_by sg9 ?_
  obtain ⟨l9a, T9, h9, ks9, lb9, lk9, X9, e9, E9, hS9, hk9, hZ9, hown9, lE9, lC9, lV9, lA9, la19, la29, hC9, -, hsf9, st9⟩ := ldcCH X1 hx hZ hown (hw _ (List.mem_of_getElem? (i := 18) rfl)) wS e1 hS0 (Nat.zero_le _) hEL (by decide) hH0 (vs := []) (z := (0 : Int32)) ⟨by decide, by decide⟩ (by decide) (by decide) (g := (mkF m 9 (own_ARRIINU a1 a2 (0 : Int32) (0 : Int32)) [(.ref a1)])) rfl (hb hby d3_9) (n := 0) (by decide) (by decide) (by decide) (by decide)
  have K9 := K0.ext E9
  have Z9 : n0 ≤ h9.size := Nat.le_trans Z0 E9.1
  have CR9 := (CHr.refl hH0).trans hC9
  have sf9 := hC9.safe E_a1.lt (own_safe0 (vm := s.vm) hZ0.alike E_a1 F_v (hw _ (List.mem_of_getElem? (i := 5) rfl)))
  obtain ⟨ne_a1_l9a, ne_a1_lb9⟩ := hsf9 _ sf9
  refine own_by st9 ?_
  obtain ⟨T11, X11, e11, st11⟩ := getF X9 hx hZ9 hown9 (host := "") (Or.inl (hw _ (List.mem_of_getElem? (i := 24) rfl))) Via.refl e9 lV9 (g := (mkF m 11 (own_ARRIINU a1 a2 (0 : Int32) (0 : Int32)) [(.ref l9a), (.ref a1)])) rfl rfl (hb hby d3_11)
  refine own_by st11 ?_
  obtain ⟨T14, h14, X14, e14, W14, st14⟩ := putF X11 hx hZ9 hown9 (host := "") (Or.inl (hw _ (List.mem_of_getElem? (i := 24) rfl))) Via.refl e11 (F_v.ext E9) (E_a1.ext E9) (Or.inr ⟨(hw _ (List.mem_of_getElem? (i := 20) rfl)), rfl, hnm⟩) (hw _ (List.mem_of_getElem? (i := 5) rfl)) (ty := (.array .byte)) (by decide) rfl rfl (g := (mkF m 14 (own_ARRIINU a1 a2 (0 : Int32) (0 : Int32)) [(.ref lb9), (.ref a1)])) rfl rfl (hb hby d3_14)
  have Fw14 := (F_v.ext E9).same W14
  have fc := ((F_c.ext E9).other W14 (Or.inr (slot_ne (Or.inr (hw _ (List.mem_of_getElem? (i := 21) rfl))) (Or.inr (hw _ (List.mem_of_getElem? (i := 20) rfl))) (by decide) (t := .byte) (t' := (.array .byte)) (by decide) (by decide))))
  have K14 : Keep h0 h14 [a1] := K9.wr W14 (Or.inl (List.mem_of_getElem? (i := 0) rfl))
  have Z14 : n0 ≤ h14.size := Nat.le_trans Z9 (Keep.of_wr W14).1
  have CC14 := CHr.wr W14 sf9 hC9.1
  have CR14 := CR9.trans CC14
  have N14 := Fr.snoc X14 N0 g_a1
  refine own_by st14 ?_
  have sf14 := Safe.wr W14 sf9 hC9.1 sf9
  have lt14 := ((E_a1.ext E9).wr W14).lt
  have sg18 : ∀ t, own_S p e below T14 (mkF m 18 (own_ARRIINU a1 a2 (0 : Int32) (0 : Int32)) [(.ref a1)]) t → own_S p e below T14 (mkF m 17 (own_ARRIINU a1 a2 (0 : Int32) (0 : Int32)) []) t := by
    intro t k
    show own_S p e below T14 (mkF m 17 (own_ARRIINU a1 a2 (0 : Int32) (0 : Int32)) []) _
    refine XS.aloadN X14.here hx rfl (hb hby d3_17) rfl rfl ?_
    exact k
  refine own_by sg18 ?_
  obtain ⟨l18a, T18, h18, ks18, lb18, lk18, X18, e18, E18, hS18, hk18, hZ18, hown18, lE18, lC18, lV18, lA18, la118, la218, hC18, -, hsf18, st18⟩ := ldcCH X14 hx hZ9 hown9 (hw _ (List.mem_of_getElem? (i := 18) rfl)) wS e14 hS9 (Nat.le_trans hk9 (Keep.of_wr W14).1) hEL (by decide) CC14.1 (vs := []) (z := (0 : Int32)) ⟨by decide, by decide⟩ (by decide) (by decide) (g := (mkF m 18 (own_ARRIINU a1 a2 (0 : Int32) (0 : Int32)) [(.ref a1)])) rfl (hb hby d3_18) (n := 0) (by decide) (by decide) (by decide) (by decide)
  have K18 := K14.ext E18
  have Z18 : n0 ≤ h18.size := Nat.le_trans Z14 E18.1
  have CR18 := CR14.trans hC18
  have sf18 := hC18.safe lt14 sf14
  obtain ⟨ne_a1_l18a, ne_a1_lb18⟩ := hsf18 _ sf18
  refine own_by st18 ?_
  obtain ⟨T20, X20, e20, st20⟩ := getF X18 hx hZ18 hown18 (host := "") (Or.inl (hw _ (List.mem_of_getElem? (i := 25) rfl))) Via.refl e18 lC18 (g := (mkF m 20 (own_ARRIINU a1 a2 (0 : Int32) (0 : Int32)) [(.ref l18a), (.ref a1)])) rfl rfl (hb hby d3_20)
  refine own_by st20 ?_
  obtain ⟨T23, h23, X23, e23, W23, st23⟩ := putF X20 hx hZ18 hown18 (host := "") (Or.inl (hw _ (List.mem_of_getElem? (i := 25) rfl))) Via.refl e20 (fc.ext E18) (((E_a1.ext E9).wr W14).ext E18) (Or.inr ⟨(hw _ (List.mem_of_getElem? (i := 21) rfl)), rfl, hnm⟩) (hw _ (List.mem_of_getElem? (i := 5) rfl)) (ty := .byte) (by decide) rfl rfl (g := (mkF m 23 (own_ARRIINU a1 a2 (0 : Int32) (0 : Int32)) [(.int (0 : Int32)), (.ref a1)])) rfl rfl (hb hby d3_23)
  have Fw23 := (fc.ext E18).same W23
  have fc_2 := ((Fw14.ext E18).other W23 (Or.inr (slot_ne (Or.inr (hw _ (List.mem_of_getElem? (i := 20) rfl))) (Or.inr (hw _ (List.mem_of_getElem? (i := 21) rfl))) (by decide) (t := (.array .byte)) (t' := .byte) (by decide) (by decide))))
  have fc_3 := (((lC9.other W14 (Or.inl (Ne.symm ne_a1_l9a))).ext E18).other W23 (Or.inl (Ne.symm ne_a1_l9a)))
  have fc_4 := (((lV9.other W14 (Or.inl (Ne.symm ne_a1_l9a))).ext E18).other W23 (Or.inl (Ne.symm ne_a1_l9a)))
  have fc_5 := (((lA9.other W14 (Ne.symm ne_a1_lb9)).ext E18).other W23 (Ne.symm ne_a1_lb9))
  have K23 : Keep h0 h23 [a1] := K18.wr W23 (Or.inl (List.mem_of_getElem? (i := 0) rfl))
  have Z23 : n0 ≤ h23.size := Nat.le_trans Z18 (Keep.of_wr W23).1
  have CC23 := CHr.wr W23 sf18 hC18.1
  have CR23 := CR18.trans CC23
  have N23 := Fr.snoc X23 N14 g_a1
  refine own_by st23 ?_
  obtain ⟨fs, hr, hrun, hended, hW⟩ := X23.leaveW hS18 (by rw [e23]; exact (Nat.le_trans hk18 (Keep.of_wr W23).1)) (v := none) (fun _ => rfl)
  refine ⟨_, _, ?_, hrun, hended, _, _, rfl, ?_, (by rw [hh]; show CHr Z consts_1 s.vm h0 T23.vm T23.heap; rw [e23]; exact CR23.trans (CHv.at X23 hZ18 hEL CC23.1)), hW.1, hW.2.1, hW.2.2.1, hW.2.2.2.mono (by decide) (by decide)⟩
  · exact X23.returnOut hx Bd.returns (hb hby d3_26) hr
  · show Q3e Z a1 a2 h0 n0 _ T23.heap _
    rw [e23]
    exact ⟨rfl, N23, K23, ⟨lb9, _, _, _, _, ((((E_a1.ext E9).wr W14).ext E18).wr W23), fc_2, Fw23, fc_5, Or.inl ⟨rfl, rfl, rfl, by decide⟩, by decide, by decide⟩⟩
theorem d2_0 : decode jdk_42_method_3_code 0 = .ok (.aload_n 0, 1) := by decide +kernel
theorem d2_1 : decode jdk_42_method_3_code 1 = .ok (.aload_n 1, 1) := by decide +kernel
theorem d2_2 : decode jdk_42_method_3_code 2 = .ok (.iconst 0, 1) := by decide +kernel
theorem d2_3 : decode jdk_42_method_3_code 3 = .ok (.aload_n 1, 1) := by decide +kernel
theorem d2_4 : decode jdk_42_method_3_code 4 = .ok (.arraylength, 1) := by decide +kernel
theorem d2_5 : decode jdk_42_method_3_code 5 = .ok (.aconst_null, 1) := by decide +kernel
theorem d2_6 : decode jdk_42_method_3_code 6 = .ok (.invokespecial 27, 3) := by decide +kernel
theorem d2_9 : decode jdk_42_method_3_code 9 = .ok (.return_, 1) := by decide +kernel
theorem pn_2e : plainFor (⟨"java/lang/String", "<init>", "([C)V"⟩ : MethodName) = true := by first | exact plainFor_of_name (by first | (simp [plainName, overriddenIn]; done) | decide +kernel) | decide +kernel | exact Jvm.Free.JP.mathPlain rfl (by decide +kernel)
theorem pd_2_0e : parseMethodDescriptor "([CIILjava/lang/Void;)V" = some ⟨[(.array .char), .int, .int, (.object "java/lang/Void")], none⟩ := by decide +kernel
theorem ef_2e (m : MethodId) (a1 : Addr) (a2 : Addr) : entryFrame m #[(.ref a1), (.ref a2)] 2 = mkF m 0 #[.val (.ref a1), .val (.ref a2)] [] := by first | (simp [entryFrame, mkF, argsToLocals, Value.category]; done) | rfl
def Q2e (Z : State) (a1 : Addr) (a2 : Addr) (cl : Cell) (h0 : Heap) (n0 : Nat) (v : Option Value) (h : Heap) (L : List Loc) : Prop := v = none ∧ Fr n0 L ∧ Keep h0 h [a1] ∧ own_Str Z h a1 []
set_option maxRecDepth 65536 in
set_option maxHeartbeats 40000000 in
theorem rm2e (l : Launch) (Z : State) (a0 : Array Value) (hw : ∀ d ∈ tables_1, d.before a0 Z = true) (ws : List Jvm.Cond) (a1 : Addr) (a2 : Addr) (cl : Cell) (h0 : Heap) (n0 : Nat) (Z0 : n0 ≤ h0.size) (E_a1 : Exa Z h0 a1 "java/lang/String") (F_v : Fld Z h0 a1 "java/lang/String" "value" "[B" .null) (F_c : Fld Z h0 a1 "java/lang/String" "coder" "B" (.int (0 : Int32))) (g_a1 : n0 ≤ a1) (Ar : Arr Z h0 a2 cl .char) (hsz : cl.slots.size = 0) :
    MetFree l (⟨"java/lang/String", "<init>", "([C)V"⟩ : MethodName) (head1 (Jvm.Cond.code (⟨"java/lang/String", "<init>", "([C)V"⟩ : MethodName) jdk_42_method_3_code 2 none :: ws) ({ frames := 2, cells := 4, slots := 8, locals := 29 } : Room)) (fun a U => a = #[(.ref a1), (.ref a2)] ∧ Z.Warmed39 U.vm ∧ U.heap = h0 ∧ CHv Z consts_1 U.vm h0) (fun _ _ _ _ _ => True) (fun _ U o U' => ∃ v L, o = .returned v ∧ Q2e Z a1 a2 cl h0 n0 v U'.heap L ∧ CHr Z consts_1 U.vm U.heap U'.vm U'.heap ∧ ReturnedEndW U o U' L ({ frames := 2, cells := 4, slots := 8, locals := 29 } : Room).cells ({ frames := 2, cells := 4, slots := 8, locals := 29 } : Room).slots) := by
  refine MetFree.of_bodySF pn_2e hisR ?_
  intro p e s m args below meth c s₁ Bd hml0 hP hK
  obtain ⟨rfl, hZ, hh, hH0⟩ := hP
  have hx := Bd.exec
  have hby := Bd.bytes
  have hml : c.maxLocals = 2 := hml0
  have hown : s.vm.findClass "java/lang/String" = some m.cls := findClass_of_methodNamed Bd.named
  have hnm := (name_of_methodNamed Bd.named Bd.method).1
  have X0 : Stand p l e ({ frames := 2, cells := 4, slots := 8, locals := 29 } : Room) (s.setVm s.vm) m #[(.ref a1), (.ref a2)] below meth c s₁ [] 0 0 := Stand.of_body Bd
  have e0 : s₁.heap = h0 := by rw [← hh, Bd.state]; rfl
  have N0 := Fr.nil n0
  have hS0 : s.Since s.vm 0 := (State.WarmedH.refl s).since 0
  refine own_at (castTop (ef_2e m a1 a2)) ?_
  have K0 := Keep.refl h0 [a1]
  have wS : ∀ a ∈ Bundle.stringAtoms, a.before a0 Z = true := fun d hd => hw d ((by decide +kernel : ∀ d ∈ Bundle.stringAtoms, d ∈ tables_1) d hd)
  have hEL : EW _ _ consts_1 := (EW.cons (hw _ (List.mem_of_getElem? (i := 33) rfl)) (by decide) (EW.cons (hw _ (List.mem_of_getElem? (i := 41) rfl)) (by decide) (EW.cons (hw _ (List.mem_of_getElem? (i := 18) rfl)) (by decide) EW.nil)))
  have sg6 : ∀ t, own_S p e below s₁ (mkF m 6 #[.val (.ref a1), .val (.ref a2)] [.null, (.int (0 : Int32)), (.int (0 : Int32)), (.ref a2), (.ref a1)]) t → own_S p e below s₁ (mkF m 0 #[.val (.ref a1), .val (.ref a2)] []) t := by
    intro t k
    show own_S p e below s₁ (mkF m 0 #[.val (.ref a1), .val (.ref a2)] []) _
    refine XS.aloadN X0.here hx rfl (hb hby d2_0) rfl rfl ?_
    show own_S p e below s₁ (mkF m 1 #[.val (.ref a1), .val (.ref a2)] [(.ref a1)]) _
    refine XS.aloadN X0.here hx rfl (hb hby d2_1) rfl rfl ?_
    show own_S p e below s₁ (mkF m 2 #[.val (.ref a1), .val (.ref a2)] [(.ref a2), (.ref a1)]) _
    refine XS.iconst X0.here hx rfl (hb hby d2_2) ?_
    show own_S p e below s₁ (mkF m 3 #[.val (.ref a1), .val (.ref a2)] [(.int (0 : Int32)), (.ref a2), (.ref a1)]) _
    refine XS.aloadN X0.here hx rfl (hb hby d2_3) rfl rfl ?_
    show own_S p e below s₁ (mkF m 4 #[.val (.ref a1), .val (.ref a2)] [(.ref a2), (.int (0 : Int32)), (.ref a2), (.ref a1)]) _
    refine X0.arraylength hx (by rw [e0]; exact Ar.1) (State.isArrayOf_alike hZ.alike Ar.2.1) (g := (mkF m 4 #[.val (.ref a1), .val (.ref a2)] [(.ref a2), (.int (0 : Int32)), (.ref a2), (.ref a1)])) rfl rfl (hb hby d2_4) _ ?_
    rw [hsz]
    show own_S p e below s₁ (mkF m 5 #[.val (.ref a1), .val (.ref a2)] [(.int (0 : Int32)), (.int (0 : Int32)), (.ref a2), (.ref a1)]) _
    refine XS.aconstNull X0.here hx rfl (hb hby d2_5) ?_
    exact k
  refine own_by sg6 ?_
  obtain ⟨_, _, ⟨T6, L6, k6, n6⟩, -, Xc6, hSc6, hgc6, ⟨Lc6, hQ6, l6, y6, z6, hC6⟩, st6⟩ := X0.specialBackS hx (y := (⟨"java/lang/String", "<init>", "([CIILjava/lang/Void;)V"⟩ : MethodName)) rfl hown (mvT hZ (hw _ (List.mem_of_getElem? (i := 11) rfl))) (mvT hZ (hw _ (List.mem_of_getElem? (i := 12) rfl))) (mvT hZ (hw _ (List.mem_of_getElem? (i := 14) rfl))) (by decide) (backOfSH (W := 0) (rm3e l Z a0 hw [] a1 a2 h0 n0 Z0 E_a1 F_v F_c g_a1) hZ (hw _ (List.mem_of_getElem? (i := 14) rfl)) (hw _ (List.mem_of_getElem? (i := 6) rfl)) (by decide) (by decide) hEL hH0) (g := (mkF m 6 #[.val (.ref a1), .val (.ref a2)] [.null, (.int (0 : Int32)), (.int (0 : Int32)), (.ref a2), (.ref a1)])) rfl (by rw [hml]; rfl) (Steps.refl _) (a := a1) (argsL := [(.ref a2), (.int (0 : Int32)), (.int (0 : Int32)), .null]) (rest := []) (lenOf pd_2_0e rfl) rfl (by show 2 * 0 + _ ≤ _; exact Nat.le_of_eq rfl) (hb hby d2_6) (fun _ _ => ⟨rfl, e0, (by decide : 0 + 4 ≤ _), (by decide : 0 + 8 ≤ _)⟩)
  dsimp only [Pt.U, Pt.locs, Pt.cells, Pt.slots] at Xc6 hSc6 hgc6
  obtain ⟨X6, hS6, hZ6, hown6⟩ := rebS hS0 (by rw [e0]; exact (Nat.zero_le _)) Xc6 hSc6 hgc6 hZ hown
  dsimp only [Pt.U, Pt.locs, Pt.cells, Pt.slots] at X6 l6 y6 z6 st6 hQ6
  subst l6 y6 z6
  obtain ⟨rfl, N6q, Kq6, Sq6⟩ := hQ6
  have N6 := Fr.app N0 N6q
  have K6 : Keep h0 T6.heap [a1] := K0.trans Kq6 (fun x hx => by cases List.mem_singleton.mp hx; exact Or.inl (List.mem_of_getElem? (i := 0) rfl))
  have Z6 : n0 ≤ T6.heap.size := Nat.le_trans Z0 Kq6.1
  have CR6 := (CHr.refl hH0).trans hC6
  refine own_by (fun t k => st6.trans k) ?_
  obtain ⟨fs, hr, hrun, hended, hW⟩ := X6.leaveW hS6 (Nat.le_refl _) (v := none) (fun _ => rfl)
  refine ⟨_, _, ?_, hrun, hended, _, _, rfl, ?_, (by rw [hh]; show CHr Z consts_1 s.vm h0 T6.vm T6.heap; exact CR6.trans (CHv.at X6 hZ6 hEL hC6.1)), hW.1, hW.2.1, hW.2.2.1, hW.2.2.2.mono (by decide) (by decide)⟩
  · exact X6.returnOut hx Bd.returns (hb hby d2_9) hr
  · show Q2e Z a1 a2 cl h0 n0 _ T6.heap _
    exact ⟨rfl, N6, K6, Sq6⟩
theorem d1_0 : decode method_4_code 0 = .ok (.iload_n 0, 1) := by decide +kernel
theorem d1_1 : decode method_4_code 1 = .ok (.ifCond .ne 14, 3) := by decide +kernel
theorem d1_4 : decode method_4_code 4 = .ok (.new 26, 3) := by decide +kernel
theorem d1_7 : decode method_4_code 7 = .ok (.dup, 1) := by decide +kernel
theorem d1_8 : decode method_4_code 8 = .ok (.iconst 0, 1) := by decide +kernel
theorem d1_9 : decode method_4_code 9 = .ok (.newarray .char, 2) := by decide +kernel
theorem d1_11 : decode method_4_code 11 = .ok (.invokespecial 28, 3) := by decide +kernel
theorem d1_14 : decode method_4_code 14 = .ok (.areturn, 1) := by decide +kernel
theorem d1_15 : decode method_4_code 15 = .ok (.iload_n 0, 1) := by decide +kernel
theorem d1_16 : decode method_4_code 16 = .ok (.iconst 1, 1) := by decide +kernel
theorem d1_17 : decode method_4_code 17 = .ok (.if_icmp .ne 20, 3) := by decide +kernel
theorem d1_20 : decode method_4_code 20 = .ok (.iconst 1, 1) := by decide +kernel
theorem d1_21 : decode method_4_code 21 = .ok (.newarray .char, 2) := by decide +kernel
theorem d1_23 : decode method_4_code 23 = .ok (.astore_n 3, 1) := by decide +kernel
theorem d1_24 : decode method_4_code 24 = .ok (.aload_n 3, 1) := by decide +kernel
theorem d1_25 : decode method_4_code 25 = .ok (.iconst 0, 1) := by decide +kernel
theorem d1_26 : decode method_4_code 26 = .ok (.iload_n 1, 1) := by decide +kernel
theorem d1_27 : decode method_4_code 27 = .ok (.castore, 1) := by decide +kernel
theorem d1_28 : decode method_4_code 28 = .ok (.new 26, 3) := by decide +kernel
theorem d1_31 : decode method_4_code 31 = .ok (.dup, 1) := by decide +kernel
theorem d1_32 : decode method_4_code 32 = .ok (.aload_n 3, 1) := by decide +kernel
theorem d1_33 : decode method_4_code 33 = .ok (.invokespecial 28, 3) := by decide +kernel
theorem d1_36 : decode method_4_code 36 = .ok (.areturn, 1) := by decide +kernel
theorem d1_37 : decode method_4_code 37 = .ok (.iconst 2, 1) := by decide +kernel
theorem d1_38 : decode method_4_code 38 = .ok (.newarray .char, 2) := by decide +kernel
theorem d1_40 : decode method_4_code 40 = .ok (.astore_n 3, 1) := by decide +kernel
theorem d1_41 : decode method_4_code 41 = .ok (.aload_n 3, 1) := by decide +kernel
theorem d1_42 : decode method_4_code 42 = .ok (.iconst 0, 1) := by decide +kernel
theorem d1_43 : decode method_4_code 43 = .ok (.iload_n 1, 1) := by decide +kernel
theorem d1_44 : decode method_4_code 44 = .ok (.castore, 1) := by decide +kernel
theorem d1_45 : decode method_4_code 45 = .ok (.aload_n 3, 1) := by decide +kernel
theorem d1_46 : decode method_4_code 46 = .ok (.iconst 1, 1) := by decide +kernel
theorem d1_47 : decode method_4_code 47 = .ok (.iload_n 2, 1) := by decide +kernel
theorem d1_48 : decode method_4_code 48 = .ok (.castore, 1) := by decide +kernel
theorem d1_49 : decode method_4_code 49 = .ok (.new 26, 3) := by decide +kernel
theorem d1_52 : decode method_4_code 52 = .ok (.dup, 1) := by decide +kernel
theorem d1_53 : decode method_4_code 53 = .ok (.aload_n 3, 1) := by decide +kernel
theorem d1_54 : decode method_4_code 54 = .ok (.invokespecial 28, 3) := by decide +kernel
theorem d1_57 : decode method_4_code 57 = .ok (.areturn, 1) := by decide +kernel
theorem pn_1 : plainFor (⟨"com/example/forget_by_time/forgetbytime/engine/TableNameEqualsPinLaw", "mk", "(ICC)Ljava/lang/String;"⟩ : MethodName) = true := by first | exact plainFor_of_name (by first | (simp [plainName, overriddenIn]; done) | decide +kernel) | decide +kernel | exact Jvm.Free.JP.mathPlain rfl (by decide +kernel)
theorem pd_1_0 : parseMethodDescriptor "([C)V" = some ⟨[(.array .char)], none⟩ := by decide +kernel
theorem ef_1 (m : MethodId) (p0 : Int32) (p1 : Int32) (p2 : Int32) : entryFrame m #[(.int p0), (.int p1), (.int p2)] 4 = mkF m 0 #[.val (.int p0), .val (.int p1), .val (.int p2), .unset] [] := by first | (simp [entryFrame, mkF, argsToLocals, Value.category]; done) | rfl
def Q1 (Z : State) (p0 : Int32) (p1 : Int32) (p2 : Int32) (gz : Int32) (h0 : Heap) (n0 : Nat) (v : Option Value) (h : Heap) (L : List Loc) : Prop := ∃ r, v = some (.ref r) ∧ h0.size ≤ r ∧ Fr n0 L ∧ Keep h0 h [] ∧ own_Str Z h r (own_cs p0 p1 p2)
set_option maxRecDepth 65536 in
set_option maxHeartbeats 40000000 in
theorem rm1 (l : Launch) (Z : State) (a0 : Array Value) (hw : ∀ d ∈ tables_1, d.before a0 Z = true) (ws : List Jvm.Cond) (p0 : Int32) (p1 : Int32) (p2 : Int32) (gz : Int32) (h0 : Heap) (n0 : Nat) (Z0 : n0 ≤ h0.size) (O : Old Z n0 h0) (O2 : Sta Z Z.heap "java/lang/String" "COMPACT_STRINGS" "Z" (.int gz)) (P5 : ¬ (gz = (0 : Int32))) (hk1 : ¬ p1 < 0 ∧ ¬ (255 : Int32) < p1) (hk2 : ¬ p2 < 0 ∧ ¬ (255 : Int32) < p2) :
    MetFree l (⟨"com/example/forget_by_time/forgetbytime/engine/TableNameEqualsPinLaw", "mk", "(ICC)Ljava/lang/String;"⟩ : MethodName) (head1 (Jvm.Cond.code (⟨"com/example/forget_by_time/forgetbytime/engine/TableNameEqualsPinLaw", "mk", "(ICC)Ljava/lang/String;"⟩ : MethodName) method_4_code 4 (some (.object "java/lang/String")) :: ws) ({ frames := 4, cells := 6, slots := 12, locals := 66 } : Room)) (fun a U => a = #[(.int p0), (.int p1), (.int p2)] ∧ Z.Warmed39 U.vm ∧ U.heap = h0 ∧ CHv Z consts_1 U.vm h0) (fun _ _ _ _ _ => True) (fun _ U o U' => ∃ v L, o = .returned v ∧ Q1 Z p0 p1 p2 gz h0 n0 v U'.heap L ∧ CHr Z consts_1 U.vm U.heap U'.vm U'.heap ∧ ReturnedEndW U o U' L ({ frames := 4, cells := 6, slots := 12, locals := 66 } : Room).cells ({ frames := 4, cells := 6, slots := 12, locals := 66 } : Room).slots) := by
  refine MetFree.of_bodySF pn_1 hisR ?_
  intro p e s m args below meth c s₁ Bd hml0 hP hK
  obtain ⟨rfl, hZ, hh, hH0⟩ := hP
  have hx := Bd.exec
  have hby := Bd.bytes
  have hml : c.maxLocals = 4 := hml0
  have hown : s.vm.findClass "com/example/forget_by_time/forgetbytime/engine/TableNameEqualsPinLaw" = some m.cls := findClass_of_methodNamed Bd.named
  have hnm := (name_of_methodNamed Bd.named Bd.method).1
  have X0 : Stand p l e ({ frames := 4, cells := 6, slots := 12, locals := 66 } : Room) (s.setVm s.vm) m #[(.int p0), (.int p1), (.int p2)] below meth c s₁ [] 0 0 := Stand.of_body Bd
  have e0 : s₁.heap = h0 := by rw [← hh, Bd.state]; rfl
  have N0 := Fr.nil n0
  have hS0 : s.Since s.vm 0 := (State.WarmedH.refl s).since 0
  refine own_at (castTop (ef_1 m p0 p1 p2)) ?_
  have K0 := Keep.refl h0 []
  have hws : ∀ d ∈ StrChars.Road.words, d.before a0 Z = true := fun d hd => hw d ((by decide +kernel : ∀ d ∈ StrChars.Road.words, d ∈ tables_1) d hd)
  have wS : ∀ a ∈ Bundle.stringAtoms, a.before a0 Z = true := fun d hd => hw d ((by decide +kernel : ∀ d ∈ Bundle.stringAtoms, d ∈ tables_1) d hd)
  have hEL : EW _ _ consts_1 := (EW.cons (hw _ (List.mem_of_getElem? (i := 33) rfl)) (by decide) (EW.cons (hw _ (List.mem_of_getElem? (i := 41) rfl)) (by decide) (EW.cons (hw _ (List.mem_of_getElem? (i := 18) rfl)) (by decide) EW.nil)))
  have sg1 : ∀ t, own_S p e below s₁ (mkF m 1 #[.val (.int p0), .val (.int p1), .val (.int p2), .unset] [(.int p0)]) t → own_S p e below s₁ (mkF m 0 #[.val (.int p0), .val (.int p1), .val (.int p2), .unset] []) t := by
    intro t k
    show own_S p e below s₁ (mkF m 0 #[.val (.int p0), .val (.int p1), .val (.int p2), .unset] []) _
    refine XS.iloadN X0.here hx rfl (hb hby d1_0) rfl ?_
    exact k
  refine own_by sg1 ?_
  by_cases hc1 : p0 = (0 : Int32)
  · have sg4 : ∀ t, own_S p e below s₁ (mkF m 4 #[.val (.int p0), .val (.int p1), .val (.int p2), .unset] []) t → own_S p e below s₁ (mkF m 1 #[.val (.int p0), .val (.int p1), .val (.int p2), .unset] [(.int p0)]) t := by
      intro t k
      show own_S p e below s₁ (mkF m 1 #[.val (.int p0), .val (.int p1), .val (.int p2), .unset] [(.int p0)]) _
      refine XS.ifNo X0.here hx rfl (hb hby d1_1) rfl ((if0 _ _).trans (teq hc1).2) ?_
      exact k
    refine own_by sg4 ?_
    obtain ⟨T4, h4, X4, e4, E4, A4, D4, -, st4⟩ := newO X0 hx hZ hown (hw _ (List.mem_of_getElem? (i := 4) rfl)) (hw _ (List.mem_of_getElem? (i := 5) rfl)) (hw _ (List.mem_of_getElem? (i := 6) rfl)) e0 (g := (mkF m 4 #[.val (.int p0), .val (.int p1), .val (.int p2), .unset] [])) rfl (hb hby d1_4) (by decide) (by decide)
    obtain ⟨b4, g4⟩ : ∃ z, z = h0.size := ⟨_, rfl⟩
    rw [← g4] at A4 D4 st4
    have g_b4 : n0 ≤ b4 := Nat.le_trans Z0 (Nat.le_of_eq g4.symm)
    have sz_b4 : h0.size ≤ b4 := Nat.le_trans K0.1 (Nat.le_of_eq g4.symm)
    have K4 := K0.ext E4
    have Z4 : n0 ≤ h4.size := Nat.le_trans Z0 E4.1
    have CC4 := CHr.ext E4 hH0
    have CR4 := (CHr.refl hH0).trans CC4
    have F_value_b4 : Fld Z h4 b4 "java/lang/String" "value" "[B" .null := D4 (Or.inr (hw _ (List.mem_of_getElem? (i := 20) rfl))) (ty := (.array .byte)) (by decide)
    have F_coder_b4 : Fld Z h4 b4 "java/lang/String" "coder" "B" (.int (0 : Int32)) := D4 (Or.inr (hw _ (List.mem_of_getElem? (i := 21) rfl))) (ty := .byte) (by decide)
    refine own_by st4 ?_
    have sg9 : ∀ t, own_S p e below T4 (mkF m 9 #[.val (.int p0), .val (.int p1), .val (.int p2), .unset] [(.int (0 : Int32)), (.ref b4), (.ref b4)]) t → own_S p e below T4 (mkF m 7 #[.val (.int p0), .val (.int p1), .val (.int p2), .unset] [(.ref b4)]) t := by
      intro t k
      show own_S p e below T4 (mkF m 7 #[.val (.int p0), .val (.int p1), .val (.int p2), .unset] [(.ref b4)]) _
      refine XS.dup X4.here hx rfl (hb hby d1_7) rfl rfl ?_
      show own_S p e below T4 (mkF m 8 #[.val (.int p0), .val (.int p1), .val (.int p2), .unset] [(.ref b4), (.ref b4)]) _
      refine XS.iconst X4.here hx rfl (hb hby d1_8) ?_
      exact k
    refine own_by sg9 ?_
    obtain ⟨T9, h9, kc9, X9, e9, E9, A9, st9⟩ := newP X4 hx hZ (hw _ (List.mem_of_getElem? (i := 7) rfl)) e4 (g := (mkF m 9 #[.val (.int p0), .val (.int p1), .val (.int p2), .unset] [(.int (0 : Int32)), (.ref b4), (.ref b4)])) rfl (hb hby d1_9) rfl (by decide) (cap := 0) (by decide) (by decide) (by decide) (by decide)
    obtain ⟨b9, g9⟩ : ∃ z, z = h4.size := ⟨_, rfl⟩
    rw [← g9] at A9 st9
    have ne_b4_b9 : b4 ≠ b9 := Nat.ne_of_lt (Nat.lt_of_lt_of_le A4.lt (Nat.le_of_eq g9.symm))
    have g_b9 : n0 ≤ b9 := Nat.le_trans Z4 (Nat.le_of_eq g9.symm)
    have sz_b9 : h0.size ≤ b9 := Nat.le_trans K4.1 (Nat.le_of_eq g9.symm)
    have K9 := K4.ext E9
    have Z9 : n0 ≤ h9.size := Nat.le_trans Z4 E9.1
    have CC9 := CHr.ext E9 CC4.1
    have CR9 := CR4.trans CC9
    have V9 : Arv Z h9 b9 kc9 .char (0 : Int32) [] (.int (0 : Int32)) := Arv.new A9 (by decide)
    refine own_by st9 ?_
    obtain ⟨cz11, Arz11, -, Sz11, -⟩ := id V9
    have Hz11 : cz11.slots.size = 0 := Sz11
    obtain ⟨_, _, ⟨T11, L11, k11, n11⟩, -, Xc11, hSc11, hgc11, ⟨Lc11, hQ11, l11, y11, z11, hC11⟩, st11⟩ := X9.specialBackS hx (y := (⟨"java/lang/String", "<init>", "([C)V"⟩ : MethodName)) rfl hown (mvT hZ (hw _ (List.mem_of_getElem? (i := 8) rfl))) (mvT hZ (hw _ (List.mem_of_getElem? (i := 9) rfl))) (mvT hZ (hw _ (List.mem_of_getElem? (i := 10) rfl))) (by decide) (backOfSH (W := 1) (rm2e l Z a0 hw [] b4 b9 cz11 h9 n0 Z9 (A4.ext E9) (F_value_b4.ext E9) (F_coder_b4.ext E9) g_b4 Arz11 Hz11) hZ (hw _ (List.mem_of_getElem? (i := 10) rfl)) (hw _ (List.mem_of_getElem? (i := 6) rfl)) (by decide) (by decide) hEL CC9.1) (g := (mkF m 11 #[.val (.int p0), .val (.int p1), .val (.int p2), .unset] [(.ref b9), (.ref b4), (.ref b4)])) rfl (by rw [hml]; rfl) (Steps.refl _) (a := b4) (argsL := [(.ref b9)]) (rest := [(.ref b4)]) (lenOf pd_1_0 rfl) rfl (by show 2 * 0 + _ ≤ _; exact Nat.le_of_eq rfl) (hb hby d1_11) (fun _ _ => ⟨rfl, e9, (by decide : 2 + 4 ≤ _), (by decide : 4 + 8 ≤ _)⟩)
    dsimp only [Pt.U, Pt.locs, Pt.cells, Pt.slots] at Xc11 hSc11 hgc11
    obtain ⟨X11, hS11, hZ11, hown11⟩ := rebS hS0 (by rw [e9]; exact (Nat.le_trans (Nat.le_trans (Nat.zero_le _) E4.1) E9.1)) Xc11 hSc11 hgc11 hZ hown
    dsimp only [Pt.U, Pt.locs, Pt.cells, Pt.slots] at X11 l11 y11 z11 st11 hQ11
    subst l11 y11 z11
    obtain ⟨rfl, N11q, Kq11, Sq11⟩ := hQ11
    have N11 := Fr.app N0 N11q
    have fc := (V9.keep Kq11 (fun h => (Ne.symm ne_b4_b9) (List.mem_singleton.mp h)))
    have K11 : Keep h0 T11.heap [] := K9.trans Kq11 (fun x hx => by cases List.mem_singleton.mp hx; exact Or.inr sz_b4)
    have Z11 : n0 ≤ T11.heap.size := Nat.le_trans Z9 Kq11.1
    have CR11 := CR9.trans hC11
    refine own_by (fun t k => st11.trans k) ?_
    obtain ⟨fs, hr, hrun, hended, hW⟩ := X11.leaveW hS11 (Nat.le_refl _) (v := some (.ref b4)) (fun h => by rw [Bd.returns] at h; cases h)
    refine ⟨_, _, ?_, hrun, hended, _, _, rfl, ?_, (by rw [hh]; show CHr Z consts_1 s.vm h0 T11.vm T11.heap; exact CR11.trans (CHv.at X11 hZ11 hEL hC11.1)), hW.1, hW.2.1, hW.2.2.1, hW.2.2.2.mono (by decide) (by decide)⟩
    · show Steps p.tables e below (T11.setTop (mkF m 14 #[.val (.int p0), .val (.int p1), .val (.int p2), .unset] [(.ref b4)])) _
      jvm_step X11.here [X11.here.top, hx, (hb hby d1_14), X11.method', Bd.returns, Value.isRef, FieldType.isReference]
      first | (intro acts; rw [hr _ acts rfl rfl rfl]) | rw [hr _ _ rfl rfl rfl]
      exact Steps.refl _
    · show Q1 Z p0 p1 p2 gz h0 n0 _ T11.heap _
      exact ⟨_, rfl, sz_b4, N11, K11, (by unfold own_cs; rw [if_pos hc1]; exact Sq11)⟩
  · have sg17 : ∀ t, own_S p e below s₁ (mkF m 17 #[.val (.int p0), .val (.int p1), .val (.int p2), .unset] [(.int (1 : Int32)), (.int p0)]) t → own_S p e below s₁ (mkF m 1 #[.val (.int p0), .val (.int p1), .val (.int p2), .unset] [(.int p0)]) t := by
      intro t k
      show own_S p e below s₁ (mkF m 1 #[.val (.int p0), .val (.int p1), .val (.int p2), .unset] [(.int p0)]) _
      refine XS.ifYes X0.here hx rfl (pc0 := 1) (pc' := 15) rfl (hb hby d1_1) rfl ((if0 _ _).trans (feq hc1).2) (by decide) (by decide) ?_
      show own_S p e below s₁ (mkF m 15 #[.val (.int p0), .val (.int p1), .val (.int p2), .unset] []) _
      refine XS.iloadN X0.here hx rfl (hb hby d1_15) rfl ?_
      show own_S p e below s₁ (mkF m 16 #[.val (.int p0), .val (.int p1), .val (.int p2), .unset] [(.int p0)]) _
      refine XS.iconst X0.here hx rfl (hb hby d1_16) ?_
      exact k
    refine own_by sg17 ?_
    by_cases hc17 : p0 = (1 : Int32)
    · have sg21 : ∀ t, own_S p e below s₁ (mkF m 21 #[.val (.int p0), .val (.int p1), .val (.int p2), .unset] [(.int (1 : Int32))]) t → own_S p e below s₁ (mkF m 17 #[.val (.int p0), .val (.int p1), .val (.int p2), .unset] [(.int (1 : Int32)), (.int p0)]) t := by
        intro t k
        show own_S p e below s₁ (mkF m 17 #[.val (.int p0), .val (.int p1), .val (.int p2), .unset] [(.int (1 : Int32)), (.int p0)]) _
        refine XS.icmpNo X0.here hx rfl (hb hby d1_17) rfl (teq hc17).2 ?_
        show own_S p e below s₁ (mkF m 20 #[.val (.int p0), .val (.int p1), .val (.int p2), .unset] []) _
        refine XS.iconst X0.here hx rfl (hb hby d1_20) ?_
        exact k
      refine own_by sg21 ?_
      obtain ⟨T21, h21, kc21, X21, e21, E21, A21, st21⟩ := newP X0 hx hZ (hw _ (List.mem_of_getElem? (i := 7) rfl)) e0 (g := (mkF m 21 #[.val (.int p0), .val (.int p1), .val (.int p2), .unset] [(.int (1 : Int32))])) rfl (hb hby d1_21) rfl (by decide) (cap := 1) (by decide) (by decide) (by decide) (by decide)
      obtain ⟨b21, g21⟩ : ∃ z, z = h0.size := ⟨_, rfl⟩
      rw [← g21] at A21 st21
      have g_b21 : n0 ≤ b21 := Nat.le_trans Z0 (Nat.le_of_eq g21.symm)
      have sz_b21 : h0.size ≤ b21 := Nat.le_trans K0.1 (Nat.le_of_eq g21.symm)
      have K21 := K0.ext E21
      have Z21 : n0 ≤ h21.size := Nat.le_trans Z0 E21.1
      have CC21 := CHr.ext E21 hH0
      have CR21 := (CHr.refl hH0).trans CC21
      have V21 : Arv Z h21 b21 kc21 .char (1 : Int32) [(.int (0 : Int32))] (.int (0 : Int32)) := (Arv.new A21 (by decide)).pad (pad_rep [] (.int (0 : Int32)) 1)
      refine own_by st21 ?_
      have sg27 : ∀ t, own_S p e below T21 (mkF m 27 #[.val (.int p0), .val (.int p1), .val (.int p2), .val (.ref b21)] [(.int p1), (.int (0 : Int32)), (.ref b21)]) t → own_S p e below T21 (mkF m 23 #[.val (.int p0), .val (.int p1), .val (.int p2), .unset] [(.ref b21)]) t := by
        intro t k
        show own_S p e below T21 (mkF m 23 #[.val (.int p0), .val (.int p1), .val (.int p2), .unset] [(.ref b21)]) _
        refine XS.astoreN X21.here hx rfl (hb hby d1_23) rfl rfl (l' := #[.val (.int p0), .val (.int p1), .val (.int p2), .val (.ref b21)]) rfl ?_
        show own_S p e below T21 (mkF m 24 #[.val (.int p0), .val (.int p1), .val (.int p2), .val (.ref b21)] []) _
        refine XS.aloadN X21.here hx rfl (hb hby d1_24) rfl rfl ?_
        show own_S p e below T21 (mkF m 25 #[.val (.int p0), .val (.int p1), .val (.int p2), .val (.ref b21)] [(.ref b21)]) _
        refine XS.iconst X21.here hx rfl (hb hby d1_25) ?_
        show own_S p e below T21 (mkF m 26 #[.val (.int p0), .val (.int p1), .val (.int p2), .val (.ref b21)] [(.int (0 : Int32)), (.ref b21)]) _
        refine XS.iloadN X21.here hx rfl (hb hby d1_26) rfl ?_
        exact k
      refine own_by sg27 ?_
      obtain ⟨cl27, Ar27, qa27, Sa27, Na27, Ha27, Ga27⟩ := id V21
      obtain ⟨T27, h27, X27, e27, W27, st27⟩ := stC X21 hx hZ e21 Ar27 (j := (0 : Int32)) (inb_of Sa27 ⟨by decide, by decide⟩) (g := (mkF m 27 #[.val (.int p0), .val (.int p1), .val (.int p2), .val (.ref b21)] [(.int p1), (.int (0 : Int32)), (.ref b21)])) rfl rfl (hb hby d1_27)
      have V27 : Arv Z h27 b21 kc21 .char (1 : Int32) [(.int p1)] (.int (0 : Int32)) := by
        have q := Arv.set Ar27 qa27 Sa27 Na27 Ha27 Ga27 (fits_nar_char _) W27 0 rfl (Nat.le_of_ble_eq_true rfl)
        rw [own_narc hk1] at q
        exact q
      have K27 : Keep h0 h27 [] := K21.wr W27 (Or.inr sz_b21)
      have Z27 : n0 ≤ h27.size := Nat.le_trans Z21 (Keep.of_wr W27).1
      have CC27 := CHr.wr W27 (Safe.arv hZ.alike V21 (by decide)) CC21.1
      have CR27 := CR21.trans CC27
      have N27 := Fr.snoc X27 N0 g_b21
      refine own_by st27 ?_
      obtain ⟨T28, h28, X28, e28, E28, A28, D28, -, st28⟩ := newO X27 hx hZ hown (hw _ (List.mem_of_getElem? (i := 4) rfl)) (hw _ (List.mem_of_getElem? (i := 5) rfl)) (hw _ (List.mem_of_getElem? (i := 6) rfl)) e27 (g := (mkF m 28 #[.val (.int p0), .val (.int p1), .val (.int p2), .val (.ref b21)] [])) rfl (hb hby d1_28) (by decide) (by decide)
      obtain ⟨b28, g28⟩ : ∃ z, z = h27.size := ⟨_, rfl⟩
      rw [← g28] at A28 D28 st28
      have ne_b21_b28 : b21 ≠ b28 := Nat.ne_of_lt (Nat.lt_of_lt_of_le V27.lt (Nat.le_of_eq g28.symm))
      have g_b28 : n0 ≤ b28 := Nat.le_trans Z27 (Nat.le_of_eq g28.symm)
      have sz_b28 : h0.size ≤ b28 := Nat.le_trans K27.1 (Nat.le_of_eq g28.symm)
      have K28 := K27.ext E28
      have Z28 : n0 ≤ h28.size := Nat.le_trans Z27 E28.1
      have CC28 := CHr.ext E28 CC27.1
      have CR28 := CR27.trans CC28
      have F_value_b28 : Fld Z h28 b28 "java/lang/String" "value" "[B" .null := D28 (Or.inr (hw _ (List.mem_of_getElem? (i := 20) rfl))) (ty := (.array .byte)) (by decide)
      have F_coder_b28 : Fld Z h28 b28 "java/lang/String" "coder" "B" (.int (0 : Int32)) := D28 (Or.inr (hw _ (List.mem_of_getElem? (i := 21) rfl))) (ty := .byte) (by decide)
      refine own_by st28 ?_
      have sg33 : ∀ t, own_S p e below T28 (mkF m 33 #[.val (.int p0), .val (.int p1), .val (.int p2), .val (.ref b21)] [(.ref b21), (.ref b28), (.ref b28)]) t → own_S p e below T28 (mkF m 31 #[.val (.int p0), .val (.int p1), .val (.int p2), .val (.ref b21)] [(.ref b28)]) t := by
        intro t k
        show own_S p e below T28 (mkF m 31 #[.val (.int p0), .val (.int p1), .val (.int p2), .val (.ref b21)] [(.ref b28)]) _
        refine XS.dup X28.here hx rfl (hb hby d1_31) rfl rfl ?_
        show own_S p e below T28 (mkF m 32 #[.val (.int p0), .val (.int p1), .val (.int p2), .val (.ref b21)] [(.ref b28), (.ref b28)]) _
        refine XS.aloadN X28.here hx rfl (hb hby d1_32) rfl rfl ?_
        exact k
      refine own_by sg33 ?_
      have hp33 : ∀ c ∈ ([p1] : List Int32), ¬ c < 0 ∧ ¬ (255 : Int32) < c := by
        intro c hc
        simp only [List.mem_cons, List.not_mem_nil, or_false] at hc
        rcases hc with rfl
        · exact hk1
      obtain ⟨_, _, ⟨T33, L33, k33, n33⟩, -, X33, ⟨Lc33, hQ33, l33, y33, z33⟩, st33⟩ := X28.specialBack hx (y := (⟨"java/lang/String", "<init>", "([C)V"⟩ : MethodName)) rfl hown (mvT hZ (hw _ (List.mem_of_getElem? (i := 8) rfl))) (mvT hZ (hw _ (List.mem_of_getElem? (i := 9) rfl))) (mvT hZ (hw _ (List.mem_of_getElem? (i := 10) rfl))) (by decide) (StrChars.Road.backV (W := 1) hZ hws (kI := 4) (hw _ (List.mem_of_getElem? (i := 5) rfl)) (cs := ([p1] : List Int32)) (bs := ([p1] : List Int32).map (fun c => c.toInt8.toInt32)) (n := 1) g_b28 Z28 A28 F_value_b28 F_coder_b28 (V27.ext E28) (O2.ext (((O.ext E21).wr W27 g_b21).ext E28).2) P5 rfl rfl (by decide) (by decide) hp33 rfl (by decide) (by decide)) (g := (mkF m 33 #[.val (.int p0), .val (.int p1), .val (.int p2), .val (.ref b21)] [(.ref b21), (.ref b28), (.ref b28)])) rfl (by rw [hml]; rfl) (Steps.refl _) (a := b28) (argsL := [(.ref b21)]) (rest := [(.ref b28)]) (lenOf pd_1_0 rfl) rfl (by show 2 * 0 + _ ≤ _; exact Nat.le_of_eq rfl) (hb hby d1_33) (fun _ _ => ⟨rfl, e28, (by decide : 2 + 1 ≤ _), (by decide : 5 + 1 ≤ _)⟩)
      dsimp only [Pt.U, Pt.locs, Pt.cells, Pt.slots] at X33 l33 y33 z33 st33 hQ33
      subst l33 y33 z33
      obtain ⟨rfl, N33q, Kq33, Eq33, Cq33, t33, kb33, u133, u233, u333, Vq33, Aq33⟩ := hQ33
      have N33 := Fr.app N27 N33q
      have ne_b21_t33 : b21 ≠ t33 := Nat.ne_of_lt (Nat.lt_of_lt_of_le (V27.ext E28).lt u233)
      have ne_b28_t33 : b28 ≠ t33 := Nat.ne_of_lt (Nat.lt_of_lt_of_le A28.lt u233)
      have g_t33 : n0 ≤ t33 := Nat.le_trans Z28 u233
      have sz_t33 : h0.size ≤ t33 := Nat.le_trans K28.1 u233
      have fc := ((V27.ext E28).keep Kq33 (fun h => ne_b21_b28 (List.mem_singleton.mp h)))
      have K33 : Keep h0 T33.heap [] := K28.trans Kq33 (fun x hx => by cases List.mem_singleton.mp hx; exact Or.inr sz_b28)
      have Z33 : n0 ≤ T33.heap.size := Nat.le_trans Z28 Kq33.1
      have CC33 := CHr.keep Kq33 (sfS (own_safe0 hZ.alike A28 F_value_b28 (hw _ (List.mem_of_getElem? (i := 5) rfl))) sf0) CC28.1
      have CR33 := CR28.trans CC33
      refine own_by (fun t k => st33.trans k) ?_
      obtain ⟨fs, hr, hrun, hended, hW⟩ := X33.leaveW hS0 (Nat.le_trans (Nat.le_trans (Nat.le_trans (Nat.le_trans (Nat.zero_le _) E21.1) (Keep.of_wr W27).1) E28.1) Kq33.1) (v := some (.ref b28)) (fun h => by rw [Bd.returns] at h; cases h)
      refine ⟨_, _, ?_, hrun, hended, _, _, rfl, ?_, (by rw [hh]; show CHr Z consts_1 s.vm h0 T33.vm T33.heap; exact CR33.trans (CHv.at X33 hZ hEL CC33.1)), hW.1, hW.2.1, hW.2.2.1, hW.2.2.2.mono (by decide) (by decide)⟩
      · show Steps p.tables e below (T33.setTop (mkF m 36 #[.val (.int p0), .val (.int p1), .val (.int p2), .val (.ref b21)] [(.ref b28)])) _
        jvm_step X33.here [X33.here.top, hx, (hb hby d1_36), X33.method', Bd.returns, Value.isRef, FieldType.isReference]
        first | (intro acts; rw [hr _ acts rfl rfl rfl]) | rw [hr _ _ rfl rfl rfl]
        exact Steps.refl _
      · show Q1 Z p0 p1 p2 gz h0 n0 _ T33.heap _
        exact ⟨_, rfl, sz_b28, N33, K33, (by unfold own_cs; rw [if_neg hc1, if_pos hc17]; exact (⟨t33, kb33, 0, (1 : Int32), _, Eq33, Vq33, Cq33, Aq33, StrChars.Road.codOf (n := 1) rfl (fun x hx => (hp33 x hx).2), own_up _ hp33, Nat.le_of_ble_eq_true rfl⟩ : own_Str Z T33.heap b28 ([p1] : List Int32)))⟩
    · have sg38 : ∀ t, own_S p e below s₁ (mkF m 38 #[.val (.int p0), .val (.int p1), .val (.int p2), .unset] [(.int (2 : Int32))]) t → own_S p e below s₁ (mkF m 17 #[.val (.int p0), .val (.int p1), .val (.int p2), .unset] [(.int (1 : Int32)), (.int p0)]) t := by
        intro t k
        show own_S p e below s₁ (mkF m 17 #[.val (.int p0), .val (.int p1), .val (.int p2), .unset] [(.int (1 : Int32)), (.int p0)]) _
        refine XS.icmpYes X0.here hx rfl (pc0 := 17) (pc' := 37) rfl (hb hby d1_17) rfl (feq hc17).2 (by decide) (by decide) ?_
        show own_S p e below s₁ (mkF m 37 #[.val (.int p0), .val (.int p1), .val (.int p2), .unset] []) _
        refine XS.iconst X0.here hx rfl (hb hby d1_37) ?_
        exact k
      refine own_by sg38 ?_
      obtain ⟨T38, h38, kc38, X38, e38, E38, A38, st38⟩ := newP X0 hx hZ (hw _ (List.mem_of_getElem? (i := 7) rfl)) e0 (g := (mkF m 38 #[.val (.int p0), .val (.int p1), .val (.int p2), .unset] [(.int (2 : Int32))])) rfl (hb hby d1_38) rfl (by decide) (cap := 2) (by decide) (by decide) (by decide) (by decide)
      obtain ⟨b38, g38⟩ : ∃ z, z = h0.size := ⟨_, rfl⟩
      rw [← g38] at A38 st38
      have g_b38 : n0 ≤ b38 := Nat.le_trans Z0 (Nat.le_of_eq g38.symm)
      have sz_b38 : h0.size ≤ b38 := Nat.le_trans K0.1 (Nat.le_of_eq g38.symm)
      have K38 := K0.ext E38
      have Z38 : n0 ≤ h38.size := Nat.le_trans Z0 E38.1
      have CC38 := CHr.ext E38 hH0
      have CR38 := (CHr.refl hH0).trans CC38
      have V38 : Arv Z h38 b38 kc38 .char (2 : Int32) [(.int (0 : Int32)), (.int (0 : Int32))] (.int (0 : Int32)) := (Arv.new A38 (by decide)).pad (pad_rep [] (.int (0 : Int32)) 2)
      refine own_by st38 ?_
      have sg44 : ∀ t, own_S p e below T38 (mkF m 44 #[.val (.int p0), .val (.int p1), .val (.int p2), .val (.ref b38)] [(.int p1), (.int (0 : Int32)), (.ref b38)]) t → own_S p e below T38 (mkF m 40 #[.val (.int p0), .val (.int p1), .val (.int p2), .unset] [(.ref b38)]) t := by
        intro t k
        show own_S p e below T38 (mkF m 40 #[.val (.int p0), .val (.int p1), .val (.int p2), .unset] [(.ref b38)]) _
        refine XS.astoreN X38.here hx rfl (hb hby d1_40) rfl rfl (l' := #[.val (.int p0), .val (.int p1), .val (.int p2), .val (.ref b38)]) rfl ?_
        show own_S p e below T38 (mkF m 41 #[.val (.int p0), .val (.int p1), .val (.int p2), .val (.ref b38)] []) _
        refine XS.aloadN X38.here hx rfl (hb hby d1_41) rfl rfl ?_
        show own_S p e below T38 (mkF m 42 #[.val (.int p0), .val (.int p1), .val (.int p2), .val (.ref b38)] [(.ref b38)]) _
        refine XS.iconst X38.here hx rfl (hb hby d1_42) ?_
        show own_S p e below T38 (mkF m 43 #[.val (.int p0), .val (.int p1), .val (.int p2), .val (.ref b38)] [(.int (0 : Int32)), (.ref b38)]) _
        refine XS.iloadN X38.here hx rfl (hb hby d1_43) rfl ?_
        exact k
      refine own_by sg44 ?_
      obtain ⟨cl44, Ar44, qa44, Sa44, Na44, Ha44, Ga44⟩ := id V38
      obtain ⟨T44, h44, X44, e44, W44, st44⟩ := stC X38 hx hZ e38 Ar44 (j := (0 : Int32)) (inb_of Sa44 ⟨by decide, by decide⟩) (g := (mkF m 44 #[.val (.int p0), .val (.int p1), .val (.int p2), .val (.ref b38)] [(.int p1), (.int (0 : Int32)), (.ref b38)])) rfl rfl (hb hby d1_44)
      have V44 : Arv Z h44 b38 kc38 .char (2 : Int32) [(.int p1), (.int (0 : Int32))] (.int (0 : Int32)) := by
        have q := Arv.set Ar44 qa44 Sa44 Na44 Ha44 Ga44 (fits_nar_char _) W44 0 rfl (Nat.le_of_ble_eq_true rfl)
        rw [own_narc hk1] at q
        exact q
      have K44 : Keep h0 h44 [] := K38.wr W44 (Or.inr sz_b38)
      have Z44 : n0 ≤ h44.size := Nat.le_trans Z38 (Keep.of_wr W44).1
      have CC44 := CHr.wr W44 (Safe.arv hZ.alike V38 (by decide)) CC38.1
      have CR44 := CR38.trans CC44
      have N44 := Fr.snoc X44 N0 g_b38
      refine own_by st44 ?_
      have sg48 : ∀ t, own_S p e below T44 (mkF m 48 #[.val (.int p0), .val (.int p1), .val (.int p2), .val (.ref b38)] [(.int p2), (.int (1 : Int32)), (.ref b38)]) t → own_S p e below T44 (mkF m 45 #[.val (.int p0), .val (.int p1), .val (.int p2), .val (.ref b38)] []) t := by
        intro t k
        show own_S p e below T44 (mkF m 45 #[.val (.int p0), .val (.int p1), .val (.int p2), .val (.ref b38)] []) _
        refine XS.aloadN X44.here hx rfl (hb hby d1_45) rfl rfl ?_
        show own_S p e below T44 (mkF m 46 #[.val (.int p0), .val (.int p1), .val (.int p2), .val (.ref b38)] [(.ref b38)]) _
        refine XS.iconst X44.here hx rfl (hb hby d1_46) ?_
        show own_S p e below T44 (mkF m 47 #[.val (.int p0), .val (.int p1), .val (.int p2), .val (.ref b38)] [(.int (1 : Int32)), (.ref b38)]) _
        refine XS.iloadN X44.here hx rfl (hb hby d1_47) rfl ?_
        exact k
      refine own_by sg48 ?_
      obtain ⟨cl48, Ar48, qa48, Sa48, Na48, Ha48, Ga48⟩ := id V44
      obtain ⟨T48, h48, X48, e48, W48, st48⟩ := stC X44 hx hZ e44 Ar48 (j := (1 : Int32)) (inb_of Sa48 ⟨by decide, by decide⟩) (g := (mkF m 48 #[.val (.int p0), .val (.int p1), .val (.int p2), .val (.ref b38)] [(.int p2), (.int (1 : Int32)), (.ref b38)])) rfl rfl (hb hby d1_48)
      have V48 : Arv Z h48 b38 kc38 .char (2 : Int32) [(.int p1), (.int p2)] (.int (0 : Int32)) := by
        have q := Arv.set Ar48 qa48 Sa48 Na48 Ha48 Ga48 (fits_nar_char _) W48 1 rfl (Nat.le_of_ble_eq_true rfl)
        rw [own_narc hk2] at q
        exact q
      have K48 : Keep h0 h48 [] := K44.wr W48 (Or.inr sz_b38)
      have Z48 : n0 ≤ h48.size := Nat.le_trans Z44 (Keep.of_wr W48).1
      have CC48 := CHr.wr W48 (Safe.arv hZ.alike V44 (by decide)) CC44.1
      have CR48 := CR44.trans CC48
      have N48 := Fr.snoc X48 N44 g_b38
      refine own_by st48 ?_
      obtain ⟨T49, h49, X49, e49, E49, A49, D49, -, st49⟩ := newO X48 hx hZ hown (hw _ (List.mem_of_getElem? (i := 4) rfl)) (hw _ (List.mem_of_getElem? (i := 5) rfl)) (hw _ (List.mem_of_getElem? (i := 6) rfl)) e48 (g := (mkF m 49 #[.val (.int p0), .val (.int p1), .val (.int p2), .val (.ref b38)] [])) rfl (hb hby d1_49) (by decide) (by decide)
      obtain ⟨b49, g49⟩ : ∃ z, z = h48.size := ⟨_, rfl⟩
      rw [← g49] at A49 D49 st49
      have ne_b38_b49 : b38 ≠ b49 := Nat.ne_of_lt (Nat.lt_of_lt_of_le V48.lt (Nat.le_of_eq g49.symm))
      have g_b49 : n0 ≤ b49 := Nat.le_trans Z48 (Nat.le_of_eq g49.symm)
      have sz_b49 : h0.size ≤ b49 := Nat.le_trans K48.1 (Nat.le_of_eq g49.symm)
      have K49 := K48.ext E49
      have Z49 : n0 ≤ h49.size := Nat.le_trans Z48 E49.1
      have CC49 := CHr.ext E49 CC48.1
      have CR49 := CR48.trans CC49
      have F_value_b49 : Fld Z h49 b49 "java/lang/String" "value" "[B" .null := D49 (Or.inr (hw _ (List.mem_of_getElem? (i := 20) rfl))) (ty := (.array .byte)) (by decide)
      have F_coder_b49 : Fld Z h49 b49 "java/lang/String" "coder" "B" (.int (0 : Int32)) := D49 (Or.inr (hw _ (List.mem_of_getElem? (i := 21) rfl))) (ty := .byte) (by decide)
      refine own_by st49 ?_
      have sg54 : ∀ t, own_S p e below T49 (mkF m 54 #[.val (.int p0), .val (.int p1), .val (.int p2), .val (.ref b38)] [(.ref b38), (.ref b49), (.ref b49)]) t → own_S p e below T49 (mkF m 52 #[.val (.int p0), .val (.int p1), .val (.int p2), .val (.ref b38)] [(.ref b49)]) t := by
        intro t k
        show own_S p e below T49 (mkF m 52 #[.val (.int p0), .val (.int p1), .val (.int p2), .val (.ref b38)] [(.ref b49)]) _
        refine XS.dup X49.here hx rfl (hb hby d1_52) rfl rfl ?_
        show own_S p e below T49 (mkF m 53 #[.val (.int p0), .val (.int p1), .val (.int p2), .val (.ref b38)] [(.ref b49), (.ref b49)]) _
        refine XS.aloadN X49.here hx rfl (hb hby d1_53) rfl rfl ?_
        exact k
      refine own_by sg54 ?_
      have hp54 : ∀ c ∈ ([p1, p2] : List Int32), ¬ c < 0 ∧ ¬ (255 : Int32) < c := by
        intro c hc
        simp only [List.mem_cons, List.not_mem_nil, or_false] at hc
        rcases hc with rfl | rfl
        · exact hk1
        · exact hk2
      obtain ⟨_, _, ⟨T54, L54, k54, n54⟩, -, X54, ⟨Lc54, hQ54, l54, y54, z54⟩, st54⟩ := X49.specialBack hx (y := (⟨"java/lang/String", "<init>", "([C)V"⟩ : MethodName)) rfl hown (mvT hZ (hw _ (List.mem_of_getElem? (i := 8) rfl))) (mvT hZ (hw _ (List.mem_of_getElem? (i := 9) rfl))) (mvT hZ (hw _ (List.mem_of_getElem? (i := 10) rfl))) (by decide) (StrChars.Road.backV (W := 1) hZ hws (kI := 4) (hw _ (List.mem_of_getElem? (i := 5) rfl)) (cs := ([p1, p2] : List Int32)) (bs := ([p1, p2] : List Int32).map (fun c => c.toInt8.toInt32)) (n := 2) g_b49 Z49 A49 F_value_b49 F_coder_b49 (V48.ext E49) (O2.ext ((((O.ext E38).wr W44 g_b38).wr W48 g_b38).ext E49).2) P5 rfl rfl (by decide) (by decide) hp54 rfl (by decide) (by decide)) (g := (mkF m 54 #[.val (.int p0), .val (.int p1), .val (.int p2), .val (.ref b38)] [(.ref b38), (.ref b49), (.ref b49)])) rfl (by rw [hml]; rfl) (Steps.refl _) (a := b49) (argsL := [(.ref b38)]) (rest := [(.ref b49)]) (lenOf pd_1_0 rfl) rfl (by show 2 * 0 + _ ≤ _; exact Nat.le_of_eq rfl) (hb hby d1_54) (fun _ _ => ⟨rfl, e49, (by decide : 2 + 1 ≤ _), (by decide : 6 + 2 ≤ _)⟩)
      dsimp only [Pt.U, Pt.locs, Pt.cells, Pt.slots] at X54 l54 y54 z54 st54 hQ54
      subst l54 y54 z54
      obtain ⟨rfl, N54q, Kq54, Eq54, Cq54, t54, kb54, u154, u254, u354, Vq54, Aq54⟩ := hQ54
      have N54 := Fr.app N48 N54q
      have ne_b38_t54 : b38 ≠ t54 := Nat.ne_of_lt (Nat.lt_of_lt_of_le (V48.ext E49).lt u254)
      have ne_b49_t54 : b49 ≠ t54 := Nat.ne_of_lt (Nat.lt_of_lt_of_le A49.lt u254)
      have g_t54 : n0 ≤ t54 := Nat.le_trans Z49 u254
      have sz_t54 : h0.size ≤ t54 := Nat.le_trans K49.1 u254
      have fc := ((V48.ext E49).keep Kq54 (fun h => ne_b38_b49 (List.mem_singleton.mp h)))
      have K54 : Keep h0 T54.heap [] := K49.trans Kq54 (fun x hx => by cases List.mem_singleton.mp hx; exact Or.inr sz_b49)
      have Z54 : n0 ≤ T54.heap.size := Nat.le_trans Z49 Kq54.1
      have CC54 := CHr.keep Kq54 (sfS (own_safe0 hZ.alike A49 F_value_b49 (hw _ (List.mem_of_getElem? (i := 5) rfl))) sf0) CC49.1
      have CR54 := CR49.trans CC54
      refine own_by (fun t k => st54.trans k) ?_
      obtain ⟨fs, hr, hrun, hended, hW⟩ := X54.leaveW hS0 (Nat.le_trans (Nat.le_trans (Nat.le_trans (Nat.le_trans (Nat.le_trans (Nat.zero_le _) E38.1) (Keep.of_wr W44).1) (Keep.of_wr W48).1) E49.1) Kq54.1) (v := some (.ref b49)) (fun h => by rw [Bd.returns] at h; cases h)
      refine ⟨_, _, ?_, hrun, hended, _, _, rfl, ?_, (by rw [hh]; show CHr Z consts_1 s.vm h0 T54.vm T54.heap; exact CR54.trans (CHv.at X54 hZ hEL CC54.1)), hW.1, hW.2.1, hW.2.2.1, hW.2.2.2.mono (by decide) (by decide)⟩
      · show Steps p.tables e below (T54.setTop (mkF m 57 #[.val (.int p0), .val (.int p1), .val (.int p2), .val (.ref b38)] [(.ref b49)])) _
        jvm_step X54.here [X54.here.top, hx, (hb hby d1_57), X54.method', Bd.returns, Value.isRef, FieldType.isReference]
        first | (intro acts; rw [hr _ acts rfl rfl rfl]) | rw [hr _ _ rfl rfl rfl]
        exact Steps.refl _
      · show Q1 Z p0 p1 p2 gz h0 n0 _ T54.heap _
        exact ⟨_, rfl, sz_b49, N54, K54, (by unfold own_cs; rw [if_neg hc1, if_neg hc17]; exact (⟨t54, kb54, 0, (2 : Int32), _, Eq54, Vq54, Cq54, Aq54, StrChars.Road.codOf (n := 2) rfl (fun x hx => (hp54 x hx).2), own_up _ hp54, Nat.le_of_ble_eq_true rfl⟩ : own_Str Z T54.heap b49 ([p1, p2] : List Int32)))⟩
theorem d6_0 : decode jdk_31_method_11_code 0 = .ok (.aload_n 0, 1) := by decide +kernel
theorem d6_1 : decode jdk_31_method_11_code 1 = .ok (.ifnonnull 12, 3) := by decide +kernel
theorem d6_13 : decode jdk_31_method_11_code 13 = .ok (.aload_n 0, 1) := by decide +kernel
theorem d6_14 : decode jdk_31_method_11_code 14 = .ok (.areturn, 1) := by decide +kernel
theorem pn_6 : plainFor (⟨"java/util/Objects", "requireNonNull", "(Ljava/lang/Object;Ljava/lang/String;)Ljava/lang/Object;"⟩ : MethodName) = true := by first | exact plainFor_of_name (by first | (simp [plainName, overriddenIn]; done) | decide +kernel) | decide +kernel | exact Jvm.Free.JP.mathPlain rfl (by decide +kernel)
theorem ef_6 (m : MethodId) (a1 : Addr) (a2 : Addr) : entryFrame m #[(.ref a1), (.ref a2)] 2 = mkF m 0 #[.val (.ref a1), .val (.ref a2)] [] := by first | (simp [entryFrame, mkF, argsToLocals, Value.category]; done) | rfl
def Q6 (Z : State) (a1 : Addr) (a2 : Addr) (h0 : Heap) (n0 : Nat) (v : Option Value) (h : Heap) (L : List Loc) : Prop := v = some (.ref a1) ∧ Fr n0 L ∧ h = h0
set_option maxRecDepth 65536 in
set_option maxHeartbeats 40000000 in
theorem rm6 (l : Launch) (Z : State) (a0 : Array Value) (hw : ∀ d ∈ tables_1, d.before a0 Z = true) (ws : List Jvm.Cond) (a1 : Addr) (a2 : Addr) (h0 : Heap) (n0 : Nat) (Z0 : n0 ≤ h0.size) :
    MetFree l (⟨"java/util/Objects", "requireNonNull", "(Ljava/lang/Object;Ljava/lang/String;)Ljava/lang/Object;"⟩ : MethodName) (head1 (Jvm.Cond.code (⟨"java/util/Objects", "requireNonNull", "(Ljava/lang/Object;Ljava/lang/String;)Ljava/lang/Object;"⟩ : MethodName) jdk_31_method_11_code 2 (some (.object "java/lang/Object")) :: ws) ({ frames := 0, cells := 0, slots := 0, locals := 0 } : Room)) (fun a U => a = #[(.ref a1), (.ref a2)] ∧ Z.Warmed39 U.vm ∧ U.heap = h0) (fun _ _ _ _ _ => True) (fun _ U o U' => ∃ v L, o = .returned v ∧ Q6 Z a1 a2 h0 n0 v U'.heap L ∧ FrameEnd U o U' L ({ frames := 0, cells := 0, slots := 0, locals := 0 } : Room).cells ({ frames := 0, cells := 0, slots := 0, locals := 0 } : Room).slots) := by
  refine MetFree.of_bodySF pn_6 hisR ?_
  intro p e s m args below meth c s₁ Bd hml0 hP hK
  obtain ⟨rfl, hZ, hh⟩ := hP
  have hx := Bd.exec
  have hby := Bd.bytes
  have hml : c.maxLocals = 2 := hml0
  have hown : s.vm.findClass "java/util/Objects" = some m.cls := findClass_of_methodNamed Bd.named
  have hnm := (name_of_methodNamed Bd.named Bd.method).1
  have X0 : Stand p l e ({ frames := 0, cells := 0, slots := 0, locals := 0 } : Room) s m #[(.ref a1), (.ref a2)] below meth c s₁ [] 0 0 := Stand.of_body Bd
  have e0 : s₁.heap = h0 := by rw [← hh, Bd.state]; rfl
  have N0 := Fr.nil n0
  refine own_at (castTop (ef_6 m a1 a2)) ?_
  have sg14 : ∀ t, own_S p e below s₁ (mkF m 14 #[.val (.ref a1), .val (.ref a2)] [(.ref a1)]) t → own_S p e below s₁ (mkF m 0 #[.val (.ref a1), .val (.ref a2)] []) t := by
    intro t k
    show own_S p e below s₁ (mkF m 0 #[.val (.ref a1), .val (.ref a2)] []) _
    refine XS.aloadN X0.here hx rfl (hb hby d6_0) rfl rfl ?_
    show own_S p e below s₁ (mkF m 1 #[.val (.ref a1), .val (.ref a2)] [(.ref a1)]) _
    refine XS.ifnonnullYes X0.here hx rfl (pc0 := 1) (pc' := 13) rfl (hb hby d6_1) rfl (by decide) (by decide) ?_
    show own_S p e below s₁ (mkF m 13 #[.val (.ref a1), .val (.ref a2)] []) _
    refine XS.aloadN X0.here hx rfl (hb hby d6_13) rfl rfl ?_
    exact k
  refine own_by sg14 ?_
  obtain ⟨fs, hr, hrun, hended, hW, hsame⟩ := X0.leave (v := some (.ref a1)) (fun h => by rw [Bd.returns] at h; cases h)
  refine ⟨_, _, ?_, hrun, hended, _, _, rfl, ?_, ⟨_, rfl⟩, hW, hsame.mono (by decide) (by decide)⟩
  · show Steps p.tables e below (s₁.setTop (mkF m 14 #[.val (.ref a1), .val (.ref a2)] [(.ref a1)])) _
    jvm_step X0.here [X0.here.top, hx, (hb hby d6_14), X0.method', Bd.returns, Value.isRef, FieldType.isReference]
    first | (intro acts; rw [hr _ acts rfl rfl rfl]) | rw [hr _ _ rfl rfl rfl]
    exact Steps.refl _
  · show Q6 Z a1 a2 h0 n0 _ s₁.heap _
    rw [e0]
    exact ⟨rfl, N0, rfl⟩
theorem d5_0 : decode prog_13_method_1_code 0 = .ok (.aload_n 0, 1) := by decide +kernel
theorem d5_1 : decode prog_13_method_1_code 1 = .ok (.invokespecial 1, 3) := by decide +kernel
theorem d5_4 : decode prog_13_method_1_code 4 = .ok (.aload_n 0, 1) := by decide +kernel
theorem d5_5 : decode prog_13_method_1_code 5 = .ok (.aload_n 1, 1) := by decide +kernel
theorem d5_6 : decode prog_13_method_1_code 6 = .ok (.ldc 7, 2) := by decide +kernel
theorem d5_8 : decode prog_13_method_1_code 8 = .ok (.invokestatic 9, 3) := by decide +kernel
theorem d5_11 : decode prog_13_method_1_code 11 = .ok (.checkcast 15, 3) := by decide +kernel
theorem d5_14 : decode prog_13_method_1_code 14 = .ok (.putfield 17, 3) := by decide +kernel
theorem d5_17 : decode prog_13_method_1_code 17 = .ok (.aload_n 0, 1) := by decide +kernel
theorem d5_18 : decode prog_13_method_1_code 18 = .ok (.aload_n 2, 1) := by decide +kernel
theorem d5_19 : decode prog_13_method_1_code 19 = .ok (.ldc 22, 2) := by decide +kernel
theorem d5_21 : decode prog_13_method_1_code 21 = .ok (.invokestatic 9, 3) := by decide +kernel
theorem d5_24 : decode prog_13_method_1_code 24 = .ok (.checkcast 15, 3) := by decide +kernel
theorem d5_27 : decode prog_13_method_1_code 27 = .ok (.putfield 24, 3) := by decide +kernel
theorem d5_30 : decode prog_13_method_1_code 30 = .ok (.return_, 1) := by decide +kernel
theorem pn_5 : plainFor (⟨"com/example/forget_by_time/forgetbytime/engine/TableName", "<init>", "(Ljava/lang/String;Ljava/lang/String;)V"⟩ : MethodName) = true := by first | exact plainFor_of_name (by first | (simp [plainName, overriddenIn]; done) | decide +kernel) | decide +kernel | exact Jvm.Free.JP.mathPlain rfl (by decide +kernel)
theorem pd_5_0 : parseMethodDescriptor "(Ljava/lang/Object;Ljava/lang/String;)Ljava/lang/Object;" = some ⟨[(.object "java/lang/Object"), (.object "java/lang/String")], some (.object "java/lang/Object")⟩ := by decide +kernel
theorem ef_5 (m : MethodId) (a1 : Addr) (s1 : Addr) (s2 : Addr) : entryFrame m #[(.ref a1), (.ref s1), (.ref s2)] 3 = mkF m 0 #[.val (.ref a1), .val (.ref s1), .val (.ref s2)] [] := by first | (simp [entryFrame, mkF, argsToLocals, Value.category]; done) | rfl
def Q5 (Z : State) (a1 : Addr) (s1 : Addr) (s2 : Addr) (h0 : Heap) (n0 : Nat) (v : Option Value) (h : Heap) (L : List Loc) : Prop := v = none ∧ Fr n0 L ∧ Keep h0 h [a1] ∧ Exa Z h a1 "com/example/forget_by_time/forgetbytime/engine/TableName" ∧ Fld Z h a1 "com/example/forget_by_time/forgetbytime/engine/TableName" "schema" "Ljava/lang/String;" (.ref s1) ∧ Fld Z h a1 "com/example/forget_by_time/forgetbytime/engine/TableName" "name" "Ljava/lang/String;" (.ref s2)
set_option maxRecDepth 65536 in
set_option maxHeartbeats 40000000 in
theorem rm5 (l : Launch) (Z : State) (a0 : Array Value) (hw : ∀ d ∈ tables_1, d.before a0 Z = true) (ws : List Jvm.Cond) (a1 : Addr) (s1 : Addr) (s2 : Addr) (h0 : Heap) (n0 : Nat) (Z0 : n0 ≤ h0.size) (E_a1 : Exa Z h0 a1 "com/example/forget_by_time/forgetbytime/engine/TableName") (F_schema : Fld Z h0 a1 "com/example/forget_by_time/forgetbytime/engine/TableName" "schema" "Ljava/lang/String;" .null) (F_name : Fld Z h0 a1 "com/example/forget_by_time/forgetbytime/engine/TableName" "name" "Ljava/lang/String;" .null) (g_a1 : n0 ≤ a1) (E_s1 : Exa Z h0 s1 "java/lang/String") (E_s2 : Exa Z h0 s2 "java/lang/String") :
    MetFree l (⟨"com/example/forget_by_time/forgetbytime/engine/TableName", "<init>", "(Ljava/lang/String;Ljava/lang/String;)V"⟩ : MethodName) (head1 (Jvm.Cond.code (⟨"com/example/forget_by_time/forgetbytime/engine/TableName", "<init>", "(Ljava/lang/String;Ljava/lang/String;)V"⟩ : MethodName) prog_13_method_1_code 3 none :: ws) ({ frames := 1, cells := 4, slots := 48, locals := 14 } : Room)) (fun a U => a = #[(.ref a1), (.ref s1), (.ref s2)] ∧ Z.Warmed39 U.vm ∧ U.heap = h0 ∧ CHv Z consts_1 U.vm h0) (fun _ _ _ _ _ => True) (fun _ U o U' => ∃ v L, o = .returned v ∧ Q5 Z a1 s1 s2 h0 n0 v U'.heap L ∧ CHr Z consts_1 U.vm U.heap U'.vm U'.heap ∧ ReturnedEndW U o U' L ({ frames := 1, cells := 4, slots := 48, locals := 14 } : Room).cells ({ frames := 1, cells := 4, slots := 48, locals := 14 } : Room).slots) := by
  refine MetFree.of_bodySF pn_5 hisR ?_
  intro p e s m args below meth c s₁ Bd hml0 hP hK
  obtain ⟨rfl, hZ, hh, hH0⟩ := hP
  have hx := Bd.exec
  have hby := Bd.bytes
  have hml : c.maxLocals = 3 := hml0
  have hown : s.vm.findClass "com/example/forget_by_time/forgetbytime/engine/TableName" = some m.cls := findClass_of_methodNamed Bd.named
  have hnm := (name_of_methodNamed Bd.named Bd.method).1
  have X0 : Stand p l e ({ frames := 1, cells := 4, slots := 48, locals := 14 } : Room) (s.setVm s.vm) m #[(.ref a1), (.ref s1), (.ref s2)] below meth c s₁ [] 0 0 := Stand.of_body Bd
  have e0 : s₁.heap = h0 := by rw [← hh, Bd.state]; rfl
  have N0 := Fr.nil n0
  have hS0 : s.Since s.vm 0 := (State.WarmedH.refl s).since 0
  refine own_at (castTop (ef_5 m a1 s1 s2)) ?_
  have K0 := Keep.refl h0 [a1]
  have wS : ∀ a ∈ Bundle.stringAtoms, a.before a0 Z = true := fun d hd => hw d ((by decide +kernel : ∀ d ∈ Bundle.stringAtoms, d ∈ tables_1) d hd)
  have hEL : EW _ _ consts_1 := (EW.cons (hw _ (List.mem_of_getElem? (i := 33) rfl)) (by decide) (EW.cons (hw _ (List.mem_of_getElem? (i := 41) rfl)) (by decide) (EW.cons (hw _ (List.mem_of_getElem? (i := 18) rfl)) (by decide) EW.nil)))
  have sg1 : ∀ t, own_S p e below s₁ (mkF m 1 #[.val (.ref a1), .val (.ref s1), .val (.ref s2)] [(.ref a1)]) t → own_S p e below s₁ (mkF m 0 #[.val (.ref a1), .val (.ref s1), .val (.ref s2)] []) t := by
    intro t k
    show own_S p e below s₁ (mkF m 0 #[.val (.ref a1), .val (.ref s1), .val (.ref s2)] []) _
    refine XS.aloadN X0.here hx rfl (hb hby d5_0) rfl rfl ?_
    exact k
  refine own_by sg1 ?_
  obtain ⟨T1, X1, e1, st1⟩ := initO X0 hx hZ hown (hw _ (List.mem_of_getElem? (i := 32) rfl)) (hw _ (List.mem_of_getElem? (i := 16) rfl)) (hw _ (List.mem_of_getElem? (i := 17) rfl)) e0 (g := (mkF m 1 #[.val (.ref a1), .val (.ref s1), .val (.ref s2)] [(.ref a1)])) rfl (by rw [hml]; rfl) rfl (hb hby d5_1) (by decide) (W := 0) (by show 2 * 0 + _ ≤ _; exact Nat.le_of_eq rfl) (by decide)
  refine own_by st1 ?_
  have sg6 : ∀ t, own_S p e below T1 (mkF m 6 #[.val (.ref a1), .val (.ref s1), .val (.ref s2)] [(.ref s1), (.ref a1)]) t → own_S p e below T1 (mkF m 4 #[.val (.ref a1), .val (.ref s1), .val (.ref s2)] []) t := by
    intro t k
    show own_S p e below T1 (mkF m 4 #[.val (.ref a1), .val (.ref s1), .val (.ref s2)] []) _
    refine XS.aloadN X1.here hx rfl (hb hby d5_4) rfl rfl ?_
    show own_S p e below T1 (mkF m 5 #[.val (.ref a1), .val (.ref s1), .val (.ref s2)] [(.ref a1)]) _
    refine XS.aloadN X1.here hx rfl (hb hby d5_5) rfl rfl ?_
    exact k
  refine own_by sg6 ?_
  obtain ⟨l6a, T6, h6, ks6, X6, e6, E6, hS6, hk6, hZ6, hown6, hC6, -, st6⟩ := ldcOH X1 hx hZ hown (hw _ (List.mem_of_getElem? (i := 33) rfl)) wS e1 hS0 (Nat.zero_le _) hEL hH0 (g := (mkF m 6 #[.val (.ref a1), .val (.ref s1), .val (.ref s2)] [(.ref s1), (.ref a1)])) rfl (hb hby d5_6) (n := 24) (by decide) (by decide) (by decide) (by decide)
  have K6 := K0.ext E6
  have Z6 : n0 ≤ h6.size := Nat.le_trans Z0 E6.1
  have CR6 := (CHr.refl hH0).trans hC6
  refine own_by st6 ?_
  obtain ⟨_, _, ⟨T8, L8, k8, n8⟩, -, X8, ⟨Lc8, hQ8, l8, y8, z8⟩, st8⟩ := Jvm.LawKit.callS X6 hx (y := (⟨"java/util/Objects", "requireNonNull", "(Ljava/lang/Object;Ljava/lang/String;)Ljava/lang/Object;"⟩ : MethodName)) hown6 (mvT hZ6 (hw _ (List.mem_of_getElem? (i := 34) rfl))) (mvT hZ6 (hw _ (List.mem_of_getElem? (i := 35) rfl))) (mvT hZ6 (hw _ (List.mem_of_getElem? (i := 36) rfl))) (mvT hZ6 (hw _ (List.mem_of_getElem? (i := 37) rfl))) (by decide) (backOf (W := 1) (rm6 l Z a0 hw [] s1 l6a h6 n0 Z6) hZ6 (hw _ (List.mem_of_getElem? (i := 37) rfl)) (hw _ (List.mem_of_getElem? (i := 36) rfl)) (by decide) (by decide)) (g := (mkF m 8 #[.val (.ref a1), .val (.ref s1), .val (.ref s2)] [(.ref l6a), (.ref s1), (.ref a1)])) rfl (by rw [hml]; rfl) (argsL := [(.ref s1), (.ref l6a)]) (rest := [(.ref a1)]) (lenOf pd_5_0 rfl) rfl (by show 2 * 0 + _ ≤ _; exact Nat.le_of_eq rfl) (hb hby d5_8) (fun _ _ => ⟨rfl, e6, (by decide : 2 + 0 ≤ _), (by decide : 28 + 0 ≤ _)⟩)
  dsimp only [Pt.U, Pt.locs, Pt.cells, Pt.slots] at X8 l8 y8 z8 st8 hQ8
  subst l8 y8 z8
  obtain ⟨rfl, N8q, hq8⟩ := hQ8
  have N8 := Fr.app N0 N8q
  refine own_by st8 ?_
  obtain ⟨T11, X11, e11, st11⟩ := castY X8 hx hZ6 hown6 (hw _ (List.mem_of_getElem? (i := 38) rfl)) hq8 (Ins.self (E_s1.ext E6)) (g := (mkF m 11 #[.val (.ref a1), .val (.ref s1), .val (.ref s2)] [(.ref s1), (.ref a1)])) rfl rfl (hb hby d5_11)
  refine own_by st11 ?_
  obtain ⟨T14, h14, X14, e14, W14, st14⟩ := putF X11 hx hZ6 hown6 (host := "") (Or.inl (hw _ (List.mem_of_getElem? (i := 39) rfl))) Via.refl e11 (F_schema.ext E6) (E_a1.ext E6) (Or.inr ⟨(hw _ (List.mem_of_getElem? (i := 40) rfl)), rfl, hnm⟩) (hw _ (List.mem_of_getElem? (i := 27) rfl)) (ty := (.object "java/lang/String")) (by decide) rfl rfl (g := (mkF m 14 #[.val (.ref a1), .val (.ref s1), .val (.ref s2)] [(.ref s1), (.ref a1)])) rfl rfl (hb hby d5_14)
  have Fw14 := (F_schema.ext E6).same W14
  have fc := ((F_name.ext E6).other W14 (Or.inr (slot_ne (Or.inr (hw _ (List.mem_of_getElem? (i := 43) rfl))) (Or.inr (hw _ (List.mem_of_getElem? (i := 40) rfl))) (by decide) (t := (.object "java/lang/String")) (t' := (.object "java/lang/String")) (by decide) (by decide))))
  have K14 : Keep h0 h14 [a1] := K6.wr W14 (Or.inl (List.mem_of_getElem? (i := 0) rfl))
  have Z14 : n0 ≤ h14.size := Nat.le_trans Z6 (Keep.of_wr W14).1
  have CC14 := CHr.wr W14 (Safe.exa hZ6.alike (E_a1.ext E6) (by decide) (by decide)) hC6.1
  have CR14 := CR6.trans CC14
  have N14 := Fr.snoc X14 N8 g_a1
  refine own_by st14 ?_
  have sg19 : ∀ t, own_S p e below T14 (mkF m 19 #[.val (.ref a1), .val (.ref s1), .val (.ref s2)] [(.ref s2), (.ref a1)]) t → own_S p e below T14 (mkF m 17 #[.val (.ref a1), .val (.ref s1), .val (.ref s2)] []) t := by
    intro t k
    show own_S p e below T14 (mkF m 17 #[.val (.ref a1), .val (.ref s1), .val (.ref s2)] []) _
    refine XS.aloadN X14.here hx rfl (hb hby d5_17) rfl rfl ?_
    show own_S p e below T14 (mkF m 18 #[.val (.ref a1), .val (.ref s1), .val (.ref s2)] [(.ref a1)]) _
    refine XS.aloadN X14.here hx rfl (hb hby d5_18) rfl rfl ?_
    exact k
  refine own_by sg19 ?_
  obtain ⟨l19a, T19, h19, ks19, X19, e19, E19, hS19, hk19, hZ19, hown19, hC19, -, st19⟩ := ldcOH X14 hx hZ6 hown6 (hw _ (List.mem_of_getElem? (i := 41) rfl)) wS e14 hS6 (Nat.le_trans hk6 (Keep.of_wr W14).1) hEL CC14.1 (g := (mkF m 19 #[.val (.ref a1), .val (.ref s1), .val (.ref s2)] [(.ref s2), (.ref a1)])) rfl (hb hby d5_19) (n := 16) (by decide) (by decide) (by decide) (by decide)
  have K19 := K14.ext E19
  have Z19 : n0 ≤ h19.size := Nat.le_trans Z14 E19.1
  have CR19 := CR14.trans hC19
  refine own_by st19 ?_
  obtain ⟨_, _, ⟨T21, L21, k21, n21⟩, -, X21, ⟨Lc21, hQ21, l21, y21, z21⟩, st21⟩ := Jvm.LawKit.callS X19 hx (y := (⟨"java/util/Objects", "requireNonNull", "(Ljava/lang/Object;Ljava/lang/String;)Ljava/lang/Object;"⟩ : MethodName)) hown19 (mvT hZ19 (hw _ (List.mem_of_getElem? (i := 34) rfl))) (mvT hZ19 (hw _ (List.mem_of_getElem? (i := 35) rfl))) (mvT hZ19 (hw _ (List.mem_of_getElem? (i := 36) rfl))) (mvT hZ19 (hw _ (List.mem_of_getElem? (i := 37) rfl))) (by decide) (backOf (W := 1) (rm6 l Z a0 hw [] s2 l19a h19 n0 Z19) hZ19 (hw _ (List.mem_of_getElem? (i := 37) rfl)) (hw _ (List.mem_of_getElem? (i := 36) rfl)) (by decide) (by decide)) (g := (mkF m 21 #[.val (.ref a1), .val (.ref s1), .val (.ref s2)] [(.ref l19a), (.ref s2), (.ref a1)])) rfl (by rw [hml]; rfl) (argsL := [(.ref s2), (.ref l19a)]) (rest := [(.ref a1)]) (lenOf pd_5_0 rfl) rfl (by show 2 * 0 + _ ≤ _; exact Nat.le_of_eq rfl) (hb hby d5_21) (fun _ _ => ⟨rfl, e19, (by decide : 4 + 0 ≤ _), (by decide : 48 + 0 ≤ _)⟩)
  dsimp only [Pt.U, Pt.locs, Pt.cells, Pt.slots] at X21 l21 y21 z21 st21 hQ21
  subst l21 y21 z21
  obtain ⟨rfl, N21q, hq21⟩ := hQ21
  have N21 := Fr.app N14 N21q
  refine own_by st21 ?_
  obtain ⟨T24, X24, e24, st24⟩ := castY X21 hx hZ19 hown19 (hw _ (List.mem_of_getElem? (i := 38) rfl)) hq21 (Ins.self (((E_s2.ext E6).wr W14).ext E19)) (g := (mkF m 24 #[.val (.ref a1), .val (.ref s1), .val (.ref s2)] [(.ref s2), (.ref a1)])) rfl rfl (hb hby d5_24)
  refine own_by st24 ?_
  obtain ⟨T27, h27, X27, e27, W27, st27⟩ := putF X24 hx hZ19 hown19 (host := "") (Or.inl (hw _ (List.mem_of_getElem? (i := 42) rfl))) Via.refl e24 (fc.ext E19) (((E_a1.ext E6).wr W14).ext E19) (Or.inr ⟨(hw _ (List.mem_of_getElem? (i := 43) rfl)), rfl, hnm⟩) (hw _ (List.mem_of_getElem? (i := 27) rfl)) (ty := (.object "java/lang/String")) (by decide) rfl rfl (g := (mkF m 27 #[.val (.ref a1), .val (.ref s1), .val (.ref s2)] [(.ref s2), (.ref a1)])) rfl rfl (hb hby d5_27)
  have Fw27 := (fc.ext E19).same W27
  have fc_2 := ((Fw14.ext E19).other W27 (Or.inr (slot_ne (Or.inr (hw _ (List.mem_of_getElem? (i := 40) rfl))) (Or.inr (hw _ (List.mem_of_getElem? (i := 43) rfl))) (by decide) (t := (.object "java/lang/String")) (t' := (.object "java/lang/String")) (by decide) (by decide))))
  have K27 : Keep h0 h27 [a1] := K19.wr W27 (Or.inl (List.mem_of_getElem? (i := 0) rfl))
  have Z27 : n0 ≤ h27.size := Nat.le_trans Z19 (Keep.of_wr W27).1
  have CC27 := CHr.wr W27 (Safe.exa hZ19.alike (((E_a1.ext E6).wr W14).ext E19) (by decide) (by decide)) hC19.1
  have CR27 := CR19.trans CC27
  have N27 := Fr.snoc X27 N21 g_a1
  refine own_by st27 ?_
  obtain ⟨fs, hr, hrun, hended, hW⟩ := X27.leaveW hS19 (by rw [e27]; exact (Nat.le_trans hk19 (Keep.of_wr W27).1)) (v := none) (fun _ => rfl)
  refine ⟨_, _, ?_, hrun, hended, _, _, rfl, ?_, (by rw [hh]; show CHr Z consts_1 s.vm h0 T27.vm T27.heap; rw [e27]; exact CR27.trans (CHv.at X27 hZ19 hEL CC27.1)), hW.1, hW.2.1, hW.2.2.1, hW.2.2.2.mono (by decide) (by decide)⟩
  · exact X27.returnOut hx Bd.returns (hb hby d5_30) hr
  · show Q5 Z a1 s1 s2 h0 n0 _ T27.heap _
    rw [e27]
    exact ⟨rfl, N27, K27, ((((E_a1.ext E6).wr W14).ext E19).wr W27), fc_2, Fw27⟩
theorem d7_0 : decode method_3_code 0 = .ok (.iload_n 0, 1) := by decide +kernel
theorem d7_1 : decode method_3_code 1 = .ok (.iload_n 3, 1) := by decide +kernel
theorem d7_2 : decode method_3_code 2 = .ok (.if_icmp .eq 5, 3) := by decide +kernel
theorem d7_5 : decode method_3_code 5 = .ok (.iconst 0, 1) := by decide +kernel
theorem d7_6 : decode method_3_code 6 = .ok (.ireturn, 1) := by decide +kernel
theorem d7_7 : decode method_3_code 7 = .ok (.iload_n 0, 1) := by decide +kernel
theorem d7_8 : decode method_3_code 8 = .ok (.iconst 1, 1) := by decide +kernel
theorem d7_9 : decode method_3_code 9 = .ok (.if_icmp .lt 11, 3) := by decide +kernel
theorem d7_12 : decode method_3_code 12 = .ok (.iload_n 1, 1) := by decide +kernel
theorem d7_13 : decode method_3_code 13 = .ok (.iload 4, 2) := by decide +kernel
theorem d7_15 : decode method_3_code 15 = .ok (.if_icmp .eq 5, 3) := by decide +kernel
theorem d7_18 : decode method_3_code 18 = .ok (.iconst 0, 1) := by decide +kernel
theorem d7_19 : decode method_3_code 19 = .ok (.ireturn, 1) := by decide +kernel
theorem d7_20 : decode method_3_code 20 = .ok (.iload_n 0, 1) := by decide +kernel
theorem d7_21 : decode method_3_code 21 = .ok (.iconst 2, 1) := by decide +kernel
theorem d7_22 : decode method_3_code 22 = .ok (.if_icmp .lt 11, 3) := by decide +kernel
theorem d7_25 : decode method_3_code 25 = .ok (.iload_n 2, 1) := by decide +kernel
theorem d7_26 : decode method_3_code 26 = .ok (.iload 5, 2) := by decide +kernel
theorem d7_28 : decode method_3_code 28 = .ok (.if_icmp .eq 5, 3) := by decide +kernel
theorem d7_31 : decode method_3_code 31 = .ok (.iconst 0, 1) := by decide +kernel
theorem d7_32 : decode method_3_code 32 = .ok (.ireturn, 1) := by decide +kernel
theorem d7_33 : decode method_3_code 33 = .ok (.iconst 1, 1) := by decide +kernel
theorem d7_34 : decode method_3_code 34 = .ok (.ireturn, 1) := by decide +kernel
theorem pn_7 : plainFor (⟨"com/example/forget_by_time/forgetbytime/engine/TableNameEqualsPinLaw", "same", "(ICCICC)Z"⟩ : MethodName) = true := by first | exact plainFor_of_name (by first | (simp [plainName, overriddenIn]; done) | decide +kernel) | decide +kernel | exact Jvm.Free.JP.mathPlain rfl (by decide +kernel)
theorem ef_7 (m : MethodId) (l1 : Int32) (x0 : Int32) (x1 : Int32) (l2 : Int32) (y0 : Int32) (y1 : Int32) : entryFrame m #[(.int l1), (.int x0), (.int x1), (.int l2), (.int y0), (.int y1)] 6 = mkF m 0 #[.val (.int l1), .val (.int x0), .val (.int x1), .val (.int l2), .val (.int y0), .val (.int y1)] [] := by first | (simp [entryFrame, mkF, argsToLocals, Value.category]; done) | rfl
def Q7 (Z : State) (l1 : Int32) (x0 : Int32) (x1 : Int32) (l2 : Int32) (y0 : Int32) (y1 : Int32) (h0 : Heap) (n0 : Nat) (v : Option Value) (h : Heap) (L : List Loc) : Prop := v = some (.int (own_same l1 x0 x1 l2 y0 y1)) ∧ Fr n0 L ∧ h = h0
set_option maxRecDepth 65536 in
set_option maxHeartbeats 40000000 in
theorem rm7 (l : Launch) (Z : State) (a0 : Array Value) (hw : ∀ d ∈ tables_1, d.before a0 Z = true) (ws : List Jvm.Cond) (l1 : Int32) (x0 : Int32) (x1 : Int32) (l2 : Int32) (y0 : Int32) (y1 : Int32) (h0 : Heap) (n0 : Nat) (Z0 : n0 ≤ h0.size) :
    MetFree l (⟨"com/example/forget_by_time/forgetbytime/engine/TableNameEqualsPinLaw", "same", "(ICCICC)Z"⟩ : MethodName) (head1 (Jvm.Cond.code (⟨"com/example/forget_by_time/forgetbytime/engine/TableNameEqualsPinLaw", "same", "(ICCICC)Z"⟩ : MethodName) method_3_code 6 (some .boolean) :: ws) ({ frames := 0, cells := 0, slots := 0, locals := 0 } : Room)) (fun a U => a = #[(.int l1), (.int x0), (.int x1), (.int l2), (.int y0), (.int y1)] ∧ Z.Warmed39 U.vm ∧ U.heap = h0) (fun _ _ _ _ _ => True) (fun _ U o U' => ∃ v L, o = .returned v ∧ Q7 Z l1 x0 x1 l2 y0 y1 h0 n0 v U'.heap L ∧ FrameEnd U o U' L ({ frames := 0, cells := 0, slots := 0, locals := 0 } : Room).cells ({ frames := 0, cells := 0, slots := 0, locals := 0 } : Room).slots) := by
  refine MetFree.of_bodySF pn_7 hisR ?_
  intro p e s m args below meth c s₁ Bd hml0 hP hK
  obtain ⟨rfl, hZ, hh⟩ := hP
  have hx := Bd.exec
  have hby := Bd.bytes
  have hml : c.maxLocals = 6 := hml0
  have hown : s.vm.findClass "com/example/forget_by_time/forgetbytime/engine/TableNameEqualsPinLaw" = some m.cls := findClass_of_methodNamed Bd.named
  have hnm := (name_of_methodNamed Bd.named Bd.method).1
  have X0 : Stand p l e ({ frames := 0, cells := 0, slots := 0, locals := 0 } : Room) s m #[(.int l1), (.int x0), (.int x1), (.int l2), (.int y0), (.int y1)] below meth c s₁ [] 0 0 := Stand.of_body Bd
  have e0 : s₁.heap = h0 := by rw [← hh, Bd.state]; rfl
  have N0 := Fr.nil n0
  refine own_at (castTop (ef_7 m l1 x0 x1 l2 y0 y1)) ?_
  have sg2 : ∀ t, own_S p e below s₁ (mkF m 2 (own_AIIIIII l1 x0 x1 l2 y0 y1) [(.int l2), (.int l1)]) t → own_S p e below s₁ (mkF m 0 (own_AIIIIII l1 x0 x1 l2 y0 y1) []) t := by
    intro t k
    show own_S p e below s₁ (mkF m 0 (own_AIIIIII l1 x0 x1 l2 y0 y1) []) _
    refine XS.iloadN X0.here hx rfl (hb hby d7_0) rfl ?_
    show own_S p e below s₁ (mkF m 1 (own_AIIIIII l1 x0 x1 l2 y0 y1) [(.int l1)]) _
    refine XS.iloadN X0.here hx rfl (hb hby d7_1) rfl ?_
    exact k
  refine own_by sg2 ?_
  by_cases hc2 : l1 = l2
  · have sg9 : ∀ t, own_S p e below s₁ (mkF m 9 (own_AIIIIII l1 x0 x1 l2 y0 y1) [(.int (1 : Int32)), (.int l1)]) t → own_S p e below s₁ (mkF m 2 (own_AIIIIII l1 x0 x1 l2 y0 y1) [(.int l2), (.int l1)]) t := by
      intro t k
      show own_S p e below s₁ (mkF m 2 (own_AIIIIII l1 x0 x1 l2 y0 y1) [(.int l2), (.int l1)]) _
      refine XS.icmpYes X0.here hx rfl (pc0 := 2) (pc' := 7) rfl (hb hby d7_2) rfl (teq hc2).1 (by decide) (by decide) ?_
      show own_S p e below s₁ (mkF m 7 (own_AIIIIII l1 x0 x1 l2 y0 y1) []) _
      refine XS.iloadN X0.here hx rfl (hb hby d7_7) rfl ?_
      show own_S p e below s₁ (mkF m 8 (own_AIIIIII l1 x0 x1 l2 y0 y1) [(.int l1)]) _
      refine XS.iconst X0.here hx rfl (hb hby d7_8) ?_
      exact k
    refine own_by sg9 ?_
    by_cases hc9 : l1 < (1 : Int32)
    · have sg22 : ∀ t, own_S p e below s₁ (mkF m 22 (own_AIIIIII l1 x0 x1 l2 y0 y1) [(.int (2 : Int32)), (.int l1)]) t → own_S p e below s₁ (mkF m 9 (own_AIIIIII l1 x0 x1 l2 y0 y1) [(.int (1 : Int32)), (.int l1)]) t := by
        intro t k
        show own_S p e below s₁ (mkF m 9 (own_AIIIIII l1 x0 x1 l2 y0 y1) [(.int (1 : Int32)), (.int l1)]) _
        refine XS.icmpYes X0.here hx rfl (pc0 := 9) (pc' := 20) rfl (hb hby d7_9) rfl (tlt hc9).1 (by decide) (by decide) ?_
        show own_S p e below s₁ (mkF m 20 (own_AIIIIII l1 x0 x1 l2 y0 y1) []) _
        refine XS.iloadN X0.here hx rfl (hb hby d7_20) rfl ?_
        show own_S p e below s₁ (mkF m 21 (own_AIIIIII l1 x0 x1 l2 y0 y1) [(.int l1)]) _
        refine XS.iconst X0.here hx rfl (hb hby d7_21) ?_
        exact k
      refine own_by sg22 ?_
      by_cases hc22 : l1 < (2 : Int32)
      · have sg34 : ∀ t, own_S p e below s₁ (mkF m 34 (own_AIIIIII l1 x0 x1 l2 y0 y1) [(.int (1 : Int32))]) t → own_S p e below s₁ (mkF m 22 (own_AIIIIII l1 x0 x1 l2 y0 y1) [(.int (2 : Int32)), (.int l1)]) t := by
          intro t k
          show own_S p e below s₁ (mkF m 22 (own_AIIIIII l1 x0 x1 l2 y0 y1) [(.int (2 : Int32)), (.int l1)]) _
          refine XS.icmpYes X0.here hx rfl (pc0 := 22) (pc' := 33) rfl (hb hby d7_22) rfl (tlt hc22).1 (by decide) (by decide) ?_
          show own_S p e below s₁ (mkF m 33 (own_AIIIIII l1 x0 x1 l2 y0 y1) []) _
          refine XS.iconst X0.here hx rfl (hb hby d7_33) ?_
          exact k
        refine own_by sg34 ?_
        obtain ⟨fs, hr, hrun, hended, hW, hsame⟩ := X0.leave (v := some (.int (1 : Int32))) (fun h => by rw [Bd.returns] at h; cases h)
        refine ⟨_, _, ?_, hrun, hended, _, _, rfl, ?_, ⟨_, rfl⟩, hW, hsame.mono (by decide) (by decide)⟩
        · exact retN X0 hx (t := .boolean) Bd.returns (by simp) (hb hby d7_34) hr
        · show Q7 Z l1 x0 x1 l2 y0 y1 h0 n0 _ s₁.heap _
          rw [e0]
          exact ⟨by unfold own_same; rw [if_pos hc2, if_pos hc9, if_pos hc22], N0, rfl⟩
      · have sg28 : ∀ t, own_S p e below s₁ (mkF m 28 (own_AIIIIII l1 x0 x1 l2 y0 y1) [(.int y1), (.int x1)]) t → own_S p e below s₁ (mkF m 22 (own_AIIIIII l1 x0 x1 l2 y0 y1) [(.int (2 : Int32)), (.int l1)]) t := by
          intro t k
          show own_S p e below s₁ (mkF m 22 (own_AIIIIII l1 x0 x1 l2 y0 y1) [(.int (2 : Int32)), (.int l1)]) _
          refine XS.icmpNo X0.here hx rfl (hb hby d7_22) rfl (flt hc22).1 ?_
          show own_S p e below s₁ (mkF m 25 (own_AIIIIII l1 x0 x1 l2 y0 y1) []) _
          refine XS.iloadN X0.here hx rfl (hb hby d7_25) rfl ?_
          show own_S p e below s₁ (mkF m 26 (own_AIIIIII l1 x0 x1 l2 y0 y1) [(.int x1)]) _
          refine XS.iload X0.here hx rfl (hb hby d7_26) rfl ?_
          exact k
        refine own_by sg28 ?_
        by_cases hc28 : x1 = y1
        · have sg34 : ∀ t, own_S p e below s₁ (mkF m 34 (own_AIIIIII l1 x0 x1 l2 y0 y1) [(.int (1 : Int32))]) t → own_S p e below s₁ (mkF m 28 (own_AIIIIII l1 x0 x1 l2 y0 y1) [(.int y1), (.int x1)]) t := by
            intro t k
            show own_S p e below s₁ (mkF m 28 (own_AIIIIII l1 x0 x1 l2 y0 y1) [(.int y1), (.int x1)]) _
            refine XS.icmpYes X0.here hx rfl (pc0 := 28) (pc' := 33) rfl (hb hby d7_28) rfl (teq hc28).1 (by decide) (by decide) ?_
            show own_S p e below s₁ (mkF m 33 (own_AIIIIII l1 x0 x1 l2 y0 y1) []) _
            refine XS.iconst X0.here hx rfl (hb hby d7_33) ?_
            exact k
          refine own_by sg34 ?_
          obtain ⟨fs, hr, hrun, hended, hW, hsame⟩ := X0.leave (v := some (.int (1 : Int32))) (fun h => by rw [Bd.returns] at h; cases h)
          refine ⟨_, _, ?_, hrun, hended, _, _, rfl, ?_, ⟨_, rfl⟩, hW, hsame.mono (by decide) (by decide)⟩
          · exact retN X0 hx (t := .boolean) Bd.returns (by simp) (hb hby d7_34) hr
          · show Q7 Z l1 x0 x1 l2 y0 y1 h0 n0 _ s₁.heap _
            rw [e0]
            exact ⟨by unfold own_same; rw [if_pos hc2, if_pos hc9, if_neg hc22, if_pos hc28], N0, rfl⟩
        · have sg32 : ∀ t, own_S p e below s₁ (mkF m 32 (own_AIIIIII l1 x0 x1 l2 y0 y1) [(.int (0 : Int32))]) t → own_S p e below s₁ (mkF m 28 (own_AIIIIII l1 x0 x1 l2 y0 y1) [(.int y1), (.int x1)]) t := by
            intro t k
            show own_S p e below s₁ (mkF m 28 (own_AIIIIII l1 x0 x1 l2 y0 y1) [(.int y1), (.int x1)]) _
            refine XS.icmpNo X0.here hx rfl (hb hby d7_28) rfl (feq hc28).1 ?_
            show own_S p e below s₁ (mkF m 31 (own_AIIIIII l1 x0 x1 l2 y0 y1) []) _
            refine XS.iconst X0.here hx rfl (hb hby d7_31) ?_
            exact k
          refine own_by sg32 ?_
          obtain ⟨fs, hr, hrun, hended, hW, hsame⟩ := X0.leave (v := some (.int (0 : Int32))) (fun h => by rw [Bd.returns] at h; cases h)
          refine ⟨_, _, ?_, hrun, hended, _, _, rfl, ?_, ⟨_, rfl⟩, hW, hsame.mono (by decide) (by decide)⟩
          · exact retN X0 hx (t := .boolean) Bd.returns (by simp) (hb hby d7_32) hr
          · show Q7 Z l1 x0 x1 l2 y0 y1 h0 n0 _ s₁.heap _
            rw [e0]
            exact ⟨by unfold own_same; rw [if_pos hc2, if_pos hc9, if_neg hc22, if_neg hc28], N0, rfl⟩
    · have sg15 : ∀ t, own_S p e below s₁ (mkF m 15 (own_AIIIIII l1 x0 x1 l2 y0 y1) [(.int y0), (.int x0)]) t → own_S p e below s₁ (mkF m 9 (own_AIIIIII l1 x0 x1 l2 y0 y1) [(.int (1 : Int32)), (.int l1)]) t := by
        intro t k
        show own_S p e below s₁ (mkF m 9 (own_AIIIIII l1 x0 x1 l2 y0 y1) [(.int (1 : Int32)), (.int l1)]) _
        refine XS.icmpNo X0.here hx rfl (hb hby d7_9) rfl (flt hc9).1 ?_
        show own_S p e below s₁ (mkF m 12 (own_AIIIIII l1 x0 x1 l2 y0 y1) []) _
        refine XS.iloadN X0.here hx rfl (hb hby d7_12) rfl ?_
        show own_S p e below s₁ (mkF m 13 (own_AIIIIII l1 x0 x1 l2 y0 y1) [(.int x0)]) _
        refine XS.iload X0.here hx rfl (hb hby d7_13) rfl ?_
        exact k
      refine own_by sg15 ?_
      by_cases hc15 : x0 = y0
      · have sg22 : ∀ t, own_S p e below s₁ (mkF m 22 (own_AIIIIII l1 x0 x1 l2 y0 y1) [(.int (2 : Int32)), (.int l1)]) t → own_S p e below s₁ (mkF m 15 (own_AIIIIII l1 x0 x1 l2 y0 y1) [(.int y0), (.int x0)]) t := by
          intro t k
          show own_S p e below s₁ (mkF m 15 (own_AIIIIII l1 x0 x1 l2 y0 y1) [(.int y0), (.int x0)]) _
          refine XS.icmpYes X0.here hx rfl (pc0 := 15) (pc' := 20) rfl (hb hby d7_15) rfl (teq hc15).1 (by decide) (by decide) ?_
          show own_S p e below s₁ (mkF m 20 (own_AIIIIII l1 x0 x1 l2 y0 y1) []) _
          refine XS.iloadN X0.here hx rfl (hb hby d7_20) rfl ?_
          show own_S p e below s₁ (mkF m 21 (own_AIIIIII l1 x0 x1 l2 y0 y1) [(.int l1)]) _
          refine XS.iconst X0.here hx rfl (hb hby d7_21) ?_
          exact k
        refine own_by sg22 ?_
        by_cases hc22 : l1 < (2 : Int32)
        · have sg34 : ∀ t, own_S p e below s₁ (mkF m 34 (own_AIIIIII l1 x0 x1 l2 y0 y1) [(.int (1 : Int32))]) t → own_S p e below s₁ (mkF m 22 (own_AIIIIII l1 x0 x1 l2 y0 y1) [(.int (2 : Int32)), (.int l1)]) t := by
            intro t k
            show own_S p e below s₁ (mkF m 22 (own_AIIIIII l1 x0 x1 l2 y0 y1) [(.int (2 : Int32)), (.int l1)]) _
            refine XS.icmpYes X0.here hx rfl (pc0 := 22) (pc' := 33) rfl (hb hby d7_22) rfl (tlt hc22).1 (by decide) (by decide) ?_
            show own_S p e below s₁ (mkF m 33 (own_AIIIIII l1 x0 x1 l2 y0 y1) []) _
            refine XS.iconst X0.here hx rfl (hb hby d7_33) ?_
            exact k
          refine own_by sg34 ?_
          obtain ⟨fs, hr, hrun, hended, hW, hsame⟩ := X0.leave (v := some (.int (1 : Int32))) (fun h => by rw [Bd.returns] at h; cases h)
          refine ⟨_, _, ?_, hrun, hended, _, _, rfl, ?_, ⟨_, rfl⟩, hW, hsame.mono (by decide) (by decide)⟩
          · exact retN X0 hx (t := .boolean) Bd.returns (by simp) (hb hby d7_34) hr
          · show Q7 Z l1 x0 x1 l2 y0 y1 h0 n0 _ s₁.heap _
            rw [e0]
            exact ⟨by unfold own_same; rw [if_pos hc2, if_neg hc9, if_pos hc15, if_pos hc22], N0, rfl⟩
        · have sg28 : ∀ t, own_S p e below s₁ (mkF m 28 (own_AIIIIII l1 x0 x1 l2 y0 y1) [(.int y1), (.int x1)]) t → own_S p e below s₁ (mkF m 22 (own_AIIIIII l1 x0 x1 l2 y0 y1) [(.int (2 : Int32)), (.int l1)]) t := by
            intro t k
            show own_S p e below s₁ (mkF m 22 (own_AIIIIII l1 x0 x1 l2 y0 y1) [(.int (2 : Int32)), (.int l1)]) _
            refine XS.icmpNo X0.here hx rfl (hb hby d7_22) rfl (flt hc22).1 ?_
            show own_S p e below s₁ (mkF m 25 (own_AIIIIII l1 x0 x1 l2 y0 y1) []) _
            refine XS.iloadN X0.here hx rfl (hb hby d7_25) rfl ?_
            show own_S p e below s₁ (mkF m 26 (own_AIIIIII l1 x0 x1 l2 y0 y1) [(.int x1)]) _
            refine XS.iload X0.here hx rfl (hb hby d7_26) rfl ?_
            exact k
          refine own_by sg28 ?_
          by_cases hc28 : x1 = y1
          · have sg34 : ∀ t, own_S p e below s₁ (mkF m 34 (own_AIIIIII l1 x0 x1 l2 y0 y1) [(.int (1 : Int32))]) t → own_S p e below s₁ (mkF m 28 (own_AIIIIII l1 x0 x1 l2 y0 y1) [(.int y1), (.int x1)]) t := by
              intro t k
              show own_S p e below s₁ (mkF m 28 (own_AIIIIII l1 x0 x1 l2 y0 y1) [(.int y1), (.int x1)]) _
              refine XS.icmpYes X0.here hx rfl (pc0 := 28) (pc' := 33) rfl (hb hby d7_28) rfl (teq hc28).1 (by decide) (by decide) ?_
              show own_S p e below s₁ (mkF m 33 (own_AIIIIII l1 x0 x1 l2 y0 y1) []) _
              refine XS.iconst X0.here hx rfl (hb hby d7_33) ?_
              exact k
            refine own_by sg34 ?_
            obtain ⟨fs, hr, hrun, hended, hW, hsame⟩ := X0.leave (v := some (.int (1 : Int32))) (fun h => by rw [Bd.returns] at h; cases h)
            refine ⟨_, _, ?_, hrun, hended, _, _, rfl, ?_, ⟨_, rfl⟩, hW, hsame.mono (by decide) (by decide)⟩
            · exact retN X0 hx (t := .boolean) Bd.returns (by simp) (hb hby d7_34) hr
            · show Q7 Z l1 x0 x1 l2 y0 y1 h0 n0 _ s₁.heap _
              rw [e0]
              exact ⟨by unfold own_same; rw [if_pos hc2, if_neg hc9, if_pos hc15, if_neg hc22, if_pos hc28], N0, rfl⟩
          · have sg32 : ∀ t, own_S p e below s₁ (mkF m 32 (own_AIIIIII l1 x0 x1 l2 y0 y1) [(.int (0 : Int32))]) t → own_S p e below s₁ (mkF m 28 (own_AIIIIII l1 x0 x1 l2 y0 y1) [(.int y1), (.int x1)]) t := by
              intro t k
              show own_S p e below s₁ (mkF m 28 (own_AIIIIII l1 x0 x1 l2 y0 y1) [(.int y1), (.int x1)]) _
              refine XS.icmpNo X0.here hx rfl (hb hby d7_28) rfl (feq hc28).1 ?_
              show own_S p e below s₁ (mkF m 31 (own_AIIIIII l1 x0 x1 l2 y0 y1) []) _
              refine XS.iconst X0.here hx rfl (hb hby d7_31) ?_
              exact k
            refine own_by sg32 ?_
            obtain ⟨fs, hr, hrun, hended, hW, hsame⟩ := X0.leave (v := some (.int (0 : Int32))) (fun h => by rw [Bd.returns] at h; cases h)
            refine ⟨_, _, ?_, hrun, hended, _, _, rfl, ?_, ⟨_, rfl⟩, hW, hsame.mono (by decide) (by decide)⟩
            · exact retN X0 hx (t := .boolean) Bd.returns (by simp) (hb hby d7_32) hr
            · show Q7 Z l1 x0 x1 l2 y0 y1 h0 n0 _ s₁.heap _
              rw [e0]
              exact ⟨by unfold own_same; rw [if_pos hc2, if_neg hc9, if_pos hc15, if_neg hc22, if_neg hc28], N0, rfl⟩
      · have sg19 : ∀ t, own_S p e below s₁ (mkF m 19 (own_AIIIIII l1 x0 x1 l2 y0 y1) [(.int (0 : Int32))]) t → own_S p e below s₁ (mkF m 15 (own_AIIIIII l1 x0 x1 l2 y0 y1) [(.int y0), (.int x0)]) t := by
          intro t k
          show own_S p e below s₁ (mkF m 15 (own_AIIIIII l1 x0 x1 l2 y0 y1) [(.int y0), (.int x0)]) _
          refine XS.icmpNo X0.here hx rfl (hb hby d7_15) rfl (feq hc15).1 ?_
          show own_S p e below s₁ (mkF m 18 (own_AIIIIII l1 x0 x1 l2 y0 y1) []) _
          refine XS.iconst X0.here hx rfl (hb hby d7_18) ?_
          exact k
        refine own_by sg19 ?_
        obtain ⟨fs, hr, hrun, hended, hW, hsame⟩ := X0.leave (v := some (.int (0 : Int32))) (fun h => by rw [Bd.returns] at h; cases h)
        refine ⟨_, _, ?_, hrun, hended, _, _, rfl, ?_, ⟨_, rfl⟩, hW, hsame.mono (by decide) (by decide)⟩
        · exact retN X0 hx (t := .boolean) Bd.returns (by simp) (hb hby d7_19) hr
        · show Q7 Z l1 x0 x1 l2 y0 y1 h0 n0 _ s₁.heap _
          rw [e0]
          exact ⟨by unfold own_same; rw [if_pos hc2, if_neg hc9, if_neg hc15], N0, rfl⟩
  · have sg6 : ∀ t, own_S p e below s₁ (mkF m 6 (own_AIIIIII l1 x0 x1 l2 y0 y1) [(.int (0 : Int32))]) t → own_S p e below s₁ (mkF m 2 (own_AIIIIII l1 x0 x1 l2 y0 y1) [(.int l2), (.int l1)]) t := by
      intro t k
      show own_S p e below s₁ (mkF m 2 (own_AIIIIII l1 x0 x1 l2 y0 y1) [(.int l2), (.int l1)]) _
      refine XS.icmpNo X0.here hx rfl (hb hby d7_2) rfl (feq hc2).1 ?_
      show own_S p e below s₁ (mkF m 5 (own_AIIIIII l1 x0 x1 l2 y0 y1) []) _
      refine XS.iconst X0.here hx rfl (hb hby d7_5) ?_
      exact k
    refine own_by sg6 ?_
    obtain ⟨fs, hr, hrun, hended, hW, hsame⟩ := X0.leave (v := some (.int (0 : Int32))) (fun h => by rw [Bd.returns] at h; cases h)
    refine ⟨_, _, ?_, hrun, hended, _, _, rfl, ?_, ⟨_, rfl⟩, hW, hsame.mono (by decide) (by decide)⟩
    · exact retN X0 hx (t := .boolean) Bd.returns (by simp) (hb hby d7_6) hr
    · show Q7 Z l1 x0 x1 l2 y0 y1 h0 n0 _ s₁.heap _
      rw [e0]
      exact ⟨by unfold own_same; rw [if_neg hc2], N0, rfl⟩
theorem d8_0 : decode prog_13_method_5_code 0 = .ok (.aload_n 1, 1) := by decide +kernel
theorem d8_1 : decode prog_13_method_5_code 1 = .ok (.instanceof 18, 3) := by decide +kernel
theorem d8_4 : decode prog_13_method_5_code 4 = .ok (.ifCond .eq 41, 3) := by decide +kernel
theorem d8_7 : decode prog_13_method_5_code 7 = .ok (.aload_n 0, 1) := by decide +kernel
theorem d8_8 : decode prog_13_method_5_code 8 = .ok (.getfield 17, 3) := by decide +kernel
theorem d8_11 : decode prog_13_method_5_code 11 = .ok (.aload_n 1, 1) := by decide +kernel
theorem d8_12 : decode prog_13_method_5_code 12 = .ok (.checkcast 18, 3) := by decide +kernel
theorem d8_15 : decode prog_13_method_5_code 15 = .ok (.getfield 17, 3) := by decide +kernel
theorem d8_18 : decode prog_13_method_5_code 18 = .ok (.invokevirtual 36, 3) := by decide +kernel
theorem d8_21 : decode prog_13_method_5_code 21 = .ok (.ifCond .eq 24, 3) := by decide +kernel
theorem d8_24 : decode prog_13_method_5_code 24 = .ok (.aload_n 0, 1) := by decide +kernel
theorem d8_25 : decode prog_13_method_5_code 25 = .ok (.getfield 24, 3) := by decide +kernel
theorem d8_28 : decode prog_13_method_5_code 28 = .ok (.aload_n 1, 1) := by decide +kernel
theorem d8_29 : decode prog_13_method_5_code 29 = .ok (.checkcast 18, 3) := by decide +kernel
theorem d8_32 : decode prog_13_method_5_code 32 = .ok (.getfield 24, 3) := by decide +kernel
theorem d8_35 : decode prog_13_method_5_code 35 = .ok (.invokevirtual 36, 3) := by decide +kernel
theorem d8_38 : decode prog_13_method_5_code 38 = .ok (.ifCond .eq 7, 3) := by decide +kernel
theorem d8_41 : decode prog_13_method_5_code 41 = .ok (.iconst 1, 1) := by decide +kernel
theorem d8_42 : decode prog_13_method_5_code 42 = .ok (.goto 4, 3) := by decide +kernel
theorem d8_45 : decode prog_13_method_5_code 45 = .ok (.iconst 0, 1) := by decide +kernel
theorem d8_46 : decode prog_13_method_5_code 46 = .ok (.ireturn, 1) := by decide +kernel
theorem pn_8 : plainFor (⟨"com/example/forget_by_time/forgetbytime/engine/TableName", "equals", "(Ljava/lang/Object;)Z"⟩ : MethodName) = true := by first | exact plainFor_of_name (by first | (simp [plainName, overriddenIn]; done) | decide +kernel) | decide +kernel | exact Jvm.Free.JP.mathPlain rfl (by decide +kernel)
theorem pd_8_0 : parseMethodDescriptor "(Ljava/lang/Object;)Z" = some ⟨[(.object "java/lang/Object")], some .boolean⟩ := by decide +kernel
theorem ef_8 (m : MethodId) (a1 : Addr) (a2 : Addr) : entryFrame m #[(.ref a1), (.ref a2)] 2 = mkF m 0 #[.val (.ref a1), .val (.ref a2)] [] := by first | (simp [entryFrame, mkF, argsToLocals, Value.category]; done) | rfl
def Q8 (Z : State) (a1 : Addr) (a2 : Addr) (s1 : Addr) (n1 : Addr) (s2 : Addr) (n2 : Addr) (c1 : List Int32) (d1 : List Int32) (c2 : List Int32) (d2 : List Int32) (gz : Int32) (h0 : Heap) (n0 : Nat) (v : Option Value) (h : Heap) (L : List Loc) : Prop := v = some (.int (if c1 = c2 then (if d1 = d2 then (1 : Int32) else (0 : Int32)) else (0 : Int32))) ∧ Fr n0 L ∧ h = h0
set_option maxRecDepth 65536 in
set_option maxHeartbeats 40000000 in
theorem rm8 (l : Launch) (Z : State) (a0 : Array Value) (hw : ∀ d ∈ tables_1, d.before a0 Z = true) (ws : List Jvm.Cond) (a1 : Addr) (a2 : Addr) (s1 : Addr) (n1 : Addr) (s2 : Addr) (n2 : Addr) (c1 : List Int32) (d1 : List Int32) (c2 : List Int32) (d2 : List Int32) (gz : Int32) (h0 : Heap) (n0 : Nat) (Z0 : n0 ≤ h0.size) (E2 : Exa Z h0 a2 "com/example/forget_by_time/forgetbytime/engine/TableName") (Fs1 : Fld Z h0 a1 "com/example/forget_by_time/forgetbytime/engine/TableName" "schema" "Ljava/lang/String;" (.ref s1)) (Fn1 : Fld Z h0 a1 "com/example/forget_by_time/forgetbytime/engine/TableName" "name" "Ljava/lang/String;" (.ref n1)) (Fs2 : Fld Z h0 a2 "com/example/forget_by_time/forgetbytime/engine/TableName" "schema" "Ljava/lang/String;" (.ref s2)) (Fn2 : Fld Z h0 a2 "com/example/forget_by_time/forgetbytime/engine/TableName" "name" "Ljava/lang/String;" (.ref n2)) (Str_s1 : own_Str Z h0 s1 c1) (Str_n1 : own_Str Z h0 n1 d1) (Str_s2 : own_Str Z h0 s2 c2) (Str_n2 : own_Str Z h0 n2 d2) (O2 : Sta Z h0 "java/lang/String" "COMPACT_STRINGS" "Z" (.int gz)) (P5 : ¬ (gz = (0 : Int32))) :
    MetFree l (⟨"com/example/forget_by_time/forgetbytime/engine/TableName", "equals", "(Ljava/lang/Object;)Z"⟩ : MethodName) (head1 (Jvm.Cond.code (⟨"com/example/forget_by_time/forgetbytime/engine/TableName", "equals", "(Ljava/lang/Object;)Z"⟩ : MethodName) prog_13_method_5_code 2 (some .boolean) :: ws) ({ frames := 2, cells := 0, slots := 0, locals := 28 } : Room)) (fun a U => a = #[(.ref a1), (.ref a2)] ∧ Z.Warmed39 U.vm ∧ U.heap = h0) (fun _ _ _ _ _ => True) (fun _ U o U' => ∃ v L, o = .returned v ∧ Q8 Z a1 a2 s1 n1 s2 n2 c1 d1 c2 d2 gz h0 n0 v U'.heap L ∧ FrameEnd U o U' L ({ frames := 2, cells := 0, slots := 0, locals := 28 } : Room).cells ({ frames := 2, cells := 0, slots := 0, locals := 28 } : Room).slots) := by
  refine MetFree.of_bodySF pn_8 hisR ?_
  intro p e s m args below meth c s₁ Bd hml0 hP hK
  obtain ⟨rfl, hZ, hh⟩ := hP
  have hx := Bd.exec
  have hby := Bd.bytes
  have hml : c.maxLocals = 2 := hml0
  have hown : s.vm.findClass "com/example/forget_by_time/forgetbytime/engine/TableName" = some m.cls := findClass_of_methodNamed Bd.named
  have hnm := (name_of_methodNamed Bd.named Bd.method).1
  have X0 : Stand p l e ({ frames := 2, cells := 0, slots := 0, locals := 28 } : Room) s m #[(.ref a1), (.ref a2)] below meth c s₁ [] 0 0 := Stand.of_body Bd
  have e0 : s₁.heap = h0 := by rw [← hh, Bd.state]; rfl
  have N0 := Fr.nil n0
  refine own_at (castTop (ef_8 m a1 a2)) ?_
  have heq : ∀ d ∈ StrChars.Road.wordsEq, d.before a0 Z = true := fun d hd => hw d ((by decide +kernel : ∀ d ∈ StrChars.Road.wordsEq, d ∈ tables_1) d hd)
  have sg1 : ∀ t, own_S p e below s₁ (mkF m 1 #[.val (.ref a1), .val (.ref a2)] [(.ref a2)]) t → own_S p e below s₁ (mkF m 0 #[.val (.ref a1), .val (.ref a2)] []) t := by
    intro t k
    show own_S p e below s₁ (mkF m 0 #[.val (.ref a1), .val (.ref a2)] []) _
    refine XS.aloadN X0.here hx rfl (hb hby d8_0) rfl rfl ?_
    exact k
  refine own_by sg1 ?_
  obtain ⟨T1, X1, e1, st1⟩ := instY X0 hx hZ hown (hw _ (List.mem_of_getElem? (i := 52) rfl)) e0 (Ins.self E2) (g := (mkF m 1 #[.val (.ref a1), .val (.ref a2)] [(.ref a2)])) rfl rfl (hb hby d8_1)
  refine own_by st1 ?_
  have sg8 : ∀ t, own_S p e below T1 (mkF m 8 #[.val (.ref a1), .val (.ref a2)] [(.ref a1)]) t → own_S p e below T1 (mkF m 4 #[.val (.ref a1), .val (.ref a2)] [(.int (1 : Int32))]) t := by
    intro t k
    show own_S p e below T1 (mkF m 4 #[.val (.ref a1), .val (.ref a2)] [(.int (1 : Int32))]) _
    refine XS.ifNo X1.here hx rfl (hb hby d8_4) rfl ((if0 _ _).trans (feq (by decide : ¬ ((1 : Int32) = (0 : Int32)))).1) ?_
    show own_S p e below T1 (mkF m 7 #[.val (.ref a1), .val (.ref a2)] []) _
    refine XS.aloadN X1.here hx rfl (hb hby d8_7) rfl rfl ?_
    exact k
  refine own_by sg8 ?_
  obtain ⟨T8, X8, e8, st8⟩ := getF X1 hx hZ hown (host := "") (Or.inl (hw _ (List.mem_of_getElem? (i := 39) rfl))) Via.refl e1 Fs1 (g := (mkF m 8 #[.val (.ref a1), .val (.ref a2)] [(.ref a1)])) rfl rfl (hb hby d8_8)
  refine own_by st8 ?_
  have sg12 : ∀ t, own_S p e below T8 (mkF m 12 #[.val (.ref a1), .val (.ref a2)] [(.ref a2), (.ref s1)]) t → own_S p e below T8 (mkF m 11 #[.val (.ref a1), .val (.ref a2)] [(.ref s1)]) t := by
    intro t k
    show own_S p e below T8 (mkF m 11 #[.val (.ref a1), .val (.ref a2)] [(.ref s1)]) _
    refine XS.aloadN X8.here hx rfl (hb hby d8_11) rfl rfl ?_
    exact k
  refine own_by sg12 ?_
  obtain ⟨T12, X12, e12, st12⟩ := castY X8 hx hZ hown (hw _ (List.mem_of_getElem? (i := 52) rfl)) e8 (Ins.self E2) (g := (mkF m 12 #[.val (.ref a1), .val (.ref a2)] [(.ref a2), (.ref s1)])) rfl rfl (hb hby d8_12)
  refine own_by st12 ?_
  obtain ⟨T15, X15, e15, st15⟩ := getF X12 hx hZ hown (host := "") (Or.inl (hw _ (List.mem_of_getElem? (i := 39) rfl))) Via.refl e12 Fs2 (g := (mkF m 15 #[.val (.ref a1), .val (.ref a2)] [(.ref a2), (.ref s1)])) rfl rfl (hb hby d8_15)
  refine own_by st15 ?_
  obtain ⟨tx18, kx18, dx18, nx18, vx18, xe18, xv18, xc18, xk18, xh18, xb18, xl18⟩ := id Str_s1
  obtain ⟨ty18, ky18, dy18, ny18, vy18, ye18, yv18, yc18, yk18, yh18, yb18, yl18⟩ := id Str_s2
  obtain ⟨cq18, kq18, q18a, q18b, q18c⟩ := isOf hZ e15 Str_s1.exa
  obtain ⟨_, _, ⟨T18, L18, k18, n18⟩, -, X18, ⟨Lc18, hQ18, l18, y18, z18⟩, st18⟩ := X15.virtualBack hx (y := (⟨"java/lang/String", "equals", "(Ljava/lang/Object;)Z"⟩ : MethodName)) (z := (⟨"java/lang/String", "equals", "(Ljava/lang/Object;)Z"⟩ : MethodName)) hown (mvT hZ (hw _ (List.mem_of_getElem? (i := 54) rfl))) (mvT hZ (hw _ (List.mem_of_getElem? (i := 55) rfl))) (notFace_of_selects (args := #[]) (mvT hZ (hw _ (List.mem_of_getElem? (i := 57) rfl)))) (mvT hZ (hw _ (List.mem_of_getElem? (i := 57) rfl))) (mvT hZ (hw _ (List.mem_of_getElem? (i := 56) rfl))) (by decide) (StrChars.Road.eqW (W := 0) hZ heq (kI := 4) (hw _ (List.mem_of_getElem? (i := 5) rfl)) xe18 xv18 xc18 xk18 xh18 xb18 xl18 ye18 yv18 yc18 yk18 yh18 yb18 yl18 O2 P5 (by decide) (by decide)) q18a q18c (g := (mkF m 18 #[.val (.ref a1), .val (.ref a2)] [(.ref s2), (.ref s1)])) rfl (by rw [hml]; rfl) (Steps.refl _) (argsL := [(.ref s2)]) (rest := []) (lenOf pd_8_0 rfl) rfl (by show 2 * 0 + _ ≤ _; exact Nat.le_of_eq rfl) (hb hby d8_18) (fun _ _ => ⟨rfl, e15, (by decide : 0 + 0 ≤ _), (by decide : 0 + 0 ≤ _)⟩)
  dsimp only [Pt.U, Pt.locs, Pt.cells, Pt.slots] at X18 l18 y18 z18 st18 hQ18
  subst l18 y18 z18
  obtain ⟨hv18, rfl, hq18⟩ := hQ18
  obtain rfl := own_eqv hv18
  have N18 := Fr.app N0 (Fr.nil n0)
  obtain ⟨c18, hc18⟩ : ∃ z : Int32, z = (if c1 = c2 then (1 : Int32) else (0 : Int32)) := ⟨_, rfl⟩
  rw [← hc18] at st18
  refine own_by (fun t k => st18.trans k) ?_
  by_cases hc21 : c18 = (0 : Int32)
  · have sg46 : ∀ t, own_S p e below T18 (mkF m 46 #[.val (.ref a1), .val (.ref a2)] [(.int (0 : Int32))]) t → own_S p e below T18 (mkF m 21 #[.val (.ref a1), .val (.ref a2)] [(.int c18)]) t := by
      intro t k
      show own_S p e below T18 (mkF m 21 #[.val (.ref a1), .val (.ref a2)] [(.int c18)]) _
      refine XS.ifYes X18.here hx rfl (pc0 := 21) (pc' := 45) rfl (hb hby d8_21) rfl ((if0 _ _).trans (teq hc21).1) (by decide) (by decide) ?_
      show own_S p e below T18 (mkF m 45 #[.val (.ref a1), .val (.ref a2)] []) _
      refine XS.iconst X18.here hx rfl (hb hby d8_45) ?_
      exact k
    refine own_by sg46 ?_
    obtain ⟨fs, hr, hrun, hended, hW, hsame⟩ := X18.leave (v := some (.int (0 : Int32))) (fun h => by rw [Bd.returns] at h; cases h)
    refine ⟨_, _, ?_, hrun, hended, _, _, rfl, ?_, ⟨_, rfl⟩, hW, hsame.mono (by decide) (by decide)⟩
    · exact retN X18 hx (t := .boolean) Bd.returns (by simp) (hb hby d8_46) hr
    · show Q8 Z a1 a2 s1 n1 s2 n2 c1 d1 c2 d2 gz h0 n0 _ T18.heap _
      rw [hq18]
      exact ⟨by rw [if_neg (own_if0 hc18 hc21)], N18, rfl⟩
  · have sg25 : ∀ t, own_S p e below T18 (mkF m 25 #[.val (.ref a1), .val (.ref a2)] [(.ref a1)]) t → own_S p e below T18 (mkF m 21 #[.val (.ref a1), .val (.ref a2)] [(.int c18)]) t := by
      intro t k
      show own_S p e below T18 (mkF m 21 #[.val (.ref a1), .val (.ref a2)] [(.int c18)]) _
      refine XS.ifNo X18.here hx rfl (hb hby d8_21) rfl ((if0 _ _).trans (feq hc21).1) ?_
      show own_S p e below T18 (mkF m 24 #[.val (.ref a1), .val (.ref a2)] []) _
      refine XS.aloadN X18.here hx rfl (hb hby d8_24) rfl rfl ?_
      exact k
    refine own_by sg25 ?_
    obtain ⟨T25, X25, e25, st25⟩ := getF X18 hx hZ hown (host := "") (Or.inl (hw _ (List.mem_of_getElem? (i := 42) rfl))) Via.refl hq18 Fn1 (g := (mkF m 25 #[.val (.ref a1), .val (.ref a2)] [(.ref a1)])) rfl rfl (hb hby d8_25)
    refine own_by st25 ?_
    have sg29 : ∀ t, own_S p e below T25 (mkF m 29 #[.val (.ref a1), .val (.ref a2)] [(.ref a2), (.ref n1)]) t → own_S p e below T25 (mkF m 28 #[.val (.ref a1), .val (.ref a2)] [(.ref n1)]) t := by
      intro t k
      show own_S p e below T25 (mkF m 28 #[.val (.ref a1), .val (.ref a2)] [(.ref n1)]) _
      refine XS.aloadN X25.here hx rfl (hb hby d8_28) rfl rfl ?_
      exact k
    refine own_by sg29 ?_
    obtain ⟨T29, X29, e29, st29⟩ := castY X25 hx hZ hown (hw _ (List.mem_of_getElem? (i := 52) rfl)) e25 (Ins.self E2) (g := (mkF m 29 #[.val (.ref a1), .val (.ref a2)] [(.ref a2), (.ref n1)])) rfl rfl (hb hby d8_29)
    refine own_by st29 ?_
    obtain ⟨T32, X32, e32, st32⟩ := getF X29 hx hZ hown (host := "") (Or.inl (hw _ (List.mem_of_getElem? (i := 42) rfl))) Via.refl e29 Fn2 (g := (mkF m 32 #[.val (.ref a1), .val (.ref a2)] [(.ref a2), (.ref n1)])) rfl rfl (hb hby d8_32)
    refine own_by st32 ?_
    obtain ⟨tx35, kx35, dx35, nx35, vx35, xe35, xv35, xc35, xk35, xh35, xb35, xl35⟩ := id Str_n1
    obtain ⟨ty35, ky35, dy35, ny35, vy35, ye35, yv35, yc35, yk35, yh35, yb35, yl35⟩ := id Str_n2
    obtain ⟨cq35, kq35, q35a, q35b, q35c⟩ := isOf hZ e32 Str_n1.exa
    obtain ⟨_, _, ⟨T35, L35, k35, n35⟩, -, X35, ⟨Lc35, hQ35, l35, y35, z35⟩, st35⟩ := X32.virtualBack hx (y := (⟨"java/lang/String", "equals", "(Ljava/lang/Object;)Z"⟩ : MethodName)) (z := (⟨"java/lang/String", "equals", "(Ljava/lang/Object;)Z"⟩ : MethodName)) hown (mvT hZ (hw _ (List.mem_of_getElem? (i := 54) rfl))) (mvT hZ (hw _ (List.mem_of_getElem? (i := 55) rfl))) (notFace_of_selects (args := #[]) (mvT hZ (hw _ (List.mem_of_getElem? (i := 57) rfl)))) (mvT hZ (hw _ (List.mem_of_getElem? (i := 57) rfl))) (mvT hZ (hw _ (List.mem_of_getElem? (i := 56) rfl))) (by decide) (StrChars.Road.eqW (W := 0) hZ heq (kI := 4) (hw _ (List.mem_of_getElem? (i := 5) rfl)) xe35 xv35 xc35 xk35 xh35 xb35 xl35 ye35 yv35 yc35 yk35 yh35 yb35 yl35 O2 P5 (by decide) (by decide)) q35a q35c (g := (mkF m 35 #[.val (.ref a1), .val (.ref a2)] [(.ref n2), (.ref n1)])) rfl (by rw [hml]; rfl) (Steps.refl _) (argsL := [(.ref n2)]) (rest := []) (lenOf pd_8_0 rfl) rfl (by show 2 * 0 + _ ≤ _; exact Nat.le_of_eq rfl) (hb hby d8_35) (fun _ _ => ⟨rfl, e32, (by decide : 0 + 0 ≤ _), (by decide : 0 + 0 ≤ _)⟩)
    dsimp only [Pt.U, Pt.locs, Pt.cells, Pt.slots] at X35 l35 y35 z35 st35 hQ35
    subst l35 y35 z35
    obtain ⟨hv35, rfl, hq35⟩ := hQ35
    obtain rfl := own_eqv hv35
    have N35 := Fr.app N18 (Fr.nil n0)
    obtain ⟨c35, hc35⟩ : ∃ z : Int32, z = (if d1 = d2 then (1 : Int32) else (0 : Int32)) := ⟨_, rfl⟩
    rw [← hc35] at st35
    refine own_by (fun t k => st35.trans k) ?_
    by_cases hc38 : c35 = (0 : Int32)
    · have sg46 : ∀ t, own_S p e below T35 (mkF m 46 #[.val (.ref a1), .val (.ref a2)] [(.int (0 : Int32))]) t → own_S p e below T35 (mkF m 38 #[.val (.ref a1), .val (.ref a2)] [(.int c35)]) t := by
        intro t k
        show own_S p e below T35 (mkF m 38 #[.val (.ref a1), .val (.ref a2)] [(.int c35)]) _
        refine XS.ifYes X35.here hx rfl (pc0 := 38) (pc' := 45) rfl (hb hby d8_38) rfl ((if0 _ _).trans (teq hc38).1) (by decide) (by decide) ?_
        show own_S p e below T35 (mkF m 45 #[.val (.ref a1), .val (.ref a2)] []) _
        refine XS.iconst X35.here hx rfl (hb hby d8_45) ?_
        exact k
      refine own_by sg46 ?_
      obtain ⟨fs, hr, hrun, hended, hW, hsame⟩ := X35.leave (v := some (.int (0 : Int32))) (fun h => by rw [Bd.returns] at h; cases h)
      refine ⟨_, _, ?_, hrun, hended, _, _, rfl, ?_, ⟨_, rfl⟩, hW, hsame.mono (by decide) (by decide)⟩
      · exact retN X35 hx (t := .boolean) Bd.returns (by simp) (hb hby d8_46) hr
      · show Q8 Z a1 a2 s1 n1 s2 n2 c1 d1 c2 d2 gz h0 n0 _ T35.heap _
        rw [hq35]
        exact ⟨by rw [if_pos (own_if1 hc18 hc21), if_neg (own_if0 hc35 hc38)], N35, rfl⟩
    · have sg46 : ∀ t, own_S p e below T35 (mkF m 46 #[.val (.ref a1), .val (.ref a2)] [(.int (1 : Int32))]) t → own_S p e below T35 (mkF m 38 #[.val (.ref a1), .val (.ref a2)] [(.int c35)]) t := by
        intro t k
        show own_S p e below T35 (mkF m 38 #[.val (.ref a1), .val (.ref a2)] [(.int c35)]) _
        refine XS.ifNo X35.here hx rfl (hb hby d8_38) rfl ((if0 _ _).trans (feq hc38).1) ?_
        show own_S p e below T35 (mkF m 41 #[.val (.ref a1), .val (.ref a2)] []) _
        refine XS.iconst X35.here hx rfl (hb hby d8_41) ?_
        show own_S p e below T35 (mkF m 42 #[.val (.ref a1), .val (.ref a2)] [(.int (1 : Int32))]) _
        refine XS.goto X35.here hx rfl (pc0 := 42) (pc' := 46) rfl (hb hby d8_42) (by decide) (by decide) ?_
        exact k
      refine own_by sg46 ?_
      obtain ⟨fs, hr, hrun, hended, hW, hsame⟩ := X35.leave (v := some (.int (1 : Int32))) (fun h => by rw [Bd.returns] at h; cases h)
      refine ⟨_, _, ?_, hrun, hended, _, _, rfl, ?_, ⟨_, rfl⟩, hW, hsame.mono (by decide) (by decide)⟩
      · exact retN X35 hx (t := .boolean) Bd.returns (by simp) (hb hby d8_46) hr
      · show Q8 Z a1 a2 s1 n1 s2 n2 c1 d1 c2 d2 gz h0 n0 _ T35.heap _
        rw [hq35]
        exact ⟨by rw [if_pos (own_if1 hc18 hc21), if_pos (own_if1 hc35 hc38)], N35, rfl⟩
theorem pn_8s : plainFor (⟨"com/example/forget_by_time/forgetbytime/engine/TableName", "equals", "(Ljava/lang/Object;)Z"⟩ : MethodName) = true := by first | exact plainFor_of_name (by first | (simp [plainName, overriddenIn]; done) | decide +kernel) | decide +kernel | exact Jvm.Free.JP.mathPlain rfl (by decide +kernel)
theorem pd_8_0s : parseMethodDescriptor "(Ljava/lang/Object;)Z" = some ⟨[(.object "java/lang/Object")], some .boolean⟩ := by decide +kernel
theorem ef_8s (m : MethodId) (a1 : Addr) : entryFrame m #[(.ref a1), (.ref a1)] 2 = mkF m 0 #[.val (.ref a1), .val (.ref a1)] [] := by first | (simp [entryFrame, mkF, argsToLocals, Value.category]; done) | rfl
def Q8s (Z : State) (a1 : Addr) (s1 : Addr) (n1 : Addr) (c1 : List Int32) (d1 : List Int32) (gz : Int32) (h0 : Heap) (n0 : Nat) (v : Option Value) (h : Heap) (L : List Loc) : Prop := v = some (.int 1) ∧ Fr n0 L ∧ h = h0
set_option maxRecDepth 65536 in
set_option maxHeartbeats 40000000 in
theorem rm8s (l : Launch) (Z : State) (a0 : Array Value) (hw : ∀ d ∈ tables_1, d.before a0 Z = true) (ws : List Jvm.Cond) (a1 : Addr) (s1 : Addr) (n1 : Addr) (c1 : List Int32) (d1 : List Int32) (gz : Int32) (h0 : Heap) (n0 : Nat) (Z0 : n0 ≤ h0.size) (E2 : Exa Z h0 a1 "com/example/forget_by_time/forgetbytime/engine/TableName") (Fs1 : Fld Z h0 a1 "com/example/forget_by_time/forgetbytime/engine/TableName" "schema" "Ljava/lang/String;" (.ref s1)) (Fn1 : Fld Z h0 a1 "com/example/forget_by_time/forgetbytime/engine/TableName" "name" "Ljava/lang/String;" (.ref n1)) (Str_s1 : own_Str Z h0 s1 c1) (Str_n1 : own_Str Z h0 n1 d1) (O2 : Sta Z h0 "java/lang/String" "COMPACT_STRINGS" "Z" (.int gz)) (P5 : ¬ (gz = (0 : Int32))) :
    MetFree l (⟨"com/example/forget_by_time/forgetbytime/engine/TableName", "equals", "(Ljava/lang/Object;)Z"⟩ : MethodName) (head1 (Jvm.Cond.code (⟨"com/example/forget_by_time/forgetbytime/engine/TableName", "equals", "(Ljava/lang/Object;)Z"⟩ : MethodName) prog_13_method_5_code 2 (some .boolean) :: ws) ({ frames := 2, cells := 0, slots := 0, locals := 28 } : Room)) (fun a U => a = #[(.ref a1), (.ref a1)] ∧ Z.Warmed39 U.vm ∧ U.heap = h0) (fun _ _ _ _ _ => True) (fun _ U o U' => ∃ v L, o = .returned v ∧ Q8s Z a1 s1 n1 c1 d1 gz h0 n0 v U'.heap L ∧ FrameEnd U o U' L ({ frames := 2, cells := 0, slots := 0, locals := 28 } : Room).cells ({ frames := 2, cells := 0, slots := 0, locals := 28 } : Room).slots) := by
  refine MetFree.of_bodySF pn_8s hisR ?_
  intro p e s m args below meth c s₁ Bd hml0 hP hK
  obtain ⟨rfl, hZ, hh⟩ := hP
  have hx := Bd.exec
  have hby := Bd.bytes
  have hml : c.maxLocals = 2 := hml0
  have hown : s.vm.findClass "com/example/forget_by_time/forgetbytime/engine/TableName" = some m.cls := findClass_of_methodNamed Bd.named
  have hnm := (name_of_methodNamed Bd.named Bd.method).1
  have X0 : Stand p l e ({ frames := 2, cells := 0, slots := 0, locals := 28 } : Room) s m #[(.ref a1), (.ref a1)] below meth c s₁ [] 0 0 := Stand.of_body Bd
  have e0 : s₁.heap = h0 := by rw [← hh, Bd.state]; rfl
  have N0 := Fr.nil n0
  refine own_at (castTop (ef_8s m a1)) ?_
  have heq : ∀ d ∈ StrChars.Road.wordsEq, d.before a0 Z = true := fun d hd => hw d ((by decide +kernel : ∀ d ∈ StrChars.Road.wordsEq, d ∈ tables_1) d hd)
  have sg1 : ∀ t, own_S p e below s₁ (mkF m 1 #[.val (.ref a1), .val (.ref a1)] [(.ref a1)]) t → own_S p e below s₁ (mkF m 0 #[.val (.ref a1), .val (.ref a1)] []) t := by
    intro t k
    show own_S p e below s₁ (mkF m 0 #[.val (.ref a1), .val (.ref a1)] []) _
    refine XS.aloadN X0.here hx rfl (hb hby d8_0) rfl rfl ?_
    exact k
  refine own_by sg1 ?_
  obtain ⟨T1, X1, e1, st1⟩ := instY X0 hx hZ hown (hw _ (List.mem_of_getElem? (i := 52) rfl)) e0 (Ins.self E2) (g := (mkF m 1 #[.val (.ref a1), .val (.ref a1)] [(.ref a1)])) rfl rfl (hb hby d8_1)
  refine own_by st1 ?_
  have sg8 : ∀ t, own_S p e below T1 (mkF m 8 #[.val (.ref a1), .val (.ref a1)] [(.ref a1)]) t → own_S p e below T1 (mkF m 4 #[.val (.ref a1), .val (.ref a1)] [(.int (1 : Int32))]) t := by
    intro t k
    show own_S p e below T1 (mkF m 4 #[.val (.ref a1), .val (.ref a1)] [(.int (1 : Int32))]) _
    refine XS.ifNo X1.here hx rfl (hb hby d8_4) rfl ((if0 _ _).trans (feq (by decide : ¬ ((1 : Int32) = (0 : Int32)))).1) ?_
    show own_S p e below T1 (mkF m 7 #[.val (.ref a1), .val (.ref a1)] []) _
    refine XS.aloadN X1.here hx rfl (hb hby d8_7) rfl rfl ?_
    exact k
  refine own_by sg8 ?_
  obtain ⟨T8, X8, e8, st8⟩ := getF X1 hx hZ hown (host := "") (Or.inl (hw _ (List.mem_of_getElem? (i := 39) rfl))) Via.refl e1 Fs1 (g := (mkF m 8 #[.val (.ref a1), .val (.ref a1)] [(.ref a1)])) rfl rfl (hb hby d8_8)
  refine own_by st8 ?_
  have sg12 : ∀ t, own_S p e below T8 (mkF m 12 #[.val (.ref a1), .val (.ref a1)] [(.ref a1), (.ref s1)]) t → own_S p e below T8 (mkF m 11 #[.val (.ref a1), .val (.ref a1)] [(.ref s1)]) t := by
    intro t k
    show own_S p e below T8 (mkF m 11 #[.val (.ref a1), .val (.ref a1)] [(.ref s1)]) _
    refine XS.aloadN X8.here hx rfl (hb hby d8_11) rfl rfl ?_
    exact k
  refine own_by sg12 ?_
  obtain ⟨T12, X12, e12, st12⟩ := castY X8 hx hZ hown (hw _ (List.mem_of_getElem? (i := 52) rfl)) e8 (Ins.self E2) (g := (mkF m 12 #[.val (.ref a1), .val (.ref a1)] [(.ref a1), (.ref s1)])) rfl rfl (hb hby d8_12)
  refine own_by st12 ?_
  obtain ⟨T15, X15, e15, st15⟩ := getF X12 hx hZ hown (host := "") (Or.inl (hw _ (List.mem_of_getElem? (i := 39) rfl))) Via.refl e12 Fs1 (g := (mkF m 15 #[.val (.ref a1), .val (.ref a1)] [(.ref a1), (.ref s1)])) rfl rfl (hb hby d8_15)
  refine own_by st15 ?_
  obtain ⟨tx18, kx18, dx18, nx18, vx18, xe18, xv18, xc18, xk18, xh18, xb18, xl18⟩ := id Str_s1
  obtain ⟨ty18, ky18, dy18, ny18, vy18, ye18, yv18, yc18, yk18, yh18, yb18, yl18⟩ := id Str_s1
  obtain ⟨cq18, kq18, q18a, q18b, q18c⟩ := isOf hZ e15 Str_s1.exa
  obtain ⟨_, _, ⟨T18, L18, k18, n18⟩, -, X18, ⟨Lc18, hQ18, l18, y18, z18⟩, st18⟩ := X15.virtualBack hx (y := (⟨"java/lang/String", "equals", "(Ljava/lang/Object;)Z"⟩ : MethodName)) (z := (⟨"java/lang/String", "equals", "(Ljava/lang/Object;)Z"⟩ : MethodName)) hown (mvT hZ (hw _ (List.mem_of_getElem? (i := 54) rfl))) (mvT hZ (hw _ (List.mem_of_getElem? (i := 55) rfl))) (notFace_of_selects (args := #[]) (mvT hZ (hw _ (List.mem_of_getElem? (i := 57) rfl)))) (mvT hZ (hw _ (List.mem_of_getElem? (i := 57) rfl))) (mvT hZ (hw _ (List.mem_of_getElem? (i := 56) rfl))) (by decide) (StrChars.Road.eqW (W := 0) hZ heq (kI := 4) (hw _ (List.mem_of_getElem? (i := 5) rfl)) xe18 xv18 xc18 xk18 xh18 xb18 xl18 ye18 yv18 yc18 yk18 yh18 yb18 yl18 O2 P5 (by decide) (by decide)) q18a q18c (g := (mkF m 18 #[.val (.ref a1), .val (.ref a1)] [(.ref s1), (.ref s1)])) rfl (by rw [hml]; rfl) (Steps.refl _) (argsL := [(.ref s1)]) (rest := []) (lenOf pd_8_0s rfl) rfl (by show 2 * 0 + _ ≤ _; exact Nat.le_of_eq rfl) (hb hby d8_18) (fun _ _ => ⟨rfl, e15, (by decide : 0 + 0 ≤ _), (by decide : 0 + 0 ≤ _)⟩)
  dsimp only [Pt.U, Pt.locs, Pt.cells, Pt.slots] at X18 l18 y18 z18 st18 hQ18
  subst l18 y18 z18
  obtain ⟨hv18, rfl, hq18⟩ := hQ18
  obtain rfl := own_eqv hv18
  have N18 := Fr.app N0 (Fr.nil n0)
  obtain ⟨c18, hc18⟩ : ∃ z : Int32, z = (if c1 = c1 then (1 : Int32) else (0 : Int32)) := ⟨_, rfl⟩
  rw [← hc18] at st18
  refine own_by (fun t k => st18.trans k) ?_
  have sg25 : ∀ t, own_S p e below T18 (mkF m 25 #[.val (.ref a1), .val (.ref a1)] [(.ref a1)]) t → own_S p e below T18 (mkF m 21 #[.val (.ref a1), .val (.ref a1)] [(.int c18)]) t := by
    intro t k
    show own_S p e below T18 (mkF m 21 #[.val (.ref a1), .val (.ref a1)] [(.int c18)]) _
    refine XS.ifNo X18.here hx rfl (hb hby d8_21) rfl ((if0 _ _).trans (feq (by rw [hc18, if_pos rfl]; decide : ¬ (c18 = (0 : Int32)))).1) ?_
    show own_S p e below T18 (mkF m 24 #[.val (.ref a1), .val (.ref a1)] []) _
    refine XS.aloadN X18.here hx rfl (hb hby d8_24) rfl rfl ?_
    exact k
  refine own_by sg25 ?_
  obtain ⟨T25, X25, e25, st25⟩ := getF X18 hx hZ hown (host := "") (Or.inl (hw _ (List.mem_of_getElem? (i := 42) rfl))) Via.refl hq18 Fn1 (g := (mkF m 25 #[.val (.ref a1), .val (.ref a1)] [(.ref a1)])) rfl rfl (hb hby d8_25)
  refine own_by st25 ?_
  have sg29 : ∀ t, own_S p e below T25 (mkF m 29 #[.val (.ref a1), .val (.ref a1)] [(.ref a1), (.ref n1)]) t → own_S p e below T25 (mkF m 28 #[.val (.ref a1), .val (.ref a1)] [(.ref n1)]) t := by
    intro t k
    show own_S p e below T25 (mkF m 28 #[.val (.ref a1), .val (.ref a1)] [(.ref n1)]) _
    refine XS.aloadN X25.here hx rfl (hb hby d8_28) rfl rfl ?_
    exact k
  refine own_by sg29 ?_
  obtain ⟨T29, X29, e29, st29⟩ := castY X25 hx hZ hown (hw _ (List.mem_of_getElem? (i := 52) rfl)) e25 (Ins.self E2) (g := (mkF m 29 #[.val (.ref a1), .val (.ref a1)] [(.ref a1), (.ref n1)])) rfl rfl (hb hby d8_29)
  refine own_by st29 ?_
  obtain ⟨T32, X32, e32, st32⟩ := getF X29 hx hZ hown (host := "") (Or.inl (hw _ (List.mem_of_getElem? (i := 42) rfl))) Via.refl e29 Fn1 (g := (mkF m 32 #[.val (.ref a1), .val (.ref a1)] [(.ref a1), (.ref n1)])) rfl rfl (hb hby d8_32)
  refine own_by st32 ?_
  obtain ⟨tx35, kx35, dx35, nx35, vx35, xe35, xv35, xc35, xk35, xh35, xb35, xl35⟩ := id Str_n1
  obtain ⟨ty35, ky35, dy35, ny35, vy35, ye35, yv35, yc35, yk35, yh35, yb35, yl35⟩ := id Str_n1
  obtain ⟨cq35, kq35, q35a, q35b, q35c⟩ := isOf hZ e32 Str_n1.exa
  obtain ⟨_, _, ⟨T35, L35, k35, n35⟩, -, X35, ⟨Lc35, hQ35, l35, y35, z35⟩, st35⟩ := X32.virtualBack hx (y := (⟨"java/lang/String", "equals", "(Ljava/lang/Object;)Z"⟩ : MethodName)) (z := (⟨"java/lang/String", "equals", "(Ljava/lang/Object;)Z"⟩ : MethodName)) hown (mvT hZ (hw _ (List.mem_of_getElem? (i := 54) rfl))) (mvT hZ (hw _ (List.mem_of_getElem? (i := 55) rfl))) (notFace_of_selects (args := #[]) (mvT hZ (hw _ (List.mem_of_getElem? (i := 57) rfl)))) (mvT hZ (hw _ (List.mem_of_getElem? (i := 57) rfl))) (mvT hZ (hw _ (List.mem_of_getElem? (i := 56) rfl))) (by decide) (StrChars.Road.eqW (W := 0) hZ heq (kI := 4) (hw _ (List.mem_of_getElem? (i := 5) rfl)) xe35 xv35 xc35 xk35 xh35 xb35 xl35 ye35 yv35 yc35 yk35 yh35 yb35 yl35 O2 P5 (by decide) (by decide)) q35a q35c (g := (mkF m 35 #[.val (.ref a1), .val (.ref a1)] [(.ref n1), (.ref n1)])) rfl (by rw [hml]; rfl) (Steps.refl _) (argsL := [(.ref n1)]) (rest := []) (lenOf pd_8_0s rfl) rfl (by show 2 * 0 + _ ≤ _; exact Nat.le_of_eq rfl) (hb hby d8_35) (fun _ _ => ⟨rfl, e32, (by decide : 0 + 0 ≤ _), (by decide : 0 + 0 ≤ _)⟩)
  dsimp only [Pt.U, Pt.locs, Pt.cells, Pt.slots] at X35 l35 y35 z35 st35 hQ35
  subst l35 y35 z35
  obtain ⟨hv35, rfl, hq35⟩ := hQ35
  obtain rfl := own_eqv hv35
  have N35 := Fr.app N18 (Fr.nil n0)
  obtain ⟨c35, hc35⟩ : ∃ z : Int32, z = (if d1 = d1 then (1 : Int32) else (0 : Int32)) := ⟨_, rfl⟩
  rw [← hc35] at st35
  refine own_by (fun t k => st35.trans k) ?_
  have sg46 : ∀ t, own_S p e below T35 (mkF m 46 #[.val (.ref a1), .val (.ref a1)] [(.int (1 : Int32))]) t → own_S p e below T35 (mkF m 38 #[.val (.ref a1), .val (.ref a1)] [(.int c35)]) t := by
    intro t k
    show own_S p e below T35 (mkF m 38 #[.val (.ref a1), .val (.ref a1)] [(.int c35)]) _
    refine XS.ifNo X35.here hx rfl (hb hby d8_38) rfl ((if0 _ _).trans (feq (by rw [hc35, if_pos rfl]; decide : ¬ (c35 = (0 : Int32)))).1) ?_
    show own_S p e below T35 (mkF m 41 #[.val (.ref a1), .val (.ref a1)] []) _
    refine XS.iconst X35.here hx rfl (hb hby d8_41) ?_
    show own_S p e below T35 (mkF m 42 #[.val (.ref a1), .val (.ref a1)] [(.int (1 : Int32))]) _
    refine XS.goto X35.here hx rfl (pc0 := 42) (pc' := 46) rfl (hb hby d8_42) (by decide) (by decide) ?_
    exact k
  refine own_by sg46 ?_
  obtain ⟨fs, hr, hrun, hended, hW, hsame⟩ := X35.leave (v := some (.int (1 : Int32))) (fun h => by rw [Bd.returns] at h; cases h)
  refine ⟨_, _, ?_, hrun, hended, _, _, rfl, ?_, ⟨_, rfl⟩, hW, hsame.mono (by decide) (by decide)⟩
  · exact retN X35 hx (t := .boolean) Bd.returns (by simp) (hb hby d8_46) hr
  · show Q8s Z a1 s1 n1 c1 d1 gz h0 n0 _ T35.heap _
    rw [hq35]
    exact ⟨rfl, N35, rfl⟩
theorem pn_8x : plainFor (⟨"com/example/forget_by_time/forgetbytime/engine/TableName", "equals", "(Ljava/lang/Object;)Z"⟩ : MethodName) = true := by first | exact plainFor_of_name (by first | (simp [plainName, overriddenIn]; done) | decide +kernel) | decide +kernel | exact Jvm.Free.JP.mathPlain rfl (by decide +kernel)
theorem ef_8x (m : MethodId) (a1 : Addr) (a2 : Addr) : entryFrame m #[(.ref a1), (.ref a2)] 2 = mkF m 0 #[.val (.ref a1), .val (.ref a2)] [] := by first | (simp [entryFrame, mkF, argsToLocals, Value.category]; done) | rfl
def Q8x (Z : State) (a1 : Addr) (a2 : Addr) (h0 : Heap) (n0 : Nat) (v : Option Value) (h : Heap) (L : List Loc) : Prop := v = some (.int 0) ∧ Fr n0 L ∧ h = h0
set_option maxRecDepth 65536 in
set_option maxHeartbeats 40000000 in
theorem rm8x (l : Launch) (Z : State) (a0 : Array Value) (hw : ∀ d ∈ tables_1, d.before a0 Z = true) (ws : List Jvm.Cond) (a1 : Addr) (a2 : Addr) (h0 : Heap) (n0 : Nat) (Z0 : n0 ≤ h0.size) (E2 : Exa Z h0 a2 "java/lang/String") :
    MetFree l (⟨"com/example/forget_by_time/forgetbytime/engine/TableName", "equals", "(Ljava/lang/Object;)Z"⟩ : MethodName) (head1 (Jvm.Cond.code (⟨"com/example/forget_by_time/forgetbytime/engine/TableName", "equals", "(Ljava/lang/Object;)Z"⟩ : MethodName) prog_13_method_5_code 2 (some .boolean) :: ws) ({ frames := 0, cells := 0, slots := 0, locals := 0 } : Room)) (fun a U => a = #[(.ref a1), (.ref a2)] ∧ Z.Warmed39 U.vm ∧ U.heap = h0) (fun _ _ _ _ _ => True) (fun _ U o U' => ∃ v L, o = .returned v ∧ Q8x Z a1 a2 h0 n0 v U'.heap L ∧ FrameEnd U o U' L ({ frames := 0, cells := 0, slots := 0, locals := 0 } : Room).cells ({ frames := 0, cells := 0, slots := 0, locals := 0 } : Room).slots) := by
  refine MetFree.of_bodySF pn_8x hisR ?_
  intro p e s m args below meth c s₁ Bd hml0 hP hK
  obtain ⟨rfl, hZ, hh⟩ := hP
  have hx := Bd.exec
  have hby := Bd.bytes
  have hml : c.maxLocals = 2 := hml0
  have hown : s.vm.findClass "com/example/forget_by_time/forgetbytime/engine/TableName" = some m.cls := findClass_of_methodNamed Bd.named
  have hnm := (name_of_methodNamed Bd.named Bd.method).1
  have X0 : Stand p l e ({ frames := 0, cells := 0, slots := 0, locals := 0 } : Room) s m #[(.ref a1), (.ref a2)] below meth c s₁ [] 0 0 := Stand.of_body Bd
  have e0 : s₁.heap = h0 := by rw [← hh, Bd.state]; rfl
  have N0 := Fr.nil n0
  refine own_at (castTop (ef_8x m a1 a2)) ?_
  have nosub := own_nosub (Z := Z) (hw _ (List.mem_of_getElem? (i := 65) rfl)) (hw _ (List.mem_of_getElem? (i := 66) rfl)) (hw _ (List.mem_of_getElem? (i := 27) rfl))
  have sg1 : ∀ t, own_S p e below s₁ (mkF m 1 #[.val (.ref a1), .val (.ref a2)] [(.ref a2)]) t → own_S p e below s₁ (mkF m 0 #[.val (.ref a1), .val (.ref a2)] []) t := by
    intro t k
    show own_S p e below s₁ (mkF m 0 #[.val (.ref a1), .val (.ref a2)] []) _
    refine XS.aloadN X0.here hx rfl (hb hby d8_0) rfl rfl ?_
    exact k
  refine own_by sg1 ?_
  obtain ⟨T1, X1, e1, st1⟩ := instNo X0 hx hZ hown (hw _ (List.mem_of_getElem? (i := 52) rfl)) e0 E2 nosub (g := (mkF m 1 #[.val (.ref a1), .val (.ref a2)] [(.ref a2)])) rfl rfl (hb hby d8_1)
  refine own_by st1 ?_
  have sg46 : ∀ t, own_S p e below T1 (mkF m 46 #[.val (.ref a1), .val (.ref a2)] [(.int (0 : Int32))]) t → own_S p e below T1 (mkF m 4 #[.val (.ref a1), .val (.ref a2)] [(.int (0 : Int32))]) t := by
    intro t k
    show own_S p e below T1 (mkF m 4 #[.val (.ref a1), .val (.ref a2)] [(.int (0 : Int32))]) _
    refine XS.ifYes X1.here hx rfl (pc0 := 4) (pc' := 45) rfl (hb hby d8_4) rfl ((if0 _ _).trans (teq (by decide : (0 : Int32) = (0 : Int32))).1) (by decide) (by decide) ?_
    show own_S p e below T1 (mkF m 45 #[.val (.ref a1), .val (.ref a2)] []) _
    refine XS.iconst X1.here hx rfl (hb hby d8_45) ?_
    exact k
  refine own_by sg46 ?_
  obtain ⟨fs, hr, hrun, hended, hW, hsame⟩ := X1.leave (v := some (.int (0 : Int32))) (fun h => by rw [Bd.returns] at h; cases h)
  refine ⟨_, _, ?_, hrun, hended, _, _, rfl, ?_, ⟨_, rfl⟩, hW, hsame.mono (by decide) (by decide)⟩
  · exact retN X1 hx (t := .boolean) Bd.returns (by simp) (hb hby d8_46) hr
  · show Q8x Z a1 a2 h0 n0 _ T1.heap _
    rw [e1]
    exact ⟨rfl, N0, rfl⟩
theorem pn_8n : plainFor (⟨"com/example/forget_by_time/forgetbytime/engine/TableName", "equals", "(Ljava/lang/Object;)Z"⟩ : MethodName) = true := by first | exact plainFor_of_name (by first | (simp [plainName, overriddenIn]; done) | decide +kernel) | decide +kernel | exact Jvm.Free.JP.mathPlain rfl (by decide +kernel)
theorem ef_8n (m : MethodId) (a1 : Addr) : entryFrame m #[(.ref a1), .null] 2 = mkF m 0 #[.val (.ref a1), .val .null] [] := by first | (simp [entryFrame, mkF, argsToLocals, Value.category]; done) | rfl
def Q8n (Z : State) (a1 : Addr) (h0 : Heap) (n0 : Nat) (v : Option Value) (h : Heap) (L : List Loc) : Prop := v = some (.int 0) ∧ Fr n0 L ∧ h = h0
set_option maxRecDepth 65536 in
set_option maxHeartbeats 40000000 in
theorem rm8n (l : Launch) (Z : State) (a0 : Array Value) (hw : ∀ d ∈ tables_1, d.before a0 Z = true) (ws : List Jvm.Cond) (a1 : Addr) (h0 : Heap) (n0 : Nat) (Z0 : n0 ≤ h0.size) :
    MetFree l (⟨"com/example/forget_by_time/forgetbytime/engine/TableName", "equals", "(Ljava/lang/Object;)Z"⟩ : MethodName) (head1 (Jvm.Cond.code (⟨"com/example/forget_by_time/forgetbytime/engine/TableName", "equals", "(Ljava/lang/Object;)Z"⟩ : MethodName) prog_13_method_5_code 2 (some .boolean) :: ws) ({ frames := 0, cells := 0, slots := 0, locals := 0 } : Room)) (fun a U => a = #[(.ref a1), .null] ∧ Z.Warmed39 U.vm ∧ U.heap = h0) (fun _ _ _ _ _ => True) (fun _ U o U' => ∃ v L, o = .returned v ∧ Q8n Z a1 h0 n0 v U'.heap L ∧ FrameEnd U o U' L ({ frames := 0, cells := 0, slots := 0, locals := 0 } : Room).cells ({ frames := 0, cells := 0, slots := 0, locals := 0 } : Room).slots) := by
  refine MetFree.of_bodySF pn_8n hisR ?_
  intro p e s m args below meth c s₁ Bd hml0 hP hK
  obtain ⟨rfl, hZ, hh⟩ := hP
  have hx := Bd.exec
  have hby := Bd.bytes
  have hml : c.maxLocals = 2 := hml0
  have hown : s.vm.findClass "com/example/forget_by_time/forgetbytime/engine/TableName" = some m.cls := findClass_of_methodNamed Bd.named
  have hnm := (name_of_methodNamed Bd.named Bd.method).1
  have X0 : Stand p l e ({ frames := 0, cells := 0, slots := 0, locals := 0 } : Room) s m #[(.ref a1), .null] below meth c s₁ [] 0 0 := Stand.of_body Bd
  have e0 : s₁.heap = h0 := by rw [← hh, Bd.state]; rfl
  have N0 := Fr.nil n0
  refine own_at (castTop (ef_8n m a1)) ?_
  have sg1 : ∀ t, own_S p e below s₁ (mkF m 1 #[.val (.ref a1), .val .null] [.null]) t → own_S p e below s₁ (mkF m 0 #[.val (.ref a1), .val .null] []) t := by
    intro t k
    show own_S p e below s₁ (mkF m 0 #[.val (.ref a1), .val .null] []) _
    refine XS.aloadN X0.here hx rfl (hb hby d8_0) rfl rfl ?_
    exact k
  refine own_by sg1 ?_
  have st1 : ∀ t, own_S p e below s₁ (mkF m 4 #[.val (.ref a1), .val .null] [(.int (0 : Int32))]) t → own_S p e below s₁ (mkF m 1 #[.val (.ref a1), .val .null] [.null]) t := fun t k => X0.instanceofNull hx (g := (mkF m 1 #[.val (.ref a1), .val .null] [.null])) rfl rfl (hb hby d8_1) _ k
  refine own_by st1 ?_
  have sg46 : ∀ t, own_S p e below s₁ (mkF m 46 #[.val (.ref a1), .val .null] [(.int (0 : Int32))]) t → own_S p e below s₁ (mkF m 4 #[.val (.ref a1), .val .null] [(.int (0 : Int32))]) t := by
    intro t k
    show own_S p e below s₁ (mkF m 4 #[.val (.ref a1), .val .null] [(.int (0 : Int32))]) _
    refine XS.ifYes X0.here hx rfl (pc0 := 4) (pc' := 45) rfl (hb hby d8_4) rfl ((if0 _ _).trans (teq (by decide : (0 : Int32) = (0 : Int32))).1) (by decide) (by decide) ?_
    show own_S p e below s₁ (mkF m 45 #[.val (.ref a1), .val .null] []) _
    refine XS.iconst X0.here hx rfl (hb hby d8_45) ?_
    exact k
  refine own_by sg46 ?_
  obtain ⟨fs, hr, hrun, hended, hW, hsame⟩ := X0.leave (v := some (.int (0 : Int32))) (fun h => by rw [Bd.returns] at h; cases h)
  refine ⟨_, _, ?_, hrun, hended, _, _, rfl, ?_, ⟨_, rfl⟩, hW, hsame.mono (by decide) (by decide)⟩
  · exact retN X0 hx (t := .boolean) Bd.returns (by simp) (hb hby d8_46) hr
  · show Q8n Z a1 h0 n0 _ s₁.heap _
    rw [e0]
    exact ⟨rfl, N0, rfl⟩
theorem pn_0 : plainFor x = true := by first | exact plainFor_of_name (by first | (simp [plainName, overriddenIn]; done) | decide +kernel) | decide +kernel | exact Jvm.Free.JP.mathPlain rfl (by decide +kernel)
theorem pd_0_0 : parseMethodDescriptor "(ICC)Ljava/lang/String;" = some ⟨[.int, .char, .char], some (.object "java/lang/String")⟩ := by decide +kernel
theorem pd_0_1 : parseMethodDescriptor "(Ljava/lang/String;Ljava/lang/String;)V" = some ⟨[(.object "java/lang/String"), (.object "java/lang/String")], none⟩ := by decide +kernel
theorem pd_0_2 : parseMethodDescriptor "(ICCICC)Z" = some ⟨[.int, .char, .char, .int, .char, .char], some .boolean⟩ := by decide +kernel
theorem pd_0_3 : parseMethodDescriptor "(Ljava/lang/Object;)Z" = some ⟨[(.object "java/lang/Object")], some .boolean⟩ := by decide +kernel
theorem ef_0 (m : MethodId) (p0 : Int32) (p1 : Int32) (p2 : Int32) (p3 : Int32) (p4 : Int32) : entryFrame m #[(.int p0), (.int p1), (.int p2), (.int p3), (.int p4)] maxLocals = mkF m 0 #[.val (.int p0), .val (.int p1), .val (.int p2), .val (.int p3), .val (.int p4), .unset, .unset, .unset, .unset, .unset, .unset, .unset, .unset, .unset, .unset, .unset, .unset, .unset, .unset, .unset, .unset, .unset, .unset, .unset, .unset] [] := by first | (simp [entryFrame, mkF, argsToLocals, Value.category, maxLocals]; done) | rfl
def Q0 (Z : State) (p0 : Int32) (p1 : Int32) (p2 : Int32) (p3 : Int32) (p4 : Int32) (gz : Int32) (h0 : Heap) (n0 : Nat) (v : Option Value) (h : Heap) (L : List Loc) : Prop := v = some (.int 1) ∧ Fr n0 L
set_option maxRecDepth 65536 in
set_option maxHeartbeats 40000000 in
theorem rm0 (l : Launch) (Z : State) (a0 : Array Value) (hw : ∀ d ∈ tables_1, d.before a0 Z = true) (ws : List Jvm.Cond) (p0 : Int32) (p1 : Int32) (p2 : Int32) (p3 : Int32) (p4 : Int32) (gz : Int32) (h0 : Heap) (n0 : Nat) (Z0 : n0 ≤ h0.size) (O : Old Z n0 h0) (O2 : Sta Z Z.heap "java/lang/String" "COMPACT_STRINGS" "Z" (.int gz)) (P5 : ¬ (gz = (0 : Int32))) :
    MetFree l x (head1 (Jvm.Cond.code x code maxLocals ret :: ws) room_1) (fun a U => a = #[(.int p0), (.int p1), (.int p2), (.int p3), (.int p4)] ∧ Z.Warmed39 U.vm ∧ U.heap = h0 ∧ CHv Z consts_1 U.vm h0) (fun _ _ _ _ _ => True) (fun _ U o U' => ∃ v L, o = .returned v ∧ Q0 Z p0 p1 p2 p3 p4 gz h0 n0 v U'.heap L ∧ CHr Z consts_1 U.vm U.heap U'.vm U'.heap ∧ ReturnedEndW U o U' L room_1.cells room_1.slots) := by
  refine MetFree.of_bodySF pn_0 hisR ?_
  intro p e s m args below meth c s₁ Bd hml0 hP hK
  obtain ⟨rfl, hZ, hh, hH0⟩ := hP
  have hx := Bd.exec
  have hby := Bd.bytes
  have hml : c.maxLocals = 25 := hml0
  have hown : s.vm.findClass "com/example/forget_by_time/forgetbytime/engine/TableNameEqualsPinLaw" = some m.cls := findClass_of_methodNamed Bd.named
  have hnm := (name_of_methodNamed Bd.named Bd.method).1
  have X0 : Stand p l e room_1 (s.setVm s.vm) m #[(.int p0), (.int p1), (.int p2), (.int p3), (.int p4)] below meth c s₁ [] 0 0 := Stand.of_body Bd
  have e0 : s₁.heap = h0 := by rw [← hh, Bd.state]; rfl
  have N0 := Fr.nil n0
  have hS0 : s.Since s.vm 0 := (State.WarmedH.refl s).since 0
  refine own_at (castTop (ef_0 m p0 p1 p2 p3 p4)) ?_
  have K0 := Keep.refl h0 []
  have hws : ∀ d ∈ StrChars.Road.words, d.before a0 Z = true := fun d hd => hw d ((by decide +kernel : ∀ d ∈ StrChars.Road.words, d ∈ tables_1) d hd)
  have wS : ∀ a ∈ Bundle.stringAtoms, a.before a0 Z = true := fun d hd => hw d ((by decide +kernel : ∀ d ∈ Bundle.stringAtoms, d ∈ tables_1) d hd)
  have hEL : EW _ _ consts_1 := (EW.cons (hw _ (List.mem_of_getElem? (i := 33) rfl)) (by decide) (EW.cons (hw _ (List.mem_of_getElem? (i := 41) rfl)) (by decide) (EW.cons (hw _ (List.mem_of_getElem? (i := 18) rfl)) (by decide) EW.nil)))
  obtain ⟨v8, hv8⟩ : ∃ z : Int32, z = ((((p0.toUInt32 >>> ((16 : Int32) &&& 31).toUInt32).toInt32) &&& (3 : Int32)) % (3 : Int32)) := ⟨_, rfl⟩
  have sg8 : ∀ t, own_S p e below s₁ (mkF m 8 (own_AIIIIIUUUUUUUUUUUUUUUUUUUU p0 p1 p2 p3 p4) [(.int v8)]) t → own_S p e below s₁ (mkF m 0 (own_AIIIIIUUUUUUUUUUUUUUUUUUUU p0 p1 p2 p3 p4) []) t := by
    intro t k
    rw [hv8] at k
    show own_S p e below s₁ (mkF m 0 (own_AIIIIIUUUUUUUUUUUUUUUUUUUU p0 p1 p2 p3 p4) []) _
    refine XS.iloadN X0.here hx rfl (hb hby at_0) rfl ?_
    show own_S p e below s₁ (mkF m 1 (own_AIIIIIUUUUUUUUUUUUUUUUUUUU p0 p1 p2 p3 p4) [(.int p0)]) _
    refine XS.bipush X0.here hx rfl (hb hby at_1) ?_
    show own_S p e below s₁ (mkF m 3 (own_AIIIIIUUUUUUUUUUUUUUUUUUUU p0 p1 p2 p3 p4) [(.int (16 : Int32)), (.int p0)]) _
    refine XS.iushr X0.here hx rfl (hb hby at_3) rfl ?_
    show own_S p e below s₁ (mkF m 4 (own_AIIIIIUUUUUUUUUUUUUUUUUUUU p0 p1 p2 p3 p4) [(.int ((p0.toUInt32 >>> ((16 : Int32) &&& 31).toUInt32).toInt32))]) _
    refine XS.iconst X0.here hx rfl (hb hby at_4) ?_
    show own_S p e below s₁ (mkF m 5 (own_AIIIIIUUUUUUUUUUUUUUUUUUUU p0 p1 p2 p3 p4) [(.int (3 : Int32)), (.int ((p0.toUInt32 >>> ((16 : Int32) &&& 31).toUInt32).toInt32))]) _
    refine XS.iand X0.here hx rfl (hb hby at_5) rfl ?_
    show own_S p e below s₁ (mkF m 6 (own_AIIIIIUUUUUUUUUUUUUUUUUUUU p0 p1 p2 p3 p4) [(.int (((p0.toUInt32 >>> ((16 : Int32) &&& 31).toUInt32).toInt32) &&& (3 : Int32)))]) _
    refine XS.iconst X0.here hx rfl (hb hby at_6) ?_
    show own_S p e below s₁ (mkF m 7 (own_AIIIIIUUUUUUUUUUUUUUUUUUUU p0 p1 p2 p3 p4) [(.int (3 : Int32)), (.int (((p0.toUInt32 >>> ((16 : Int32) &&& 31).toUInt32).toInt32) &&& (3 : Int32)))]) _
    refine iremM X0 hx rfl (hb hby at_7) rfl (by decide) ?_
    exact k
  refine own_by sg8 ?_
  obtain ⟨v16, hv16⟩ : ∃ z : Int32, z = ((p0 &&& (255 : Int32)).toUInt32.toUInt16.toUInt32.toInt32) := ⟨_, rfl⟩
  have hk_v16 : ¬ v16 < 0 ∧ ¬ (255 : Int32) < v16 := by rw [hv16]; exact own_c255 _
  have sg16 : ∀ t, own_S p e below s₁ (mkF m 16 (own_AIIIIIIUUUUUUUUUUUUUUUUUUU p0 p1 p2 p3 p4 v8) [(.int v16)]) t → own_S p e below s₁ (mkF m 8 (own_AIIIIIUUUUUUUUUUUUUUUUUUUU p0 p1 p2 p3 p4) [(.int v8)]) t := by
    intro t k
    rw [hv16] at k
    show own_S p e below s₁ (mkF m 8 (own_AIIIIIUUUUUUUUUUUUUUUUUUUU p0 p1 p2 p3 p4) [(.int v8)]) _
    refine XS.istore X0.here hx rfl (hb hby at_8) rfl (l' := (own_AIIIIIIUUUUUUUUUUUUUUUUUUU p0 p1 p2 p3 p4 v8)) rfl ?_
    show own_S p e below s₁ (mkF m 10 (own_AIIIIIIUUUUUUUUUUUUUUUUUUU p0 p1 p2 p3 p4 v8) []) _
    refine XS.iloadN X0.here hx rfl (hb hby at_10) rfl ?_
    show own_S p e below s₁ (mkF m 11 (own_AIIIIIIUUUUUUUUUUUUUUUUUUU p0 p1 p2 p3 p4 v8) [(.int p0)]) _
    refine XS.sipush X0.here hx rfl (hb hby at_11) ?_
    show own_S p e below s₁ (mkF m 14 (own_AIIIIIIUUUUUUUUUUUUUUUUUUU p0 p1 p2 p3 p4 v8) [(.int (255 : Int32)), (.int p0)]) _
    refine XS.iand X0.here hx rfl (hb hby at_14) rfl ?_
    show own_S p e below s₁ (mkF m 15 (own_AIIIIIIUUUUUUUUUUUUUUUUUUU p0 p1 p2 p3 p4 v8) [(.int (p0 &&& (255 : Int32)))]) _
    refine XS.i2c X0.here hx rfl (hb hby at_15) rfl ?_
    exact k
  refine own_by sg16 ?_
  obtain ⟨v27, hv27⟩ : ∃ z : Int32, z = ((((p0.toUInt32 >>> ((8 : Int32) &&& 31).toUInt32).toInt32) &&& (255 : Int32)).toUInt32.toUInt16.toUInt32.toInt32) := ⟨_, rfl⟩
  have hk_v27 : ¬ v27 < 0 ∧ ¬ (255 : Int32) < v27 := by rw [hv27]; exact own_c255 _
  have sg27 : ∀ t, own_S p e below s₁ (mkF m 27 (own_AIIIIIIIUUUUUUUUUUUUUUUUUU p0 p1 p2 p3 p4 v8 v16) [(.int v27)]) t → own_S p e below s₁ (mkF m 16 (own_AIIIIIIUUUUUUUUUUUUUUUUUUU p0 p1 p2 p3 p4 v8) [(.int v16)]) t := by
    intro t k
    rw [hv27] at k
    show own_S p e below s₁ (mkF m 16 (own_AIIIIIIUUUUUUUUUUUUUUUUUUU p0 p1 p2 p3 p4 v8) [(.int v16)]) _
    refine XS.istore X0.here hx rfl (hb hby at_16) rfl (l' := (own_AIIIIIIIUUUUUUUUUUUUUUUUUU p0 p1 p2 p3 p4 v8 v16)) rfl ?_
    show own_S p e below s₁ (mkF m 18 (own_AIIIIIIIUUUUUUUUUUUUUUUUUU p0 p1 p2 p3 p4 v8 v16) []) _
    refine XS.iloadN X0.here hx rfl (hb hby at_18) rfl ?_
    show own_S p e below s₁ (mkF m 19 (own_AIIIIIIIUUUUUUUUUUUUUUUUUU p0 p1 p2 p3 p4 v8 v16) [(.int p0)]) _
    refine XS.bipush X0.here hx rfl (hb hby at_19) ?_
    show own_S p e below s₁ (mkF m 21 (own_AIIIIIIIUUUUUUUUUUUUUUUUUU p0 p1 p2 p3 p4 v8 v16) [(.int (8 : Int32)), (.int p0)]) _
    refine XS.iushr X0.here hx rfl (hb hby at_21) rfl ?_
    show own_S p e below s₁ (mkF m 22 (own_AIIIIIIIUUUUUUUUUUUUUUUUUU p0 p1 p2 p3 p4 v8 v16) [(.int ((p0.toUInt32 >>> ((8 : Int32) &&& 31).toUInt32).toInt32))]) _
    refine XS.sipush X0.here hx rfl (hb hby at_22) ?_
    show own_S p e below s₁ (mkF m 25 (own_AIIIIIIIUUUUUUUUUUUUUUUUUU p0 p1 p2 p3 p4 v8 v16) [(.int (255 : Int32)), (.int ((p0.toUInt32 >>> ((8 : Int32) &&& 31).toUInt32).toInt32))]) _
    refine XS.iand X0.here hx rfl (hb hby at_25) rfl ?_
    show own_S p e below s₁ (mkF m 26 (own_AIIIIIIIUUUUUUUUUUUUUUUUUU p0 p1 p2 p3 p4 v8 v16) [(.int (((p0.toUInt32 >>> ((8 : Int32) &&& 31).toUInt32).toInt32) &&& (255 : Int32)))]) _
    refine XS.i2c X0.here hx rfl (hb hby at_26) rfl ?_
    exact k
  refine own_by sg27 ?_
  obtain ⟨v37, hv37⟩ : ∃ z : Int32, z = ((((p1.toUInt32 >>> ((16 : Int32) &&& 31).toUInt32).toInt32) &&& (3 : Int32)) % (3 : Int32)) := ⟨_, rfl⟩
  have sg37 : ∀ t, own_S p e below s₁ (mkF m 37 (own_AIIIIIIIIUUUUUUUUUUUUUUUUU p0 p1 p2 p3 p4 v8 v16 v27) [(.int v37)]) t → own_S p e below s₁ (mkF m 27 (own_AIIIIIIIUUUUUUUUUUUUUUUUUU p0 p1 p2 p3 p4 v8 v16) [(.int v27)]) t := by
    intro t k
    rw [hv37] at k
    show own_S p e below s₁ (mkF m 27 (own_AIIIIIIIUUUUUUUUUUUUUUUUUU p0 p1 p2 p3 p4 v8 v16) [(.int v27)]) _
    refine XS.istore X0.here hx rfl (hb hby at_27) rfl (l' := (own_AIIIIIIIIUUUUUUUUUUUUUUUUU p0 p1 p2 p3 p4 v8 v16 v27)) rfl ?_
    show own_S p e below s₁ (mkF m 29 (own_AIIIIIIIIUUUUUUUUUUUUUUUUU p0 p1 p2 p3 p4 v8 v16 v27) []) _
    refine XS.iloadN X0.here hx rfl (hb hby at_29) rfl ?_
    show own_S p e below s₁ (mkF m 30 (own_AIIIIIIIIUUUUUUUUUUUUUUUUU p0 p1 p2 p3 p4 v8 v16 v27) [(.int p1)]) _
    refine XS.bipush X0.here hx rfl (hb hby at_30) ?_
    show own_S p e below s₁ (mkF m 32 (own_AIIIIIIIIUUUUUUUUUUUUUUUUU p0 p1 p2 p3 p4 v8 v16 v27) [(.int (16 : Int32)), (.int p1)]) _
    refine XS.iushr X0.here hx rfl (hb hby at_32) rfl ?_
    show own_S p e below s₁ (mkF m 33 (own_AIIIIIIIIUUUUUUUUUUUUUUUUU p0 p1 p2 p3 p4 v8 v16 v27) [(.int ((p1.toUInt32 >>> ((16 : Int32) &&& 31).toUInt32).toInt32))]) _
    refine XS.iconst X0.here hx rfl (hb hby at_33) ?_
    show own_S p e below s₁ (mkF m 34 (own_AIIIIIIIIUUUUUUUUUUUUUUUUU p0 p1 p2 p3 p4 v8 v16 v27) [(.int (3 : Int32)), (.int ((p1.toUInt32 >>> ((16 : Int32) &&& 31).toUInt32).toInt32))]) _
    refine XS.iand X0.here hx rfl (hb hby at_34) rfl ?_
    show own_S p e below s₁ (mkF m 35 (own_AIIIIIIIIUUUUUUUUUUUUUUUUU p0 p1 p2 p3 p4 v8 v16 v27) [(.int (((p1.toUInt32 >>> ((16 : Int32) &&& 31).toUInt32).toInt32) &&& (3 : Int32)))]) _
    refine XS.iconst X0.here hx rfl (hb hby at_35) ?_
    show own_S p e below s₁ (mkF m 36 (own_AIIIIIIIIUUUUUUUUUUUUUUUUU p0 p1 p2 p3 p4 v8 v16 v27) [(.int (3 : Int32)), (.int (((p1.toUInt32 >>> ((16 : Int32) &&& 31).toUInt32).toInt32) &&& (3 : Int32)))]) _
    refine iremM X0 hx rfl (hb hby at_36) rfl (by decide) ?_
    exact k
  refine own_by sg37 ?_
  obtain ⟨v45, hv45⟩ : ∃ z : Int32, z = ((p1 &&& (255 : Int32)).toUInt32.toUInt16.toUInt32.toInt32) := ⟨_, rfl⟩
  have hk_v45 : ¬ v45 < 0 ∧ ¬ (255 : Int32) < v45 := by rw [hv45]; exact own_c255 _
  have sg45 : ∀ t, own_S p e below s₁ (mkF m 45 (own_AIIIIIIIIIUUUUUUUUUUUUUUUU p0 p1 p2 p3 p4 v8 v16 v27 v37) [(.int v45)]) t → own_S p e below s₁ (mkF m 37 (own_AIIIIIIIIUUUUUUUUUUUUUUUUU p0 p1 p2 p3 p4 v8 v16 v27) [(.int v37)]) t := by
    intro t k
    rw [hv45] at k
    show own_S p e below s₁ (mkF m 37 (own_AIIIIIIIIUUUUUUUUUUUUUUUUU p0 p1 p2 p3 p4 v8 v16 v27) [(.int v37)]) _
    refine XS.istore X0.here hx rfl (hb hby at_37) rfl (l' := (own_AIIIIIIIIIUUUUUUUUUUUUUUUU p0 p1 p2 p3 p4 v8 v16 v27 v37)) rfl ?_
    show own_S p e below s₁ (mkF m 39 (own_AIIIIIIIIIUUUUUUUUUUUUUUUU p0 p1 p2 p3 p4 v8 v16 v27 v37) []) _
    refine XS.iloadN X0.here hx rfl (hb hby at_39) rfl ?_
    show own_S p e below s₁ (mkF m 40 (own_AIIIIIIIIIUUUUUUUUUUUUUUUU p0 p1 p2 p3 p4 v8 v16 v27 v37) [(.int p1)]) _
    refine XS.sipush X0.here hx rfl (hb hby at_40) ?_
    show own_S p e below s₁ (mkF m 43 (own_AIIIIIIIIIUUUUUUUUUUUUUUUU p0 p1 p2 p3 p4 v8 v16 v27 v37) [(.int (255 : Int32)), (.int p1)]) _
    refine XS.iand X0.here hx rfl (hb hby at_43) rfl ?_
    show own_S p e below s₁ (mkF m 44 (own_AIIIIIIIIIUUUUUUUUUUUUUUUU p0 p1 p2 p3 p4 v8 v16 v27 v37) [(.int (p1 &&& (255 : Int32)))]) _
    refine XS.i2c X0.here hx rfl (hb hby at_44) rfl ?_
    exact k
  refine own_by sg45 ?_
  obtain ⟨v56, hv56⟩ : ∃ z : Int32, z = ((((p1.toUInt32 >>> ((8 : Int32) &&& 31).toUInt32).toInt32) &&& (255 : Int32)).toUInt32.toUInt16.toUInt32.toInt32) := ⟨_, rfl⟩
  have hk_v56 : ¬ v56 < 0 ∧ ¬ (255 : Int32) < v56 := by rw [hv56]; exact own_c255 _
  have sg56 : ∀ t, own_S p e below s₁ (mkF m 56 (own_AIIIIIIIIIIUUUUUUUUUUUUUUU p0 p1 p2 p3 p4 v8 v16 v27 v37 v45) [(.int v56)]) t → own_S p e below s₁ (mkF m 45 (own_AIIIIIIIIIUUUUUUUUUUUUUUUU p0 p1 p2 p3 p4 v8 v16 v27 v37) [(.int v45)]) t := by
    intro t k
    rw [hv56] at k
    show own_S p e below s₁ (mkF m 45 (own_AIIIIIIIIIUUUUUUUUUUUUUUUU p0 p1 p2 p3 p4 v8 v16 v27 v37) [(.int v45)]) _
    refine XS.istore X0.here hx rfl (hb hby at_45) rfl (l' := (own_AIIIIIIIIIIUUUUUUUUUUUUUUU p0 p1 p2 p3 p4 v8 v16 v27 v37 v45)) rfl ?_
    show own_S p e below s₁ (mkF m 47 (own_AIIIIIIIIIIUUUUUUUUUUUUUUU p0 p1 p2 p3 p4 v8 v16 v27 v37 v45) []) _
    refine XS.iloadN X0.here hx rfl (hb hby at_47) rfl ?_
    show own_S p e below s₁ (mkF m 48 (own_AIIIIIIIIIIUUUUUUUUUUUUUUU p0 p1 p2 p3 p4 v8 v16 v27 v37 v45) [(.int p1)]) _
    refine XS.bipush X0.here hx rfl (hb hby at_48) ?_
    show own_S p e below s₁ (mkF m 50 (own_AIIIIIIIIIIUUUUUUUUUUUUUUU p0 p1 p2 p3 p4 v8 v16 v27 v37 v45) [(.int (8 : Int32)), (.int p1)]) _
    refine XS.iushr X0.here hx rfl (hb hby at_50) rfl ?_
    show own_S p e below s₁ (mkF m 51 (own_AIIIIIIIIIIUUUUUUUUUUUUUUU p0 p1 p2 p3 p4 v8 v16 v27 v37 v45) [(.int ((p1.toUInt32 >>> ((8 : Int32) &&& 31).toUInt32).toInt32))]) _
    refine XS.sipush X0.here hx rfl (hb hby at_51) ?_
    show own_S p e below s₁ (mkF m 54 (own_AIIIIIIIIIIUUUUUUUUUUUUUUU p0 p1 p2 p3 p4 v8 v16 v27 v37 v45) [(.int (255 : Int32)), (.int ((p1.toUInt32 >>> ((8 : Int32) &&& 31).toUInt32).toInt32))]) _
    refine XS.iand X0.here hx rfl (hb hby at_54) rfl ?_
    show own_S p e below s₁ (mkF m 55 (own_AIIIIIIIIIIUUUUUUUUUUUUUUU p0 p1 p2 p3 p4 v8 v16 v27 v37 v45) [(.int (((p1.toUInt32 >>> ((8 : Int32) &&& 31).toUInt32).toInt32) &&& (255 : Int32)))]) _
    refine XS.i2c X0.here hx rfl (hb hby at_55) rfl ?_
    exact k
  refine own_by sg56 ?_
  obtain ⟨v66, hv66⟩ : ∃ z : Int32, z = ((((p2.toUInt32 >>> ((16 : Int32) &&& 31).toUInt32).toInt32) &&& (3 : Int32)) % (3 : Int32)) := ⟨_, rfl⟩
  have sg66 : ∀ t, own_S p e below s₁ (mkF m 66 (own_AIIIIIIIIIIIUUUUUUUUUUUUUU p0 p1 p2 p3 p4 v8 v16 v27 v37 v45 v56) [(.int v66)]) t → own_S p e below s₁ (mkF m 56 (own_AIIIIIIIIIIUUUUUUUUUUUUUUU p0 p1 p2 p3 p4 v8 v16 v27 v37 v45) [(.int v56)]) t := by
    intro t k
    rw [hv66] at k
    show own_S p e below s₁ (mkF m 56 (own_AIIIIIIIIIIUUUUUUUUUUUUUUU p0 p1 p2 p3 p4 v8 v16 v27 v37 v45) [(.int v56)]) _
    refine XS.istore X0.here hx rfl (hb hby at_56) rfl (l' := (own_AIIIIIIIIIIIUUUUUUUUUUUUUU p0 p1 p2 p3 p4 v8 v16 v27 v37 v45 v56)) rfl ?_
    show own_S p e below s₁ (mkF m 58 (own_AIIIIIIIIIIIUUUUUUUUUUUUUU p0 p1 p2 p3 p4 v8 v16 v27 v37 v45 v56) []) _
    refine XS.iloadN X0.here hx rfl (hb hby at_58) rfl ?_
    show own_S p e below s₁ (mkF m 59 (own_AIIIIIIIIIIIUUUUUUUUUUUUUU p0 p1 p2 p3 p4 v8 v16 v27 v37 v45 v56) [(.int p2)]) _
    refine XS.bipush X0.here hx rfl (hb hby at_59) ?_
    show own_S p e below s₁ (mkF m 61 (own_AIIIIIIIIIIIUUUUUUUUUUUUUU p0 p1 p2 p3 p4 v8 v16 v27 v37 v45 v56) [(.int (16 : Int32)), (.int p2)]) _
    refine XS.iushr X0.here hx rfl (hb hby at_61) rfl ?_
    show own_S p e below s₁ (mkF m 62 (own_AIIIIIIIIIIIUUUUUUUUUUUUUU p0 p1 p2 p3 p4 v8 v16 v27 v37 v45 v56) [(.int ((p2.toUInt32 >>> ((16 : Int32) &&& 31).toUInt32).toInt32))]) _
    refine XS.iconst X0.here hx rfl (hb hby at_62) ?_
    show own_S p e below s₁ (mkF m 63 (own_AIIIIIIIIIIIUUUUUUUUUUUUUU p0 p1 p2 p3 p4 v8 v16 v27 v37 v45 v56) [(.int (3 : Int32)), (.int ((p2.toUInt32 >>> ((16 : Int32) &&& 31).toUInt32).toInt32))]) _
    refine XS.iand X0.here hx rfl (hb hby at_63) rfl ?_
    show own_S p e below s₁ (mkF m 64 (own_AIIIIIIIIIIIUUUUUUUUUUUUUU p0 p1 p2 p3 p4 v8 v16 v27 v37 v45 v56) [(.int (((p2.toUInt32 >>> ((16 : Int32) &&& 31).toUInt32).toInt32) &&& (3 : Int32)))]) _
    refine XS.iconst X0.here hx rfl (hb hby at_64) ?_
    show own_S p e below s₁ (mkF m 65 (own_AIIIIIIIIIIIUUUUUUUUUUUUUU p0 p1 p2 p3 p4 v8 v16 v27 v37 v45 v56) [(.int (3 : Int32)), (.int (((p2.toUInt32 >>> ((16 : Int32) &&& 31).toUInt32).toInt32) &&& (3 : Int32)))]) _
    refine iremM X0 hx rfl (hb hby at_65) rfl (by decide) ?_
    exact k
  refine own_by sg66 ?_
  obtain ⟨v77, hv77⟩ : ∃ z : Int32, z = ((v16 ^^^ (p2 &&& (255 : Int32))).toUInt32.toUInt16.toUInt32.toInt32) := ⟨_, rfl⟩
  have sg77 : ∀ t, own_S p e below s₁ (mkF m 77 (own_AIIIIIIIIIIIIUUUUUUUUUUUUU p0 p1 p2 p3 p4 v8 v16 v27 v37 v45 v56 v66) [(.int v77)]) t → own_S p e below s₁ (mkF m 66 (own_AIIIIIIIIIIIUUUUUUUUUUUUUU p0 p1 p2 p3 p4 v8 v16 v27 v37 v45 v56) [(.int v66)]) t := by
    intro t k
    rw [hv77] at k
    show own_S p e below s₁ (mkF m 66 (own_AIIIIIIIIIIIUUUUUUUUUUUUUU p0 p1 p2 p3 p4 v8 v16 v27 v37 v45 v56) [(.int v66)]) _
    refine XS.istore X0.here hx rfl (hb hby at_66) rfl (l' := (own_AIIIIIIIIIIIIUUUUUUUUUUUUU p0 p1 p2 p3 p4 v8 v16 v27 v37 v45 v56 v66)) rfl ?_
    show own_S p e below s₁ (mkF m 68 (own_AIIIIIIIIIIIIUUUUUUUUUUUUU p0 p1 p2 p3 p4 v8 v16 v27 v37 v45 v56 v66) []) _
    refine XS.iload X0.here hx rfl (hb hby at_68) rfl ?_
    show own_S p e below s₁ (mkF m 70 (own_AIIIIIIIIIIIIUUUUUUUUUUUUU p0 p1 p2 p3 p4 v8 v16 v27 v37 v45 v56 v66) [(.int v16)]) _
    refine XS.iloadN X0.here hx rfl (hb hby at_70) rfl ?_
    show own_S p e below s₁ (mkF m 71 (own_AIIIIIIIIIIIIUUUUUUUUUUUUU p0 p1 p2 p3 p4 v8 v16 v27 v37 v45 v56 v66) [(.int p2), (.int v16)]) _
    refine XS.sipush X0.here hx rfl (hb hby at_71) ?_
    show own_S p e below s₁ (mkF m 74 (own_AIIIIIIIIIIIIUUUUUUUUUUUUU p0 p1 p2 p3 p4 v8 v16 v27 v37 v45 v56 v66) [(.int (255 : Int32)), (.int p2), (.int v16)]) _
    refine XS.iand X0.here hx rfl (hb hby at_74) rfl ?_
    show own_S p e below s₁ (mkF m 75 (own_AIIIIIIIIIIIIUUUUUUUUUUUUU p0 p1 p2 p3 p4 v8 v16 v27 v37 v45 v56 v66) [(.int (p2 &&& (255 : Int32))), (.int v16)]) _
    refine XS.ixor X0.here hx rfl (hb hby at_75) rfl ?_
    show own_S p e below s₁ (mkF m 76 (own_AIIIIIIIIIIIIUUUUUUUUUUUUU p0 p1 p2 p3 p4 v8 v16 v27 v37 v45 v56 v66) [(.int (v16 ^^^ (p2 &&& (255 : Int32))))]) _
    refine XS.i2c X0.here hx rfl (hb hby at_76) rfl ?_
    exact k
  refine own_by sg77 ?_
  have hk_v77 : ¬ v77 < 0 ∧ ¬ (255 : Int32) < v77 := by rw [hv77]; exact own_x255 _ _ hk_v16
  obtain ⟨v91, hv91⟩ : ∃ z : Int32, z = ((v27 ^^^ (((p2.toUInt32 >>> ((8 : Int32) &&& 31).toUInt32).toInt32) &&& (255 : Int32))).toUInt32.toUInt16.toUInt32.toInt32) := ⟨_, rfl⟩
  have sg91 : ∀ t, own_S p e below s₁ (mkF m 91 (own_AIIIIIIIIIIIIIUUUUUUUUUUUU p0 p1 p2 p3 p4 v8 v16 v27 v37 v45 v56 v66 v77) [(.int v91)]) t → own_S p e below s₁ (mkF m 77 (own_AIIIIIIIIIIIIUUUUUUUUUUUUU p0 p1 p2 p3 p4 v8 v16 v27 v37 v45 v56 v66) [(.int v77)]) t := by
    intro t k
    rw [hv91] at k
    show own_S p e below s₁ (mkF m 77 (own_AIIIIIIIIIIIIUUUUUUUUUUUUU p0 p1 p2 p3 p4 v8 v16 v27 v37 v45 v56 v66) [(.int v77)]) _
    refine XS.istore X0.here hx rfl (hb hby at_77) rfl (l' := (own_AIIIIIIIIIIIIIUUUUUUUUUUUU p0 p1 p2 p3 p4 v8 v16 v27 v37 v45 v56 v66 v77)) rfl ?_
    show own_S p e below s₁ (mkF m 79 (own_AIIIIIIIIIIIIIUUUUUUUUUUUU p0 p1 p2 p3 p4 v8 v16 v27 v37 v45 v56 v66 v77) []) _
    refine XS.iload X0.here hx rfl (hb hby at_79) rfl ?_
    show own_S p e below s₁ (mkF m 81 (own_AIIIIIIIIIIIIIUUUUUUUUUUUU p0 p1 p2 p3 p4 v8 v16 v27 v37 v45 v56 v66 v77) [(.int v27)]) _
    refine XS.iloadN X0.here hx rfl (hb hby at_81) rfl ?_
    show own_S p e below s₁ (mkF m 82 (own_AIIIIIIIIIIIIIUUUUUUUUUUUU p0 p1 p2 p3 p4 v8 v16 v27 v37 v45 v56 v66 v77) [(.int p2), (.int v27)]) _
    refine XS.bipush X0.here hx rfl (hb hby at_82) ?_
    show own_S p e below s₁ (mkF m 84 (own_AIIIIIIIIIIIIIUUUUUUUUUUUU p0 p1 p2 p3 p4 v8 v16 v27 v37 v45 v56 v66 v77) [(.int (8 : Int32)), (.int p2), (.int v27)]) _
    refine XS.iushr X0.here hx rfl (hb hby at_84) rfl ?_
    show own_S p e below s₁ (mkF m 85 (own_AIIIIIIIIIIIIIUUUUUUUUUUUU p0 p1 p2 p3 p4 v8 v16 v27 v37 v45 v56 v66 v77) [(.int ((p2.toUInt32 >>> ((8 : Int32) &&& 31).toUInt32).toInt32)), (.int v27)]) _
    refine XS.sipush X0.here hx rfl (hb hby at_85) ?_
    show own_S p e below s₁ (mkF m 88 (own_AIIIIIIIIIIIIIUUUUUUUUUUUU p0 p1 p2 p3 p4 v8 v16 v27 v37 v45 v56 v66 v77) [(.int (255 : Int32)), (.int ((p2.toUInt32 >>> ((8 : Int32) &&& 31).toUInt32).toInt32)), (.int v27)]) _
    refine XS.iand X0.here hx rfl (hb hby at_88) rfl ?_
    show own_S p e below s₁ (mkF m 89 (own_AIIIIIIIIIIIIIUUUUUUUUUUUU p0 p1 p2 p3 p4 v8 v16 v27 v37 v45 v56 v66 v77) [(.int (((p2.toUInt32 >>> ((8 : Int32) &&& 31).toUInt32).toInt32) &&& (255 : Int32))), (.int v27)]) _
    refine XS.ixor X0.here hx rfl (hb hby at_89) rfl ?_
    show own_S p e below s₁ (mkF m 90 (own_AIIIIIIIIIIIIIUUUUUUUUUUUU p0 p1 p2 p3 p4 v8 v16 v27 v37 v45 v56 v66 v77) [(.int (v27 ^^^ (((p2.toUInt32 >>> ((8 : Int32) &&& 31).toUInt32).toInt32) &&& (255 : Int32))))]) _
    refine XS.i2c X0.here hx rfl (hb hby at_90) rfl ?_
    exact k
  refine own_by sg91 ?_
  have hk_v91 : ¬ v91 < 0 ∧ ¬ (255 : Int32) < v91 := by rw [hv91]; exact own_x255 _ _ hk_v27
  obtain ⟨v101, hv101⟩ : ∃ z : Int32, z = ((((p3.toUInt32 >>> ((16 : Int32) &&& 31).toUInt32).toInt32) &&& (3 : Int32)) % (3 : Int32)) := ⟨_, rfl⟩
  have sg101 : ∀ t, own_S p e below s₁ (mkF m 101 (own_AIIIIIIIIIIIIIIUUUUUUUUUUU p0 p1 p2 p3 p4 v8 v16 v27 v37 v45 v56 v66 v77 v91) [(.int v101)]) t → own_S p e below s₁ (mkF m 91 (own_AIIIIIIIIIIIIIUUUUUUUUUUUU p0 p1 p2 p3 p4 v8 v16 v27 v37 v45 v56 v66 v77) [(.int v91)]) t := by
    intro t k
    rw [hv101] at k
    show own_S p e below s₁ (mkF m 91 (own_AIIIIIIIIIIIIIUUUUUUUUUUUU p0 p1 p2 p3 p4 v8 v16 v27 v37 v45 v56 v66 v77) [(.int v91)]) _
    refine XS.istore X0.here hx rfl (hb hby at_91) rfl (l' := (own_AIIIIIIIIIIIIIIUUUUUUUUUUU p0 p1 p2 p3 p4 v8 v16 v27 v37 v45 v56 v66 v77 v91)) rfl ?_
    show own_S p e below s₁ (mkF m 93 (own_AIIIIIIIIIIIIIIUUUUUUUUUUU p0 p1 p2 p3 p4 v8 v16 v27 v37 v45 v56 v66 v77 v91) []) _
    refine XS.iloadN X0.here hx rfl (hb hby at_93) rfl ?_
    show own_S p e below s₁ (mkF m 94 (own_AIIIIIIIIIIIIIIUUUUUUUUUUU p0 p1 p2 p3 p4 v8 v16 v27 v37 v45 v56 v66 v77 v91) [(.int p3)]) _
    refine XS.bipush X0.here hx rfl (hb hby at_94) ?_
    show own_S p e below s₁ (mkF m 96 (own_AIIIIIIIIIIIIIIUUUUUUUUUUU p0 p1 p2 p3 p4 v8 v16 v27 v37 v45 v56 v66 v77 v91) [(.int (16 : Int32)), (.int p3)]) _
    refine XS.iushr X0.here hx rfl (hb hby at_96) rfl ?_
    show own_S p e below s₁ (mkF m 97 (own_AIIIIIIIIIIIIIIUUUUUUUUUUU p0 p1 p2 p3 p4 v8 v16 v27 v37 v45 v56 v66 v77 v91) [(.int ((p3.toUInt32 >>> ((16 : Int32) &&& 31).toUInt32).toInt32))]) _
    refine XS.iconst X0.here hx rfl (hb hby at_97) ?_
    show own_S p e below s₁ (mkF m 98 (own_AIIIIIIIIIIIIIIUUUUUUUUUUU p0 p1 p2 p3 p4 v8 v16 v27 v37 v45 v56 v66 v77 v91) [(.int (3 : Int32)), (.int ((p3.toUInt32 >>> ((16 : Int32) &&& 31).toUInt32).toInt32))]) _
    refine XS.iand X0.here hx rfl (hb hby at_98) rfl ?_
    show own_S p e below s₁ (mkF m 99 (own_AIIIIIIIIIIIIIIUUUUUUUUUUU p0 p1 p2 p3 p4 v8 v16 v27 v37 v45 v56 v66 v77 v91) [(.int (((p3.toUInt32 >>> ((16 : Int32) &&& 31).toUInt32).toInt32) &&& (3 : Int32)))]) _
    refine XS.iconst X0.here hx rfl (hb hby at_99) ?_
    show own_S p e below s₁ (mkF m 100 (own_AIIIIIIIIIIIIIIUUUUUUUUUUU p0 p1 p2 p3 p4 v8 v16 v27 v37 v45 v56 v66 v77 v91) [(.int (3 : Int32)), (.int (((p3.toUInt32 >>> ((16 : Int32) &&& 31).toUInt32).toInt32) &&& (3 : Int32)))]) _
    refine iremM X0 hx rfl (hb hby at_100) rfl (by decide) ?_
    exact k
  refine own_by sg101 ?_
  obtain ⟨v112, hv112⟩ : ∃ z : Int32, z = ((v45 ^^^ (p3 &&& (255 : Int32))).toUInt32.toUInt16.toUInt32.toInt32) := ⟨_, rfl⟩
  have sg112 : ∀ t, own_S p e below s₁ (mkF m 112 (own_AIIIIIIIIIIIIIIIUUUUUUUUUU p0 p1 p2 p3 p4 v8 v16 v27 v37 v45 v56 v66 v77 v91 v101) [(.int v112)]) t → own_S p e below s₁ (mkF m 101 (own_AIIIIIIIIIIIIIIUUUUUUUUUUU p0 p1 p2 p3 p4 v8 v16 v27 v37 v45 v56 v66 v77 v91) [(.int v101)]) t := by
    intro t k
    rw [hv112] at k
    show own_S p e below s₁ (mkF m 101 (own_AIIIIIIIIIIIIIIUUUUUUUUUUU p0 p1 p2 p3 p4 v8 v16 v27 v37 v45 v56 v66 v77 v91) [(.int v101)]) _
    refine XS.istore X0.here hx rfl (hb hby at_101) rfl (l' := (own_AIIIIIIIIIIIIIIIUUUUUUUUUU p0 p1 p2 p3 p4 v8 v16 v27 v37 v45 v56 v66 v77 v91 v101)) rfl ?_
    show own_S p e below s₁ (mkF m 103 (own_AIIIIIIIIIIIIIIIUUUUUUUUUU p0 p1 p2 p3 p4 v8 v16 v27 v37 v45 v56 v66 v77 v91 v101) []) _
    refine XS.iload X0.here hx rfl (hb hby at_103) rfl ?_
    show own_S p e below s₁ (mkF m 105 (own_AIIIIIIIIIIIIIIIUUUUUUUUUU p0 p1 p2 p3 p4 v8 v16 v27 v37 v45 v56 v66 v77 v91 v101) [(.int v45)]) _
    refine XS.iloadN X0.here hx rfl (hb hby at_105) rfl ?_
    show own_S p e below s₁ (mkF m 106 (own_AIIIIIIIIIIIIIIIUUUUUUUUUU p0 p1 p2 p3 p4 v8 v16 v27 v37 v45 v56 v66 v77 v91 v101) [(.int p3), (.int v45)]) _
    refine XS.sipush X0.here hx rfl (hb hby at_106) ?_
    show own_S p e below s₁ (mkF m 109 (own_AIIIIIIIIIIIIIIIUUUUUUUUUU p0 p1 p2 p3 p4 v8 v16 v27 v37 v45 v56 v66 v77 v91 v101) [(.int (255 : Int32)), (.int p3), (.int v45)]) _
    refine XS.iand X0.here hx rfl (hb hby at_109) rfl ?_
    show own_S p e below s₁ (mkF m 110 (own_AIIIIIIIIIIIIIIIUUUUUUUUUU p0 p1 p2 p3 p4 v8 v16 v27 v37 v45 v56 v66 v77 v91 v101) [(.int (p3 &&& (255 : Int32))), (.int v45)]) _
    refine XS.ixor X0.here hx rfl (hb hby at_110) rfl ?_
    show own_S p e below s₁ (mkF m 111 (own_AIIIIIIIIIIIIIIIUUUUUUUUUU p0 p1 p2 p3 p4 v8 v16 v27 v37 v45 v56 v66 v77 v91 v101) [(.int (v45 ^^^ (p3 &&& (255 : Int32))))]) _
    refine XS.i2c X0.here hx rfl (hb hby at_111) rfl ?_
    exact k
  refine own_by sg112 ?_
  have hk_v112 : ¬ v112 < 0 ∧ ¬ (255 : Int32) < v112 := by rw [hv112]; exact own_x255 _ _ hk_v45
  obtain ⟨v126, hv126⟩ : ∃ z : Int32, z = ((v56 ^^^ (((p3.toUInt32 >>> ((8 : Int32) &&& 31).toUInt32).toInt32) &&& (255 : Int32))).toUInt32.toUInt16.toUInt32.toInt32) := ⟨_, rfl⟩
  have sg126 : ∀ t, own_S p e below s₁ (mkF m 126 (own_AIIIIIIIIIIIIIIIIUUUUUUUUU p0 p1 p2 p3 p4 v8 v16 v27 v37 v45 v56 v66 v77 v91 v101 v112) [(.int v126)]) t → own_S p e below s₁ (mkF m 112 (own_AIIIIIIIIIIIIIIIUUUUUUUUUU p0 p1 p2 p3 p4 v8 v16 v27 v37 v45 v56 v66 v77 v91 v101) [(.int v112)]) t := by
    intro t k
    rw [hv126] at k
    show own_S p e below s₁ (mkF m 112 (own_AIIIIIIIIIIIIIIIUUUUUUUUUU p0 p1 p2 p3 p4 v8 v16 v27 v37 v45 v56 v66 v77 v91 v101) [(.int v112)]) _
    refine XS.istore X0.here hx rfl (hb hby at_112) rfl (l' := (own_AIIIIIIIIIIIIIIIIUUUUUUUUU p0 p1 p2 p3 p4 v8 v16 v27 v37 v45 v56 v66 v77 v91 v101 v112)) rfl ?_
    show own_S p e below s₁ (mkF m 114 (own_AIIIIIIIIIIIIIIIIUUUUUUUUU p0 p1 p2 p3 p4 v8 v16 v27 v37 v45 v56 v66 v77 v91 v101 v112) []) _
    refine XS.iload X0.here hx rfl (hb hby at_114) rfl ?_
    show own_S p e below s₁ (mkF m 116 (own_AIIIIIIIIIIIIIIIIUUUUUUUUU p0 p1 p2 p3 p4 v8 v16 v27 v37 v45 v56 v66 v77 v91 v101 v112) [(.int v56)]) _
    refine XS.iloadN X0.here hx rfl (hb hby at_116) rfl ?_
    show own_S p e below s₁ (mkF m 117 (own_AIIIIIIIIIIIIIIIIUUUUUUUUU p0 p1 p2 p3 p4 v8 v16 v27 v37 v45 v56 v66 v77 v91 v101 v112) [(.int p3), (.int v56)]) _
    refine XS.bipush X0.here hx rfl (hb hby at_117) ?_
    show own_S p e below s₁ (mkF m 119 (own_AIIIIIIIIIIIIIIIIUUUUUUUUU p0 p1 p2 p3 p4 v8 v16 v27 v37 v45 v56 v66 v77 v91 v101 v112) [(.int (8 : Int32)), (.int p3), (.int v56)]) _
    refine XS.iushr X0.here hx rfl (hb hby at_119) rfl ?_
    show own_S p e below s₁ (mkF m 120 (own_AIIIIIIIIIIIIIIIIUUUUUUUUU p0 p1 p2 p3 p4 v8 v16 v27 v37 v45 v56 v66 v77 v91 v101 v112) [(.int ((p3.toUInt32 >>> ((8 : Int32) &&& 31).toUInt32).toInt32)), (.int v56)]) _
    refine XS.sipush X0.here hx rfl (hb hby at_120) ?_
    show own_S p e below s₁ (mkF m 123 (own_AIIIIIIIIIIIIIIIIUUUUUUUUU p0 p1 p2 p3 p4 v8 v16 v27 v37 v45 v56 v66 v77 v91 v101 v112) [(.int (255 : Int32)), (.int ((p3.toUInt32 >>> ((8 : Int32) &&& 31).toUInt32).toInt32)), (.int v56)]) _
    refine XS.iand X0.here hx rfl (hb hby at_123) rfl ?_
    show own_S p e below s₁ (mkF m 124 (own_AIIIIIIIIIIIIIIIIUUUUUUUUU p0 p1 p2 p3 p4 v8 v16 v27 v37 v45 v56 v66 v77 v91 v101 v112) [(.int (((p3.toUInt32 >>> ((8 : Int32) &&& 31).toUInt32).toInt32) &&& (255 : Int32))), (.int v56)]) _
    refine XS.ixor X0.here hx rfl (hb hby at_124) rfl ?_
    show own_S p e below s₁ (mkF m 125 (own_AIIIIIIIIIIIIIIIIUUUUUUUUU p0 p1 p2 p3 p4 v8 v16 v27 v37 v45 v56 v66 v77 v91 v101 v112) [(.int (v56 ^^^ (((p3.toUInt32 >>> ((8 : Int32) &&& 31).toUInt32).toInt32) &&& (255 : Int32))))]) _
    refine XS.i2c X0.here hx rfl (hb hby at_125) rfl ?_
    exact k
  refine own_by sg126 ?_
  have hk_v126 : ¬ v126 < 0 ∧ ¬ (255 : Int32) < v126 := by rw [hv126]; exact own_x255 _ _ hk_v56
  have sg134 : ∀ t, own_S p e below s₁ (mkF m 134 (own_AIIIIIIIIIIIIIIIIIUUUUUUUU p0 p1 p2 p3 p4 v8 v16 v27 v37 v45 v56 v66 v77 v91 v101 v112 v126) [(.int v27), (.int v16), (.int v8)]) t → own_S p e below s₁ (mkF m 126 (own_AIIIIIIIIIIIIIIIIUUUUUUUUU p0 p1 p2 p3 p4 v8 v16 v27 v37 v45 v56 v66 v77 v91 v101 v112) [(.int v126)]) t := by
    intro t k
    show own_S p e below s₁ (mkF m 126 (own_AIIIIIIIIIIIIIIIIUUUUUUUUU p0 p1 p2 p3 p4 v8 v16 v27 v37 v45 v56 v66 v77 v91 v101 v112) [(.int v126)]) _
    refine XS.istore X0.here hx rfl (hb hby at_126) rfl (l' := (own_AIIIIIIIIIIIIIIIIIUUUUUUUU p0 p1 p2 p3 p4 v8 v16 v27 v37 v45 v56 v66 v77 v91 v101 v112 v126)) rfl ?_
    show own_S p e below s₁ (mkF m 128 (own_AIIIIIIIIIIIIIIIIIUUUUUUUU p0 p1 p2 p3 p4 v8 v16 v27 v37 v45 v56 v66 v77 v91 v101 v112 v126) []) _
    refine XS.iload X0.here hx rfl (hb hby at_128) rfl ?_
    show own_S p e below s₁ (mkF m 130 (own_AIIIIIIIIIIIIIIIIIUUUUUUUU p0 p1 p2 p3 p4 v8 v16 v27 v37 v45 v56 v66 v77 v91 v101 v112 v126) [(.int v8)]) _
    refine XS.iload X0.here hx rfl (hb hby at_130) rfl ?_
    show own_S p e below s₁ (mkF m 132 (own_AIIIIIIIIIIIIIIIIIUUUUUUUU p0 p1 p2 p3 p4 v8 v16 v27 v37 v45 v56 v66 v77 v91 v101 v112 v126) [(.int v16), (.int v8)]) _
    refine XS.iload X0.here hx rfl (hb hby at_132) rfl ?_
    exact k
  refine own_by sg134 ?_
  obtain ⟨_, _, ⟨T134, L134, k134, n134⟩, -, Xc134, hSc134, hgc134, ⟨Lc134, hQ134, l134, y134, z134, hC134⟩, st134⟩ := callSS X0 hx (y := (⟨"com/example/forget_by_time/forgetbytime/engine/TableNameEqualsPinLaw", "mk", "(ICC)Ljava/lang/String;"⟩ : MethodName)) hown (mvT hZ (hw _ (List.mem_of_getElem? (i := 0) rfl))) (mvT hZ (hw _ (List.mem_of_getElem? (i := 1) rfl))) (mvT hZ (hw _ (List.mem_of_getElem? (i := 2) rfl))) (mvT hZ (hw _ (List.mem_of_getElem? (i := 3) rfl))) (by decide) (backOfSH (W := 0) (rm1 l Z a0 hw [] v8 v16 v27 gz h0 n0 Z0 O O2 P5 hk_v16 hk_v27) hZ (hw _ (List.mem_of_getElem? (i := 3) rfl)) (hw _ (List.mem_of_getElem? (i := 2) rfl)) (by decide) (by decide) hEL hH0) (g := (mkF m 134 (own_AIIIIIIIIIIIIIIIIIUUUUUUUU p0 p1 p2 p3 p4 v8 v16 v27 v37 v45 v56 v66 v77 v91 v101 v112 v126) [(.int v27), (.int v16), (.int v8)])) rfl (by rw [hml]; rfl) (argsL := [(.int v8), (.int v16), (.int v27)]) (rest := []) (lenOf pd_0_0 rfl) rfl (by show 2 * 0 + _ ≤ _; exact Nat.le_of_eq rfl) (hb hby at_134) (fun _ _ => ⟨rfl, e0, (by decide : 0 + 6 ≤ _), (by decide : 0 + 12 ≤ _)⟩)
  dsimp only [Pt.U, Pt.locs, Pt.cells, Pt.slots] at Xc134 hSc134 hgc134
  obtain ⟨X134, hS134, hZ134, hown134⟩ := rebS hS0 (by rw [e0]; exact (Nat.zero_le _)) Xc134 hSc134 hgc134 hZ hown
  dsimp only [Pt.U, Pt.locs, Pt.cells, Pt.slots] at X134 l134 y134 z134 st134 hQ134
  subst l134 y134 z134
  obtain ⟨r134, rfl, ge134, N134q, Kq134, Sq134⟩ := hQ134
  have N134 := Fr.app N0 N134q
  have g_r134 : n0 ≤ r134 := Nat.le_trans Z0 ge134
  have sz_r134 : h0.size ≤ r134 := Nat.le_trans K0.1 ge134
  have K134 : Keep h0 T134.heap [] := K0.trans Kq134 (fun x hx => nomatch hx)
  have Z134 : n0 ≤ T134.heap.size := Nat.le_trans Z0 Kq134.1
  have CR134 := (CHr.refl hH0).trans hC134
  refine own_by (fun t k => st134.trans k) ?_
  have sg145 : ∀ t, own_S p e below T134 (mkF m 145 (own_AIIIIIIIIIIIIIIIIIRUUUUUUU p0 p1 p2 p3 p4 v8 v16 v27 v37 v45 v56 v66 v77 v91 v101 v112 v126 r134) [(.int v56), (.int v45), (.int v37)]) t → own_S p e below T134 (mkF m 137 (own_AIIIIIIIIIIIIIIIIIUUUUUUUU p0 p1 p2 p3 p4 v8 v16 v27 v37 v45 v56 v66 v77 v91 v101 v112 v126) [(.ref r134)]) t := by
    intro t k
    show own_S p e below T134 (mkF m 137 (own_AIIIIIIIIIIIIIIIIIUUUUUUUU p0 p1 p2 p3 p4 v8 v16 v27 v37 v45 v56 v66 v77 v91 v101 v112 v126) [(.ref r134)]) _
    refine XS.astore X134.here hx rfl (hb hby at_137) rfl rfl (l' := (own_AIIIIIIIIIIIIIIIIIRUUUUUUU p0 p1 p2 p3 p4 v8 v16 v27 v37 v45 v56 v66 v77 v91 v101 v112 v126 r134)) rfl ?_
    show own_S p e below T134 (mkF m 139 (own_AIIIIIIIIIIIIIIIIIRUUUUUUU p0 p1 p2 p3 p4 v8 v16 v27 v37 v45 v56 v66 v77 v91 v101 v112 v126 r134) []) _
    refine XS.iload X134.here hx rfl (hb hby at_139) rfl ?_
    show own_S p e below T134 (mkF m 141 (own_AIIIIIIIIIIIIIIIIIRUUUUUUU p0 p1 p2 p3 p4 v8 v16 v27 v37 v45 v56 v66 v77 v91 v101 v112 v126 r134) [(.int v37)]) _
    refine XS.iload X134.here hx rfl (hb hby at_141) rfl ?_
    show own_S p e below T134 (mkF m 143 (own_AIIIIIIIIIIIIIIIIIRUUUUUUU p0 p1 p2 p3 p4 v8 v16 v27 v37 v45 v56 v66 v77 v91 v101 v112 v126 r134) [(.int v45), (.int v37)]) _
    refine XS.iload X134.here hx rfl (hb hby at_143) rfl ?_
    exact k
  refine own_by sg145 ?_
  obtain ⟨_, _, ⟨T145, L145, k145, n145⟩, -, Xc145, hSc145, hgc145, ⟨Lc145, hQ145, l145, y145, z145, hC145⟩, st145⟩ := callSS X134 hx (y := (⟨"com/example/forget_by_time/forgetbytime/engine/TableNameEqualsPinLaw", "mk", "(ICC)Ljava/lang/String;"⟩ : MethodName)) hown134 (mvT hZ134 (hw _ (List.mem_of_getElem? (i := 0) rfl))) (mvT hZ134 (hw _ (List.mem_of_getElem? (i := 1) rfl))) (mvT hZ134 (hw _ (List.mem_of_getElem? (i := 2) rfl))) (mvT hZ134 (hw _ (List.mem_of_getElem? (i := 3) rfl))) (by decide) (backOfSH (W := 0) (rm1 l Z a0 hw [] v37 v45 v56 gz T134.heap n0 Z134 (O.keep Kq134 all0) O2 P5 hk_v45 hk_v56) hZ134 (hw _ (List.mem_of_getElem? (i := 3) rfl)) (hw _ (List.mem_of_getElem? (i := 2) rfl)) (by decide) (by decide) hEL hC134.1) (g := (mkF m 145 (own_AIIIIIIIIIIIIIIIIIRUUUUUUU p0 p1 p2 p3 p4 v8 v16 v27 v37 v45 v56 v66 v77 v91 v101 v112 v126 r134) [(.int v56), (.int v45), (.int v37)])) rfl (by rw [hml]; rfl) (argsL := [(.int v37), (.int v45), (.int v56)]) (rest := []) (lenOf pd_0_0 rfl) rfl (by show 2 * 0 + _ ≤ _; exact Nat.le_of_eq rfl) (hb hby at_145) (fun _ _ => ⟨rfl, rfl, (by decide : 6 + 6 ≤ _), (by decide : 12 + 12 ≤ _)⟩)
  dsimp only [Pt.U, Pt.locs, Pt.cells, Pt.slots] at Xc145 hSc145 hgc145
  obtain ⟨X145, hS145, hZ145, hown145⟩ := rebS hS134 (Nat.le_refl _) Xc145 hSc145 hgc145 hZ134 hown134
  dsimp only [Pt.U, Pt.locs, Pt.cells, Pt.slots] at X145 l145 y145 z145 st145 hQ145
  subst l145 y145 z145
  obtain ⟨r145, rfl, ge145, N145q, Kq145, Sq145⟩ := hQ145
  have N145 := Fr.app N134 N145q
  have ne_r134_r145 : r134 ≠ r145 := Nat.ne_of_lt (Nat.lt_of_lt_of_le Sq134.lt ge145)
  have g_r145 : n0 ≤ r145 := Nat.le_trans Z134 ge145
  have sz_r145 : h0.size ≤ r145 := Nat.le_trans K134.1 ge145
  have K145 : Keep h0 T145.heap [] := K134.trans Kq145 (fun x hx => nomatch hx)
  have Z145 : n0 ≤ T145.heap.size := Nat.le_trans Z134 Kq145.1
  have CR145 := CR134.trans hC145
  refine own_by (fun t k => st145.trans k) ?_
  have sg156 : ∀ t, own_S p e below T145 (mkF m 156 (own_AIIIIIIIIIIIIIIIIIRRUUUUUU p0 p1 p2 p3 p4 v8 v16 v27 v37 v45 v56 v66 v77 v91 v101 v112 v126 r134 r145) [(.int v91), (.int v77), (.int v66)]) t → own_S p e below T145 (mkF m 148 (own_AIIIIIIIIIIIIIIIIIRUUUUUUU p0 p1 p2 p3 p4 v8 v16 v27 v37 v45 v56 v66 v77 v91 v101 v112 v126 r134) [(.ref r145)]) t := by
    intro t k
    show own_S p e below T145 (mkF m 148 (own_AIIIIIIIIIIIIIIIIIRUUUUUUU p0 p1 p2 p3 p4 v8 v16 v27 v37 v45 v56 v66 v77 v91 v101 v112 v126 r134) [(.ref r145)]) _
    refine XS.astore X145.here hx rfl (hb hby at_148) rfl rfl (l' := (own_AIIIIIIIIIIIIIIIIIRRUUUUUU p0 p1 p2 p3 p4 v8 v16 v27 v37 v45 v56 v66 v77 v91 v101 v112 v126 r134 r145)) rfl ?_
    show own_S p e below T145 (mkF m 150 (own_AIIIIIIIIIIIIIIIIIRRUUUUUU p0 p1 p2 p3 p4 v8 v16 v27 v37 v45 v56 v66 v77 v91 v101 v112 v126 r134 r145) []) _
    refine XS.iload X145.here hx rfl (hb hby at_150) rfl ?_
    show own_S p e below T145 (mkF m 152 (own_AIIIIIIIIIIIIIIIIIRRUUUUUU p0 p1 p2 p3 p4 v8 v16 v27 v37 v45 v56 v66 v77 v91 v101 v112 v126 r134 r145) [(.int v66)]) _
    refine XS.iload X145.here hx rfl (hb hby at_152) rfl ?_
    show own_S p e below T145 (mkF m 154 (own_AIIIIIIIIIIIIIIIIIRRUUUUUU p0 p1 p2 p3 p4 v8 v16 v27 v37 v45 v56 v66 v77 v91 v101 v112 v126 r134 r145) [(.int v77), (.int v66)]) _
    refine XS.iload X145.here hx rfl (hb hby at_154) rfl ?_
    exact k
  refine own_by sg156 ?_
  obtain ⟨_, _, ⟨T156, L156, k156, n156⟩, -, Xc156, hSc156, hgc156, ⟨Lc156, hQ156, l156, y156, z156, hC156⟩, st156⟩ := callSS X145 hx (y := (⟨"com/example/forget_by_time/forgetbytime/engine/TableNameEqualsPinLaw", "mk", "(ICC)Ljava/lang/String;"⟩ : MethodName)) hown145 (mvT hZ145 (hw _ (List.mem_of_getElem? (i := 0) rfl))) (mvT hZ145 (hw _ (List.mem_of_getElem? (i := 1) rfl))) (mvT hZ145 (hw _ (List.mem_of_getElem? (i := 2) rfl))) (mvT hZ145 (hw _ (List.mem_of_getElem? (i := 3) rfl))) (by decide) (backOfSH (W := 0) (rm1 l Z a0 hw [] v66 v77 v91 gz T145.heap n0 Z145 ((O.keep Kq134 all0).keep Kq145 all0) O2 P5 hk_v77 hk_v91) hZ145 (hw _ (List.mem_of_getElem? (i := 3) rfl)) (hw _ (List.mem_of_getElem? (i := 2) rfl)) (by decide) (by decide) hEL hC145.1) (g := (mkF m 156 (own_AIIIIIIIIIIIIIIIIIRRUUUUUU p0 p1 p2 p3 p4 v8 v16 v27 v37 v45 v56 v66 v77 v91 v101 v112 v126 r134 r145) [(.int v91), (.int v77), (.int v66)])) rfl (by rw [hml]; rfl) (argsL := [(.int v66), (.int v77), (.int v91)]) (rest := []) (lenOf pd_0_0 rfl) rfl (by show 2 * 0 + _ ≤ _; exact Nat.le_of_eq rfl) (hb hby at_156) (fun _ _ => ⟨rfl, rfl, (by decide : 12 + 6 ≤ _), (by decide : 24 + 12 ≤ _)⟩)
  dsimp only [Pt.U, Pt.locs, Pt.cells, Pt.slots] at Xc156 hSc156 hgc156
  obtain ⟨X156, hS156, hZ156, hown156⟩ := rebS hS145 (Nat.le_refl _) Xc156 hSc156 hgc156 hZ145 hown145
  dsimp only [Pt.U, Pt.locs, Pt.cells, Pt.slots] at X156 l156 y156 z156 st156 hQ156
  subst l156 y156 z156
  obtain ⟨r156, rfl, ge156, N156q, Kq156, Sq156⟩ := hQ156
  have N156 := Fr.app N145 N156q
  have ne_r134_r156 : r134 ≠ r156 := Nat.ne_of_lt (Nat.lt_of_lt_of_le (Sq134.ext (own_kx Kq145)).lt ge156)
  have ne_r145_r156 : r145 ≠ r156 := Nat.ne_of_lt (Nat.lt_of_lt_of_le Sq145.lt ge156)
  have g_r156 : n0 ≤ r156 := Nat.le_trans Z145 ge156
  have sz_r156 : h0.size ≤ r156 := Nat.le_trans K145.1 ge156
  have K156 : Keep h0 T156.heap [] := K145.trans Kq156 (fun x hx => nomatch hx)
  have Z156 : n0 ≤ T156.heap.size := Nat.le_trans Z145 Kq156.1
  have CR156 := CR145.trans hC156
  refine own_by (fun t k => st156.trans k) ?_
  have sg167 : ∀ t, own_S p e below T156 (mkF m 167 (own_AIIIIIIIIIIIIIIIIIRRRUUUUU p0 p1 p2 p3 p4 v8 v16 v27 v37 v45 v56 v66 v77 v91 v101 v112 v126 r134 r145 r156) [(.int v126), (.int v112), (.int v101)]) t → own_S p e below T156 (mkF m 159 (own_AIIIIIIIIIIIIIIIIIRRUUUUUU p0 p1 p2 p3 p4 v8 v16 v27 v37 v45 v56 v66 v77 v91 v101 v112 v126 r134 r145) [(.ref r156)]) t := by
    intro t k
    show own_S p e below T156 (mkF m 159 (own_AIIIIIIIIIIIIIIIIIRRUUUUUU p0 p1 p2 p3 p4 v8 v16 v27 v37 v45 v56 v66 v77 v91 v101 v112 v126 r134 r145) [(.ref r156)]) _
    refine XS.astore X156.here hx rfl (hb hby at_159) rfl rfl (l' := (own_AIIIIIIIIIIIIIIIIIRRRUUUUU p0 p1 p2 p3 p4 v8 v16 v27 v37 v45 v56 v66 v77 v91 v101 v112 v126 r134 r145 r156)) rfl ?_
    show own_S p e below T156 (mkF m 161 (own_AIIIIIIIIIIIIIIIIIRRRUUUUU p0 p1 p2 p3 p4 v8 v16 v27 v37 v45 v56 v66 v77 v91 v101 v112 v126 r134 r145 r156) []) _
    refine XS.iload X156.here hx rfl (hb hby at_161) rfl ?_
    show own_S p e below T156 (mkF m 163 (own_AIIIIIIIIIIIIIIIIIRRRUUUUU p0 p1 p2 p3 p4 v8 v16 v27 v37 v45 v56 v66 v77 v91 v101 v112 v126 r134 r145 r156) [(.int v101)]) _
    refine XS.iload X156.here hx rfl (hb hby at_163) rfl ?_
    show own_S p e below T156 (mkF m 165 (own_AIIIIIIIIIIIIIIIIIRRRUUUUU p0 p1 p2 p3 p4 v8 v16 v27 v37 v45 v56 v66 v77 v91 v101 v112 v126 r134 r145 r156) [(.int v112), (.int v101)]) _
    refine XS.iload X156.here hx rfl (hb hby at_165) rfl ?_
    exact k
  refine own_by sg167 ?_
  obtain ⟨_, _, ⟨T167, L167, k167, n167⟩, -, Xc167, hSc167, hgc167, ⟨Lc167, hQ167, l167, y167, z167, hC167⟩, st167⟩ := callSS X156 hx (y := (⟨"com/example/forget_by_time/forgetbytime/engine/TableNameEqualsPinLaw", "mk", "(ICC)Ljava/lang/String;"⟩ : MethodName)) hown156 (mvT hZ156 (hw _ (List.mem_of_getElem? (i := 0) rfl))) (mvT hZ156 (hw _ (List.mem_of_getElem? (i := 1) rfl))) (mvT hZ156 (hw _ (List.mem_of_getElem? (i := 2) rfl))) (mvT hZ156 (hw _ (List.mem_of_getElem? (i := 3) rfl))) (by decide) (backOfSH (W := 0) (rm1 l Z a0 hw [] v101 v112 v126 gz T156.heap n0 Z156 (((O.keep Kq134 all0).keep Kq145 all0).keep Kq156 all0) O2 P5 hk_v112 hk_v126) hZ156 (hw _ (List.mem_of_getElem? (i := 3) rfl)) (hw _ (List.mem_of_getElem? (i := 2) rfl)) (by decide) (by decide) hEL hC156.1) (g := (mkF m 167 (own_AIIIIIIIIIIIIIIIIIRRRUUUUU p0 p1 p2 p3 p4 v8 v16 v27 v37 v45 v56 v66 v77 v91 v101 v112 v126 r134 r145 r156) [(.int v126), (.int v112), (.int v101)])) rfl (by rw [hml]; rfl) (argsL := [(.int v101), (.int v112), (.int v126)]) (rest := []) (lenOf pd_0_0 rfl) rfl (by show 2 * 0 + _ ≤ _; exact Nat.le_of_eq rfl) (hb hby at_167) (fun _ _ => ⟨rfl, rfl, (by decide : 18 + 6 ≤ _), (by decide : 36 + 12 ≤ _)⟩)
  dsimp only [Pt.U, Pt.locs, Pt.cells, Pt.slots] at Xc167 hSc167 hgc167
  obtain ⟨X167, hS167, hZ167, hown167⟩ := rebS hS156 (Nat.le_refl _) Xc167 hSc167 hgc167 hZ156 hown156
  dsimp only [Pt.U, Pt.locs, Pt.cells, Pt.slots] at X167 l167 y167 z167 st167 hQ167
  subst l167 y167 z167
  obtain ⟨r167, rfl, ge167, N167q, Kq167, Sq167⟩ := hQ167
  have N167 := Fr.app N156 N167q
  have ne_r134_r167 : r134 ≠ r167 := Nat.ne_of_lt (Nat.lt_of_lt_of_le ((Sq134.ext (own_kx Kq145)).ext (own_kx Kq156)).lt ge167)
  have ne_r145_r167 : r145 ≠ r167 := Nat.ne_of_lt (Nat.lt_of_lt_of_le (Sq145.ext (own_kx Kq156)).lt ge167)
  have ne_r156_r167 : r156 ≠ r167 := Nat.ne_of_lt (Nat.lt_of_lt_of_le Sq156.lt ge167)
  have g_r167 : n0 ≤ r167 := Nat.le_trans Z156 ge167
  have sz_r167 : h0.size ≤ r167 := Nat.le_trans K156.1 ge167
  have fc := (((Sq134.ext (own_kx Kq145)).ext (own_kx Kq156)).ext (own_kx Kq167))
  have K167 : Keep h0 T167.heap [] := K156.trans Kq167 (fun x hx => nomatch hx)
  have Z167 : n0 ≤ T167.heap.size := Nat.le_trans Z156 Kq167.1
  have CR167 := CR156.trans hC167
  refine own_by (fun t k => st167.trans k) ?_
  have sg172 : ∀ t, own_S p e below T167 (mkF m 172 (own_AIIIIIIIIIIIIIIIIIRRRRUUUU p0 p1 p2 p3 p4 v8 v16 v27 v37 v45 v56 v66 v77 v91 v101 v112 v126 r134 r145 r156 r167) []) t → own_S p e below T167 (mkF m 170 (own_AIIIIIIIIIIIIIIIIIRRRUUUUU p0 p1 p2 p3 p4 v8 v16 v27 v37 v45 v56 v66 v77 v91 v101 v112 v126 r134 r145 r156) [(.ref r167)]) t := by
    intro t k
    show own_S p e below T167 (mkF m 170 (own_AIIIIIIIIIIIIIIIIIRRRUUUUU p0 p1 p2 p3 p4 v8 v16 v27 v37 v45 v56 v66 v77 v91 v101 v112 v126 r134 r145 r156) [(.ref r167)]) _
    refine XS.astore X167.here hx rfl (hb hby at_170) rfl rfl (l' := (own_AIIIIIIIIIIIIIIIIIRRRRUUUU p0 p1 p2 p3 p4 v8 v16 v27 v37 v45 v56 v66 v77 v91 v101 v112 v126 r134 r145 r156 r167)) rfl ?_
    exact k
  refine own_by sg172 ?_
  obtain ⟨T172, h172, X172, e172, E172, A172, D172, -, st172⟩ := newO X167 hx hZ167 hown167 (hw _ (List.mem_of_getElem? (i := 26) rfl)) (hw _ (List.mem_of_getElem? (i := 27) rfl)) (hw _ (List.mem_of_getElem? (i := 28) rfl)) rfl (g := (mkF m 172 (own_AIIIIIIIIIIIIIIIIIRRRRUUUU p0 p1 p2 p3 p4 v8 v16 v27 v37 v45 v56 v66 v77 v91 v101 v112 v126 r134 r145 r156 r167) [])) rfl (hb hby at_172) (by decide) (by decide)
  obtain ⟨b172, g172⟩ : ∃ z, z = T167.heap.size := ⟨_, rfl⟩
  rw [← g172] at A172 D172 st172
  have ne_r134_b172 : r134 ≠ b172 := Nat.ne_of_lt (Nat.lt_of_lt_of_le fc.lt (Nat.le_of_eq g172.symm))
  have ne_r145_b172 : r145 ≠ b172 := Nat.ne_of_lt (Nat.lt_of_lt_of_le ((Sq145.ext (own_kx Kq156)).ext (own_kx Kq167)).lt (Nat.le_of_eq g172.symm))
  have ne_r156_b172 : r156 ≠ b172 := Nat.ne_of_lt (Nat.lt_of_lt_of_le (Sq156.ext (own_kx Kq167)).lt (Nat.le_of_eq g172.symm))
  have ne_r167_b172 : r167 ≠ b172 := Nat.ne_of_lt (Nat.lt_of_lt_of_le Sq167.lt (Nat.le_of_eq g172.symm))
  have g_b172 : n0 ≤ b172 := Nat.le_trans Z167 (Nat.le_of_eq g172.symm)
  have sz_b172 : h0.size ≤ b172 := Nat.le_trans K167.1 (Nat.le_of_eq g172.symm)
  have K172 := K167.ext E172
  have Z172 : n0 ≤ h172.size := Nat.le_trans Z167 E172.1
  have CC172 := CHr.ext E172 hC167.1
  have CR172 := CR167.trans CC172
  have F_schema_b172 : Fld Z h172 b172 "com/example/forget_by_time/forgetbytime/engine/TableName" "schema" "Ljava/lang/String;" .null := D172 (Or.inr (hw _ (List.mem_of_getElem? (i := 40) rfl))) (ty := (.object "java/lang/String")) (by decide)
  have F_name_b172 : Fld Z h172 b172 "com/example/forget_by_time/forgetbytime/engine/TableName" "name" "Ljava/lang/String;" .null := D172 (Or.inr (hw _ (List.mem_of_getElem? (i := 43) rfl))) (ty := (.object "java/lang/String")) (by decide)
  refine own_by st172 ?_
  have sg180 : ∀ t, own_S p e below T172 (mkF m 180 (own_AIIIIIIIIIIIIIIIIIRRRRUUUU p0 p1 p2 p3 p4 v8 v16 v27 v37 v45 v56 v66 v77 v91 v101 v112 v126 r134 r145 r156 r167) [(.ref r145), (.ref r134), (.ref b172), (.ref b172)]) t → own_S p e below T172 (mkF m 175 (own_AIIIIIIIIIIIIIIIIIRRRRUUUU p0 p1 p2 p3 p4 v8 v16 v27 v37 v45 v56 v66 v77 v91 v101 v112 v126 r134 r145 r156 r167) [(.ref b172)]) t := by
    intro t k
    show own_S p e below T172 (mkF m 175 (own_AIIIIIIIIIIIIIIIIIRRRRUUUU p0 p1 p2 p3 p4 v8 v16 v27 v37 v45 v56 v66 v77 v91 v101 v112 v126 r134 r145 r156 r167) [(.ref b172)]) _
    refine XS.dup X172.here hx rfl (hb hby at_175) rfl rfl ?_
    show own_S p e below T172 (mkF m 176 (own_AIIIIIIIIIIIIIIIIIRRRRUUUU p0 p1 p2 p3 p4 v8 v16 v27 v37 v45 v56 v66 v77 v91 v101 v112 v126 r134 r145 r156 r167) [(.ref b172), (.ref b172)]) _
    refine XS.aload X172.here hx rfl (hb hby at_176) rfl rfl ?_
    show own_S p e below T172 (mkF m 178 (own_AIIIIIIIIIIIIIIIIIRRRRUUUU p0 p1 p2 p3 p4 v8 v16 v27 v37 v45 v56 v66 v77 v91 v101 v112 v126 r134 r145 r156 r167) [(.ref r134), (.ref b172), (.ref b172)]) _
    refine XS.aload X172.here hx rfl (hb hby at_178) rfl rfl ?_
    exact k
  refine own_by sg180 ?_
  obtain ⟨_, _, ⟨T180, L180, k180, n180⟩, -, Xc180, hSc180, hgc180, ⟨Lc180, hQ180, l180, y180, z180, hC180⟩, st180⟩ := X172.specialBackS hx (y := (⟨"com/example/forget_by_time/forgetbytime/engine/TableName", "<init>", "(Ljava/lang/String;Ljava/lang/String;)V"⟩ : MethodName)) rfl hown167 (mvT hZ167 (hw _ (List.mem_of_getElem? (i := 29) rfl))) (mvT hZ167 (hw _ (List.mem_of_getElem? (i := 30) rfl))) (mvT hZ167 (hw _ (List.mem_of_getElem? (i := 31) rfl))) (by decide) (backOfSH (W := 1) (rm5 l Z a0 hw [] b172 r134 r145 h172 n0 Z172 A172 F_schema_b172 F_name_b172 g_b172 ((((Sq134.exa.keep Kq145).keep Kq156).keep Kq167).ext E172) (((Sq145.exa.keep Kq156).keep Kq167).ext E172)) hZ167 (hw _ (List.mem_of_getElem? (i := 31) rfl)) (hw _ (List.mem_of_getElem? (i := 28) rfl)) (by decide) (by decide) hEL CC172.1) (g := (mkF m 180 (own_AIIIIIIIIIIIIIIIIIRRRRUUUU p0 p1 p2 p3 p4 v8 v16 v27 v37 v45 v56 v66 v77 v91 v101 v112 v126 r134 r145 r156 r167) [(.ref r145), (.ref r134), (.ref b172), (.ref b172)])) rfl (by rw [hml]; rfl) (Steps.refl _) (a := b172) (argsL := [(.ref r134), (.ref r145)]) (rest := [(.ref b172)]) (lenOf pd_0_1 rfl) rfl (by show 2 * 0 + _ ≤ _; exact Nat.le_of_eq rfl) (hb hby at_180) (fun _ _ => ⟨rfl, e172, (by decide : 25 + 4 ≤ _), (by decide : 50 + 48 ≤ _)⟩)
  dsimp only [Pt.U, Pt.locs, Pt.cells, Pt.slots] at Xc180 hSc180 hgc180
  obtain ⟨X180, hS180, hZ180, hown180⟩ := rebS hS167 (by rw [e172]; exact (Nat.le_trans (Nat.le_refl _) E172.1)) Xc180 hSc180 hgc180 hZ167 hown167
  dsimp only [Pt.U, Pt.locs, Pt.cells, Pt.slots] at X180 l180 y180 z180 st180 hQ180
  subst l180 y180 z180
  obtain ⟨rfl, N180q, Kq180, Eq180, Fschema_180, Fname_180⟩ := hQ180
  have N180 := Fr.app N167 N180q
  have fc_2 := ((fc.ext E172).keepX Kq180 A172 (by decide) (hw _ (List.mem_of_getElem? (i := 27) rfl)))
  have fc_3 := (((((Sq134.exa.keep Kq145).keep Kq156).keep Kq167).ext E172).keep Kq180)
  have fc_4 := ((((Sq145.ext (own_kx Kq156)).ext (own_kx Kq167)).ext E172).keepX Kq180 A172 (by decide) (hw _ (List.mem_of_getElem? (i := 27) rfl)))
  have fc_5 := (((Sq156.ext (own_kx Kq167)).ext E172).keepX Kq180 A172 (by decide) (hw _ (List.mem_of_getElem? (i := 27) rfl)))
  have fc_6 := ((Sq167.ext E172).keepX Kq180 A172 (by decide) (hw _ (List.mem_of_getElem? (i := 27) rfl)))
  have K180 : Keep h0 T180.heap [] := K172.trans Kq180 (fun x hx => by cases List.mem_singleton.mp hx; exact Or.inr sz_b172)
  have Z180 : n0 ≤ T180.heap.size := Nat.le_trans Z172 Kq180.1
  have CR180 := CR172.trans hC180
  refine own_by (fun t k => st180.trans k) ?_
  obtain ⟨v189, hv189⟩ : ∃ z : Int32, z = (p4 &&& (3 : Int32)) := ⟨_, rfl⟩
  have sg189 : ∀ t, own_S p e below T180 (mkF m 189 (own_AIIIIIIIIIIIIIIIIIRRRRRUUU p0 p1 p2 p3 p4 v8 v16 v27 v37 v45 v56 v66 v77 v91 v101 v112 v126 r134 r145 r156 r167 b172) [(.int v189)]) t → own_S p e below T180 (mkF m 183 (own_AIIIIIIIIIIIIIIIIIRRRRUUUU p0 p1 p2 p3 p4 v8 v16 v27 v37 v45 v56 v66 v77 v91 v101 v112 v126 r134 r145 r156 r167) [(.ref b172)]) t := by
    intro t k
    rw [hv189] at k
    show own_S p e below T180 (mkF m 183 (own_AIIIIIIIIIIIIIIIIIRRRRUUUU p0 p1 p2 p3 p4 v8 v16 v27 v37 v45 v56 v66 v77 v91 v101 v112 v126 r134 r145 r156 r167) [(.ref b172)]) _
    refine XS.astore X180.here hx rfl (hb hby at_183) rfl rfl (l' := (own_AIIIIIIIIIIIIIIIIIRRRRRUUU p0 p1 p2 p3 p4 v8 v16 v27 v37 v45 v56 v66 v77 v91 v101 v112 v126 r134 r145 r156 r167 b172)) rfl ?_
    show own_S p e below T180 (mkF m 185 (own_AIIIIIIIIIIIIIIIIIRRRRRUUU p0 p1 p2 p3 p4 v8 v16 v27 v37 v45 v56 v66 v77 v91 v101 v112 v126 r134 r145 r156 r167 b172) []) _
    refine XS.iload X180.here hx rfl (hb hby at_185) rfl ?_
    show own_S p e below T180 (mkF m 187 (own_AIIIIIIIIIIIIIIIIIRRRRRUUU p0 p1 p2 p3 p4 v8 v16 v27 v37 v45 v56 v66 v77 v91 v101 v112 v126 r134 r145 r156 r167 b172) [(.int p4)]) _
    refine XS.iconst X180.here hx rfl (hb hby at_187) ?_
    show own_S p e below T180 (mkF m 188 (own_AIIIIIIIIIIIIIIIIIRRRRRUUU p0 p1 p2 p3 p4 v8 v16 v27 v37 v45 v56 v66 v77 v91 v101 v112 v126 r134 r145 r156 r167 b172) [(.int (3 : Int32)), (.int p4)]) _
    refine XS.iand X180.here hx rfl (hb hby at_188) rfl ?_
    exact k
  refine own_by sg189 ?_
  have sg193 : ∀ t, own_S p e below T180 (mkF m 193 (own_AIIIIIIIIIIIIIIIIIRRRRRIUU p0 p1 p2 p3 p4 v8 v16 v27 v37 v45 v56 v66 v77 v91 v101 v112 v126 r134 r145 r156 r167 b172 v189) [(.int v189)]) t → own_S p e below T180 (mkF m 189 (own_AIIIIIIIIIIIIIIIIIRRRRRUUU p0 p1 p2 p3 p4 v8 v16 v27 v37 v45 v56 v66 v77 v91 v101 v112 v126 r134 r145 r156 r167 b172) [(.int v189)]) t := by
    intro t k
    show own_S p e below T180 (mkF m 189 (own_AIIIIIIIIIIIIIIIIIRRRRRUUU p0 p1 p2 p3 p4 v8 v16 v27 v37 v45 v56 v66 v77 v91 v101 v112 v126 r134 r145 r156 r167 b172) [(.int v189)]) _
    refine XS.istore X180.here hx rfl (hb hby at_189) rfl (l' := (own_AIIIIIIIIIIIIIIIIIRRRRRIUU p0 p1 p2 p3 p4 v8 v16 v27 v37 v45 v56 v66 v77 v91 v101 v112 v126 r134 r145 r156 r167 b172 v189)) rfl ?_
    show own_S p e below T180 (mkF m 191 (own_AIIIIIIIIIIIIIIIIIRRRRRIUU p0 p1 p2 p3 p4 v8 v16 v27 v37 v45 v56 v66 v77 v91 v101 v112 v126 r134 r145 r156 r167 b172 v189) []) _
    refine XS.iload X180.here hx rfl (hb hby at_191) rfl ?_
    exact k
  refine own_by sg193 ?_
  by_cases hc193 : v189 = (0 : Int32)
  · have sg196 : ∀ t, own_S p e below T180 (mkF m 196 (own_AIIIIIIIIIIIIIIIIIRRRRRIUU p0 p1 p2 p3 p4 v8 v16 v27 v37 v45 v56 v66 v77 v91 v101 v112 v126 r134 r145 r156 r167 b172 v189) []) t → own_S p e below T180 (mkF m 193 (own_AIIIIIIIIIIIIIIIIIRRRRRIUU p0 p1 p2 p3 p4 v8 v16 v27 v37 v45 v56 v66 v77 v91 v101 v112 v126 r134 r145 r156 r167 b172 v189) [(.int v189)]) t := by
      intro t k
      show own_S p e below T180 (mkF m 193 (own_AIIIIIIIIIIIIIIIIIRRRRRIUU p0 p1 p2 p3 p4 v8 v16 v27 v37 v45 v56 v66 v77 v91 v101 v112 v126 r134 r145 r156 r167 b172 v189) [(.int v189)]) _
      refine XS.ifNo X180.here hx rfl (hb hby at_193) rfl ((if0 _ _).trans (teq hc193).2) ?_
      exact k
    refine own_by sg196 ?_
    obtain ⟨T196, h196, X196, e196, E196, A196, D196, -, st196⟩ := newO X180 hx hZ180 hown180 (hw _ (List.mem_of_getElem? (i := 26) rfl)) (hw _ (List.mem_of_getElem? (i := 27) rfl)) (hw _ (List.mem_of_getElem? (i := 28) rfl)) rfl (g := (mkF m 196 (own_AIIIIIIIIIIIIIIIIIRRRRRIUU p0 p1 p2 p3 p4 v8 v16 v27 v37 v45 v56 v66 v77 v91 v101 v112 v126 r134 r145 r156 r167 b172 v189) [])) rfl (hb hby at_196) (by decide) (by decide)
    obtain ⟨b196, g196⟩ : ∃ z, z = T180.heap.size := ⟨_, rfl⟩
    rw [← g196] at A196 D196 st196
    have ne_r134_b196 : r134 ≠ b196 := Nat.ne_of_lt (Nat.lt_of_lt_of_le fc_2.lt (Nat.le_of_eq g196.symm))
    have ne_r145_b196 : r145 ≠ b196 := Nat.ne_of_lt (Nat.lt_of_lt_of_le fc_4.lt (Nat.le_of_eq g196.symm))
    have ne_r156_b196 : r156 ≠ b196 := Nat.ne_of_lt (Nat.lt_of_lt_of_le fc_5.lt (Nat.le_of_eq g196.symm))
    have ne_r167_b196 : r167 ≠ b196 := Nat.ne_of_lt (Nat.lt_of_lt_of_le fc_6.lt (Nat.le_of_eq g196.symm))
    have ne_b172_b196 : b172 ≠ b196 := Nat.ne_of_lt (Nat.lt_of_lt_of_le Eq180.lt (Nat.le_of_eq g196.symm))
    have g_b196 : n0 ≤ b196 := Nat.le_trans Z180 (Nat.le_of_eq g196.symm)
    have sz_b196 : h0.size ≤ b196 := Nat.le_trans K180.1 (Nat.le_of_eq g196.symm)
    have fc_7 := (((((Sq145.exa.keep Kq156).keep Kq167).ext E172).keep Kq180).ext E196)
    have K196 := K180.ext E196
    have Z196 : n0 ≤ h196.size := Nat.le_trans Z180 E196.1
    have CC196 := CHr.ext E196 hC180.1
    have CR196 := CR180.trans CC196
    have F_schema_b196 : Fld Z h196 b196 "com/example/forget_by_time/forgetbytime/engine/TableName" "schema" "Ljava/lang/String;" .null := D196 (Or.inr (hw _ (List.mem_of_getElem? (i := 40) rfl))) (ty := (.object "java/lang/String")) (by decide)
    have F_name_b196 : Fld Z h196 b196 "com/example/forget_by_time/forgetbytime/engine/TableName" "name" "Ljava/lang/String;" .null := D196 (Or.inr (hw _ (List.mem_of_getElem? (i := 43) rfl))) (ty := (.object "java/lang/String")) (by decide)
    refine own_by st196 ?_
    have sg204 : ∀ t, own_S p e below T196 (mkF m 204 (own_AIIIIIIIIIIIIIIIIIRRRRRIUU p0 p1 p2 p3 p4 v8 v16 v27 v37 v45 v56 v66 v77 v91 v101 v112 v126 r134 r145 r156 r167 b172 v189) [(.ref r167), (.ref r156), (.ref b196), (.ref b196)]) t → own_S p e below T196 (mkF m 199 (own_AIIIIIIIIIIIIIIIIIRRRRRIUU p0 p1 p2 p3 p4 v8 v16 v27 v37 v45 v56 v66 v77 v91 v101 v112 v126 r134 r145 r156 r167 b172 v189) [(.ref b196)]) t := by
      intro t k
      show own_S p e below T196 (mkF m 199 (own_AIIIIIIIIIIIIIIIIIRRRRRIUU p0 p1 p2 p3 p4 v8 v16 v27 v37 v45 v56 v66 v77 v91 v101 v112 v126 r134 r145 r156 r167 b172 v189) [(.ref b196)]) _
      refine XS.dup X196.here hx rfl (hb hby at_199) rfl rfl ?_
      show own_S p e below T196 (mkF m 200 (own_AIIIIIIIIIIIIIIIIIRRRRRIUU p0 p1 p2 p3 p4 v8 v16 v27 v37 v45 v56 v66 v77 v91 v101 v112 v126 r134 r145 r156 r167 b172 v189) [(.ref b196), (.ref b196)]) _
      refine XS.aload X196.here hx rfl (hb hby at_200) rfl rfl ?_
      show own_S p e below T196 (mkF m 202 (own_AIIIIIIIIIIIIIIIIIRRRRRIUU p0 p1 p2 p3 p4 v8 v16 v27 v37 v45 v56 v66 v77 v91 v101 v112 v126 r134 r145 r156 r167 b172 v189) [(.ref r156), (.ref b196), (.ref b196)]) _
      refine XS.aload X196.here hx rfl (hb hby at_202) rfl rfl ?_
      exact k
    refine own_by sg204 ?_
    obtain ⟨_, _, ⟨T204, L204, k204, n204⟩, -, Xc204, hSc204, hgc204, ⟨Lc204, hQ204, l204, y204, z204, hC204⟩, st204⟩ := X196.specialBackS hx (y := (⟨"com/example/forget_by_time/forgetbytime/engine/TableName", "<init>", "(Ljava/lang/String;Ljava/lang/String;)V"⟩ : MethodName)) rfl hown180 (mvT hZ180 (hw _ (List.mem_of_getElem? (i := 29) rfl))) (mvT hZ180 (hw _ (List.mem_of_getElem? (i := 30) rfl))) (mvT hZ180 (hw _ (List.mem_of_getElem? (i := 31) rfl))) (by decide) (backOfSH (W := 1) (rm5 l Z a0 hw [] b196 r156 r167 h196 n0 Z196 A196 F_schema_b196 F_name_b196 g_b196 ((((Sq156.exa.keep Kq167).ext E172).keep Kq180).ext E196) (((Sq167.exa.ext E172).keep Kq180).ext E196)) hZ180 (hw _ (List.mem_of_getElem? (i := 31) rfl)) (hw _ (List.mem_of_getElem? (i := 28) rfl)) (by decide) (by decide) hEL CC196.1) (g := (mkF m 204 (own_AIIIIIIIIIIIIIIIIIRRRRRIUU p0 p1 p2 p3 p4 v8 v16 v27 v37 v45 v56 v66 v77 v91 v101 v112 v126 r134 r145 r156 r167 b172 v189) [(.ref r167), (.ref r156), (.ref b196), (.ref b196)])) rfl (by rw [hml]; rfl) (Steps.refl _) (a := b196) (argsL := [(.ref r156), (.ref r167)]) (rest := [(.ref b196)]) (lenOf pd_0_1 rfl) rfl (by show 2 * 0 + _ ≤ _; exact Nat.le_of_eq rfl) (hb hby at_204) (fun _ _ => ⟨rfl, e196, (by decide : 30 + 4 ≤ _), (by decide : 100 + 48 ≤ _)⟩)
    dsimp only [Pt.U, Pt.locs, Pt.cells, Pt.slots] at Xc204 hSc204 hgc204
    obtain ⟨X204, hS204, hZ204, hown204⟩ := rebS hS180 (by rw [e196]; exact (Nat.le_trans (Nat.le_refl _) E196.1)) Xc204 hSc204 hgc204 hZ180 hown180
    dsimp only [Pt.U, Pt.locs, Pt.cells, Pt.slots] at X204 l204 y204 z204 st204 hQ204
    subst l204 y204 z204
    obtain ⟨rfl, N204q, Kq204, Eq204, Fschema_204, Fname_204⟩ := hQ204
    have N204 := Fr.app N180 N204q
    have fc_8 := ((fc_2.ext E196).keepX Kq204 A196 (by decide) (hw _ (List.mem_of_getElem? (i := 27) rfl)))
    have fc_9 := ((fc_4.ext E196).keepX Kq204 A196 (by decide) (hw _ (List.mem_of_getElem? (i := 27) rfl)))
    have fc_10 := ((fc_5.ext E196).keepX Kq204 A196 (by decide) (hw _ (List.mem_of_getElem? (i := 27) rfl)))
    have fc_11 := (((((Sq156.exa.keep Kq167).ext E172).keep Kq180).ext E196).keep Kq204)
    have fc_12 := ((fc_6.ext E196).keepX Kq204 A196 (by decide) (hw _ (List.mem_of_getElem? (i := 27) rfl)))
    have fc_13 := ((Fschema_180.ext E196).keep Kq204 (fun h => ne_b172_b196 (List.mem_singleton.mp h)))
    have fc_14 := ((Fname_180.ext E196).keep Kq204 (fun h => ne_b172_b196 (List.mem_singleton.mp h)))
    have K204 : Keep h0 T204.heap [] := K196.trans Kq204 (fun x hx => by cases List.mem_singleton.mp hx; exact Or.inr sz_b196)
    have Z204 : n0 ≤ T204.heap.size := Nat.le_trans Z196 Kq204.1
    have CR204 := CR196.trans hC204
    refine own_by (fun t k => st204.trans k) ?_
    have sg209 : ∀ t, own_S p e below T204 (mkF m 209 (own_AIIIIIIIIIIIIIIIIIRRRRRIRU p0 p1 p2 p3 p4 v8 v16 v27 v37 v45 v56 v66 v77 v91 v101 v112 v126 r134 r145 r156 r167 b172 v189 b196) []) t → own_S p e below T204 (mkF m 207 (own_AIIIIIIIIIIIIIIIIIRRRRRIUU p0 p1 p2 p3 p4 v8 v16 v27 v37 v45 v56 v66 v77 v91 v101 v112 v126 r134 r145 r156 r167 b172 v189) [(.ref b196)]) t := by
      intro t k
      show own_S p e below T204 (mkF m 207 (own_AIIIIIIIIIIIIIIIIIRRRRRIUU p0 p1 p2 p3 p4 v8 v16 v27 v37 v45 v56 v66 v77 v91 v101 v112 v126 r134 r145 r156 r167 b172 v189) [(.ref b196)]) _
      refine XS.astore X204.here hx rfl (hb hby at_207) rfl rfl (l' := (own_AIIIIIIIIIIIIIIIIIRRRRRIRU p0 p1 p2 p3 p4 v8 v16 v27 v37 v45 v56 v66 v77 v91 v101 v112 v126 r134 r145 r156 r167 b172 v189 b196)) rfl ?_
      exact k
    refine own_by sg209 ?_
    obtain ⟨r209_s0, hr209_s0⟩ : ∃ z : Int32, z = (if (own_same v8 v16 v27 v66 v77 v91) = (0 : Int32) then (0 : Int32) else (if (own_same v37 v45 v56 v101 v112 v126) = (0 : Int32) then (0 : Int32) else (1 : Int32))) := ⟨_, rfl⟩
    obtain ⟨Tr209, Lr209, Xr209, Nr209, er209, str209⟩ : ∃ T' L', Stand p l e room_1 (s.setVm T204.vm) m #[(.int p0), (.int p1), (.int p2), (.int p3), (.int p4)] below meth c T' L' 34 148 ∧ Fr n0 L' ∧ T'.heap = T204.heap ∧ ∀ t, own_S p e below T' (mkF m 250 (own_AIIIIIIIIIIIIIIIIIRRRRRIRU p0 p1 p2 p3 p4 v8 v16 v27 v37 v45 v56 v66 v77 v91 v101 v112 v126 r134 r145 r156 r167 b172 v189 b196) [(.int r209_s0)]) t → own_S p e below T204 (mkF m 209 (own_AIIIIIIIIIIIIIIIIIRRRRRIRU p0 p1 p2 p3 p4 v8 v16 v27 v37 v45 v56 v66 v77 v91 v101 v112 v126 r134 r145 r156 r167 b172 v189 b196) []) t := by
      have sg221 : ∀ t, own_S p e below T204 (mkF m 221 (own_AIIIIIIIIIIIIIIIIIRRRRRIRU p0 p1 p2 p3 p4 v8 v16 v27 v37 v45 v56 v66 v77 v91 v101 v112 v126 r134 r145 r156 r167 b172 v189 b196) [(.int v91), (.int v77), (.int v66), (.int v27), (.int v16), (.int v8)]) t → own_S p e below T204 (mkF m 209 (own_AIIIIIIIIIIIIIIIIIRRRRRIRU p0 p1 p2 p3 p4 v8 v16 v27 v37 v45 v56 v66 v77 v91 v101 v112 v126 r134 r145 r156 r167 b172 v189 b196) []) t := by
        intro t k
        show own_S p e below T204 (mkF m 209 (own_AIIIIIIIIIIIIIIIIIRRRRRIRU p0 p1 p2 p3 p4 v8 v16 v27 v37 v45 v56 v66 v77 v91 v101 v112 v126 r134 r145 r156 r167 b172 v189 b196) []) _
        refine XS.iload X204.here hx rfl (hb hby at_209) rfl ?_
        show own_S p e below T204 (mkF m 211 (own_AIIIIIIIIIIIIIIIIIRRRRRIRU p0 p1 p2 p3 p4 v8 v16 v27 v37 v45 v56 v66 v77 v91 v101 v112 v126 r134 r145 r156 r167 b172 v189 b196) [(.int v8)]) _
        refine XS.iload X204.here hx rfl (hb hby at_211) rfl ?_
        show own_S p e below T204 (mkF m 213 (own_AIIIIIIIIIIIIIIIIIRRRRRIRU p0 p1 p2 p3 p4 v8 v16 v27 v37 v45 v56 v66 v77 v91 v101 v112 v126 r134 r145 r156 r167 b172 v189 b196) [(.int v16), (.int v8)]) _
        refine XS.iload X204.here hx rfl (hb hby at_213) rfl ?_
        show own_S p e below T204 (mkF m 215 (own_AIIIIIIIIIIIIIIIIIRRRRRIRU p0 p1 p2 p3 p4 v8 v16 v27 v37 v45 v56 v66 v77 v91 v101 v112 v126 r134 r145 r156 r167 b172 v189 b196) [(.int v27), (.int v16), (.int v8)]) _
        refine XS.iload X204.here hx rfl (hb hby at_215) rfl ?_
        show own_S p e below T204 (mkF m 217 (own_AIIIIIIIIIIIIIIIIIRRRRRIRU p0 p1 p2 p3 p4 v8 v16 v27 v37 v45 v56 v66 v77 v91 v101 v112 v126 r134 r145 r156 r167 b172 v189 b196) [(.int v66), (.int v27), (.int v16), (.int v8)]) _
        refine XS.iload X204.here hx rfl (hb hby at_217) rfl ?_
        show own_S p e below T204 (mkF m 219 (own_AIIIIIIIIIIIIIIIIIRRRRRIRU p0 p1 p2 p3 p4 v8 v16 v27 v37 v45 v56 v66 v77 v91 v101 v112 v126 r134 r145 r156 r167 b172 v189 b196) [(.int v77), (.int v66), (.int v27), (.int v16), (.int v8)]) _
        refine XS.iload X204.here hx rfl (hb hby at_219) rfl ?_
        exact k
      obtain ⟨_, _, ⟨T221, L221, k221, n221⟩, -, X221, ⟨Lc221, hQ221, l221, y221, z221⟩, st221⟩ := Jvm.LawKit.callS X204 hx (y := (⟨"com/example/forget_by_time/forgetbytime/engine/TableNameEqualsPinLaw", "same", "(ICCICC)Z"⟩ : MethodName)) hown204 (mvT hZ204 (hw _ (List.mem_of_getElem? (i := 44) rfl))) (mvT hZ204 (hw _ (List.mem_of_getElem? (i := 45) rfl))) (mvT hZ204 (hw _ (List.mem_of_getElem? (i := 2) rfl))) (mvT hZ204 (hw _ (List.mem_of_getElem? (i := 46) rfl))) (by decide) (backOf (W := 0) (rm7 l Z a0 hw [] v8 v16 v27 v66 v77 v91 T204.heap n0 Z204) hZ204 (hw _ (List.mem_of_getElem? (i := 46) rfl)) (hw _ (List.mem_of_getElem? (i := 2) rfl)) (by decide) (by decide)) (g := (mkF m 221 (own_AIIIIIIIIIIIIIIIIIRRRRRIRU p0 p1 p2 p3 p4 v8 v16 v27 v37 v45 v56 v66 v77 v91 v101 v112 v126 r134 r145 r156 r167 b172 v189 b196) [(.int v91), (.int v77), (.int v66), (.int v27), (.int v16), (.int v8)])) rfl (by rw [hml]; rfl) (argsL := [(.int v8), (.int v16), (.int v27), (.int v66), (.int v77), (.int v91)]) (rest := []) (lenOf pd_0_2 rfl) rfl (by show 2 * 0 + _ ≤ _; exact Nat.le_of_eq rfl) (hb hby at_221) (fun _ _ => ⟨rfl, rfl, (by decide : 34 + 0 ≤ _), (by decide : 148 + 0 ≤ _)⟩)
      dsimp only [Pt.U, Pt.locs, Pt.cells, Pt.slots] at X221 l221 y221 z221 st221 hQ221
      subst l221 y221 z221
      obtain ⟨rfl, N221q, hq221⟩ := hQ221
      have N221 := Fr.app N204 N221q
      by_cases hc224 : (own_same v8 v16 v27 v66 v77 v91) = (0 : Int32)
      · rw [if_pos hc224] at hr209_s0
        have sg250 : ∀ t, own_S p e below T221 (mkF m 250 (own_AIIIIIIIIIIIIIIIIIRRRRRIRU p0 p1 p2 p3 p4 v8 v16 v27 v37 v45 v56 v66 v77 v91 v101 v112 v126 r134 r145 r156 r167 b172 v189 b196) [(.int (0 : Int32))]) t → own_S p e below T221 (mkF m 224 (own_AIIIIIIIIIIIIIIIIIRRRRRIRU p0 p1 p2 p3 p4 v8 v16 v27 v37 v45 v56 v66 v77 v91 v101 v112 v126 r134 r145 r156 r167 b172 v189 b196) [(.int (own_same v8 v16 v27 v66 v77 v91))]) t := by
          intro t k
          show own_S p e below T221 (mkF m 224 (own_AIIIIIIIIIIIIIIIIIRRRRRIRU p0 p1 p2 p3 p4 v8 v16 v27 v37 v45 v56 v66 v77 v91 v101 v112 v126 r134 r145 r156 r167 b172 v189 b196) [(.int (own_same v8 v16 v27 v66 v77 v91))]) _
          refine XS.ifYes X221.here hx rfl (pc0 := 224) (pc' := 249) rfl (hb hby at_224) rfl ((if0 _ _).trans (teq hc224).1) (by decide) (by decide) ?_
          show own_S p e below T221 (mkF m 249 (own_AIIIIIIIIIIIIIIIIIRRRRRIRU p0 p1 p2 p3 p4 v8 v16 v27 v37 v45 v56 v66 v77 v91 v101 v112 v126 r134 r145 r156 r167 b172 v189 b196) []) _
          refine XS.iconst X221.here hx rfl (hb hby at_249) ?_
          exact k
        rw [hr209_s0]
        exact ⟨T221, _, X221, N221, hq221, fun t k => (sg221 t (st221 t (sg250 t k)))⟩
      · rw [if_neg hc224] at hr209_s0
        have sg239 : ∀ t, own_S p e below T221 (mkF m 239 (own_AIIIIIIIIIIIIIIIIIRRRRRIRU p0 p1 p2 p3 p4 v8 v16 v27 v37 v45 v56 v66 v77 v91 v101 v112 v126 r134 r145 r156 r167 b172 v189 b196) [(.int v126), (.int v112), (.int v101), (.int v56), (.int v45), (.int v37)]) t → own_S p e below T221 (mkF m 224 (own_AIIIIIIIIIIIIIIIIIRRRRRIRU p0 p1 p2 p3 p4 v8 v16 v27 v37 v45 v56 v66 v77 v91 v101 v112 v126 r134 r145 r156 r167 b172 v189 b196) [(.int (own_same v8 v16 v27 v66 v77 v91))]) t := by
          intro t k
          show own_S p e below T221 (mkF m 224 (own_AIIIIIIIIIIIIIIIIIRRRRRIRU p0 p1 p2 p3 p4 v8 v16 v27 v37 v45 v56 v66 v77 v91 v101 v112 v126 r134 r145 r156 r167 b172 v189 b196) [(.int (own_same v8 v16 v27 v66 v77 v91))]) _
          refine XS.ifNo X221.here hx rfl (hb hby at_224) rfl ((if0 _ _).trans (feq hc224).1) ?_
          show own_S p e below T221 (mkF m 227 (own_AIIIIIIIIIIIIIIIIIRRRRRIRU p0 p1 p2 p3 p4 v8 v16 v27 v37 v45 v56 v66 v77 v91 v101 v112 v126 r134 r145 r156 r167 b172 v189 b196) []) _
          refine XS.iload X221.here hx rfl (hb hby at_227) rfl ?_
          show own_S p e below T221 (mkF m 229 (own_AIIIIIIIIIIIIIIIIIRRRRRIRU p0 p1 p2 p3 p4 v8 v16 v27 v37 v45 v56 v66 v77 v91 v101 v112 v126 r134 r145 r156 r167 b172 v189 b196) [(.int v37)]) _
          refine XS.iload X221.here hx rfl (hb hby at_229) rfl ?_
          show own_S p e below T221 (mkF m 231 (own_AIIIIIIIIIIIIIIIIIRRRRRIRU p0 p1 p2 p3 p4 v8 v16 v27 v37 v45 v56 v66 v77 v91 v101 v112 v126 r134 r145 r156 r167 b172 v189 b196) [(.int v45), (.int v37)]) _
          refine XS.iload X221.here hx rfl (hb hby at_231) rfl ?_
          show own_S p e below T221 (mkF m 233 (own_AIIIIIIIIIIIIIIIIIRRRRRIRU p0 p1 p2 p3 p4 v8 v16 v27 v37 v45 v56 v66 v77 v91 v101 v112 v126 r134 r145 r156 r167 b172 v189 b196) [(.int v56), (.int v45), (.int v37)]) _
          refine XS.iload X221.here hx rfl (hb hby at_233) rfl ?_
          show own_S p e below T221 (mkF m 235 (own_AIIIIIIIIIIIIIIIIIRRRRRIRU p0 p1 p2 p3 p4 v8 v16 v27 v37 v45 v56 v66 v77 v91 v101 v112 v126 r134 r145 r156 r167 b172 v189 b196) [(.int v101), (.int v56), (.int v45), (.int v37)]) _
          refine XS.iload X221.here hx rfl (hb hby at_235) rfl ?_
          show own_S p e below T221 (mkF m 237 (own_AIIIIIIIIIIIIIIIIIRRRRRIRU p0 p1 p2 p3 p4 v8 v16 v27 v37 v45 v56 v66 v77 v91 v101 v112 v126 r134 r145 r156 r167 b172 v189 b196) [(.int v112), (.int v101), (.int v56), (.int v45), (.int v37)]) _
          refine XS.iload X221.here hx rfl (hb hby at_237) rfl ?_
          exact k
        obtain ⟨_, _, ⟨T239, L239, k239, n239⟩, -, X239, ⟨Lc239, hQ239, l239, y239, z239⟩, st239⟩ := Jvm.LawKit.callS X221 hx (y := (⟨"com/example/forget_by_time/forgetbytime/engine/TableNameEqualsPinLaw", "same", "(ICCICC)Z"⟩ : MethodName)) hown204 (mvT hZ204 (hw _ (List.mem_of_getElem? (i := 44) rfl))) (mvT hZ204 (hw _ (List.mem_of_getElem? (i := 45) rfl))) (mvT hZ204 (hw _ (List.mem_of_getElem? (i := 2) rfl))) (mvT hZ204 (hw _ (List.mem_of_getElem? (i := 46) rfl))) (by decide) (backOf (W := 0) (rm7 l Z a0 hw [] v37 v45 v56 v101 v112 v126 T204.heap n0 Z204) hZ204 (hw _ (List.mem_of_getElem? (i := 46) rfl)) (hw _ (List.mem_of_getElem? (i := 2) rfl)) (by decide) (by decide)) (g := (mkF m 239 (own_AIIIIIIIIIIIIIIIIIRRRRRIRU p0 p1 p2 p3 p4 v8 v16 v27 v37 v45 v56 v66 v77 v91 v101 v112 v126 r134 r145 r156 r167 b172 v189 b196) [(.int v126), (.int v112), (.int v101), (.int v56), (.int v45), (.int v37)])) rfl (by rw [hml]; rfl) (argsL := [(.int v37), (.int v45), (.int v56), (.int v101), (.int v112), (.int v126)]) (rest := []) (lenOf pd_0_2 rfl) rfl (by show 2 * 0 + _ ≤ _; exact Nat.le_of_eq rfl) (hb hby at_239) (fun _ _ => ⟨rfl, hq221, (by decide : 34 + 0 ≤ _), (by decide : 148 + 0 ≤ _)⟩)
        dsimp only [Pt.U, Pt.locs, Pt.cells, Pt.slots] at X239 l239 y239 z239 st239 hQ239
        subst l239 y239 z239
        obtain ⟨rfl, N239q, hq239⟩ := hQ239
        have N239 := Fr.app N221 N239q
        by_cases hc242 : (own_same v37 v45 v56 v101 v112 v126) = (0 : Int32)
        · rw [if_pos hc242] at hr209_s0
          have sg250 : ∀ t, own_S p e below T239 (mkF m 250 (own_AIIIIIIIIIIIIIIIIIRRRRRIRU p0 p1 p2 p3 p4 v8 v16 v27 v37 v45 v56 v66 v77 v91 v101 v112 v126 r134 r145 r156 r167 b172 v189 b196) [(.int (0 : Int32))]) t → own_S p e below T239 (mkF m 242 (own_AIIIIIIIIIIIIIIIIIRRRRRIRU p0 p1 p2 p3 p4 v8 v16 v27 v37 v45 v56 v66 v77 v91 v101 v112 v126 r134 r145 r156 r167 b172 v189 b196) [(.int (own_same v37 v45 v56 v101 v112 v126))]) t := by
            intro t k
            show own_S p e below T239 (mkF m 242 (own_AIIIIIIIIIIIIIIIIIRRRRRIRU p0 p1 p2 p3 p4 v8 v16 v27 v37 v45 v56 v66 v77 v91 v101 v112 v126 r134 r145 r156 r167 b172 v189 b196) [(.int (own_same v37 v45 v56 v101 v112 v126))]) _
            refine XS.ifYes X239.here hx rfl (pc0 := 242) (pc' := 249) rfl (hb hby at_242) rfl ((if0 _ _).trans (teq hc242).1) (by decide) (by decide) ?_
            show own_S p e below T239 (mkF m 249 (own_AIIIIIIIIIIIIIIIIIRRRRRIRU p0 p1 p2 p3 p4 v8 v16 v27 v37 v45 v56 v66 v77 v91 v101 v112 v126 r134 r145 r156 r167 b172 v189 b196) []) _
            refine XS.iconst X239.here hx rfl (hb hby at_249) ?_
            exact k
          rw [hr209_s0]
          exact ⟨T239, _, X239, N239, hq239, fun t k => (sg221 t (st221 t (sg239 t (st239 t (sg250 t k)))))⟩
        · rw [if_neg hc242] at hr209_s0
          have sg250 : ∀ t, own_S p e below T239 (mkF m 250 (own_AIIIIIIIIIIIIIIIIIRRRRRIRU p0 p1 p2 p3 p4 v8 v16 v27 v37 v45 v56 v66 v77 v91 v101 v112 v126 r134 r145 r156 r167 b172 v189 b196) [(.int (1 : Int32))]) t → own_S p e below T239 (mkF m 242 (own_AIIIIIIIIIIIIIIIIIRRRRRIRU p0 p1 p2 p3 p4 v8 v16 v27 v37 v45 v56 v66 v77 v91 v101 v112 v126 r134 r145 r156 r167 b172 v189 b196) [(.int (own_same v37 v45 v56 v101 v112 v126))]) t := by
            intro t k
            show own_S p e below T239 (mkF m 242 (own_AIIIIIIIIIIIIIIIIIRRRRRIRU p0 p1 p2 p3 p4 v8 v16 v27 v37 v45 v56 v66 v77 v91 v101 v112 v126 r134 r145 r156 r167 b172 v189 b196) [(.int (own_same v37 v45 v56 v101 v112 v126))]) _
            refine XS.ifNo X239.here hx rfl (hb hby at_242) rfl ((if0 _ _).trans (feq hc242).1) ?_
            show own_S p e below T239 (mkF m 245 (own_AIIIIIIIIIIIIIIIIIRRRRRIRU p0 p1 p2 p3 p4 v8 v16 v27 v37 v45 v56 v66 v77 v91 v101 v112 v126 r134 r145 r156 r167 b172 v189 b196) []) _
            refine XS.iconst X239.here hx rfl (hb hby at_245) ?_
            show own_S p e below T239 (mkF m 246 (own_AIIIIIIIIIIIIIIIIIRRRRRIRU p0 p1 p2 p3 p4 v8 v16 v27 v37 v45 v56 v66 v77 v91 v101 v112 v126 r134 r145 r156 r167 b172 v189 b196) [(.int (1 : Int32))]) _
            refine XS.goto X239.here hx rfl (pc0 := 246) (pc' := 250) rfl (hb hby at_246) (by decide) (by decide) ?_
            exact k
          rw [hr209_s0]
          exact ⟨T239, _, X239, N239, hq239, fun t k => (sg221 t (st221 t (sg239 t (st239 t (sg250 t k)))))⟩
    refine own_by str209 ?_
    have sg256 : ∀ t, own_S p e below Tr209 (mkF m 256 (own_AIIIIIIIIIIIIIIIIIRRRRRIRI p0 p1 p2 p3 p4 v8 v16 v27 v37 v45 v56 v66 v77 v91 v101 v112 v126 r134 r145 r156 r167 b172 v189 b196 r209_s0) [(.ref b196), (.ref b172)]) t → own_S p e below Tr209 (mkF m 250 (own_AIIIIIIIIIIIIIIIIIRRRRRIRU p0 p1 p2 p3 p4 v8 v16 v27 v37 v45 v56 v66 v77 v91 v101 v112 v126 r134 r145 r156 r167 b172 v189 b196) [(.int r209_s0)]) t := by
      intro t k
      show own_S p e below Tr209 (mkF m 250 (own_AIIIIIIIIIIIIIIIIIRRRRRIRU p0 p1 p2 p3 p4 v8 v16 v27 v37 v45 v56 v66 v77 v91 v101 v112 v126 r134 r145 r156 r167 b172 v189 b196) [(.int r209_s0)]) _
      refine XS.istore Xr209.here hx rfl (hb hby at_250) rfl (l' := (own_AIIIIIIIIIIIIIIIIIRRRRRIRI p0 p1 p2 p3 p4 v8 v16 v27 v37 v45 v56 v66 v77 v91 v101 v112 v126 r134 r145 r156 r167 b172 v189 b196 r209_s0)) rfl ?_
      show own_S p e below Tr209 (mkF m 252 (own_AIIIIIIIIIIIIIIIIIRRRRRIRI p0 p1 p2 p3 p4 v8 v16 v27 v37 v45 v56 v66 v77 v91 v101 v112 v126 r134 r145 r156 r167 b172 v189 b196 r209_s0) []) _
      refine XS.aload Xr209.here hx rfl (hb hby at_252) rfl rfl ?_
      show own_S p e below Tr209 (mkF m 254 (own_AIIIIIIIIIIIIIIIIIRRRRRIRI p0 p1 p2 p3 p4 v8 v16 v27 v37 v45 v56 v66 v77 v91 v101 v112 v126 r134 r145 r156 r167 b172 v189 b196 r209_s0) [(.ref b172)]) _
      refine XS.aload Xr209.here hx rfl (hb hby at_254) rfl rfl ?_
      exact k
    refine own_by sg256 ?_
    obtain ⟨cq256, kq256, q256a, q256b, q256c⟩ := isOf hZ204 er209 ((Eq180.ext E196).keep Kq204)
    obtain ⟨_, _, ⟨T256, L256, k256, n256⟩, -, X256, ⟨Lc256, hQ256, l256, y256, z256⟩, st256⟩ := Xr209.virtualBack hx (y := (⟨"com/example/forget_by_time/forgetbytime/engine/TableName", "equals", "(Ljava/lang/Object;)Z"⟩ : MethodName)) (z := (⟨"com/example/forget_by_time/forgetbytime/engine/TableName", "equals", "(Ljava/lang/Object;)Z"⟩ : MethodName)) hown204 (mvT hZ204 (hw _ (List.mem_of_getElem? (i := 47) rfl))) (mvT hZ204 (hw _ (List.mem_of_getElem? (i := 48) rfl))) (notFace_of_selects (args := #[]) (mvT hZ204 (hw _ (List.mem_of_getElem? (i := 50) rfl)))) (mvT hZ204 (hw _ (List.mem_of_getElem? (i := 50) rfl))) (mvT hZ204 (hw _ (List.mem_of_getElem? (i := 49) rfl))) (by decide) (backOf (W := 0) (rm8 l Z a0 hw [] b172 b196 r134 r145 r156 r167 (own_cs v8 v16 v27) (own_cs v37 v45 v56) (own_cs v66 v77 v91) (own_cs v101 v112 v126) gz T204.heap n0 Z204 Eq204 fc_13 fc_14 Fschema_204 Fname_204 fc_8 fc_9 fc_10 fc_12 (O2.ext ((((((((O.keep Kq134 all0).keep Kq145 all0).keep Kq156 all0).keep Kq167 all0).ext E172).keep Kq180 (allS g_b172 all0)).ext E196).keep Kq204 (allS g_b196 all0)).2) P5) hZ204 (hw _ (List.mem_of_getElem? (i := 51) rfl)) (hw _ (List.mem_of_getElem? (i := 28) rfl)) (by decide) (by decide)) q256a q256c (g := (mkF m 256 (own_AIIIIIIIIIIIIIIIIIRRRRRIRI p0 p1 p2 p3 p4 v8 v16 v27 v37 v45 v56 v66 v77 v91 v101 v112 v126 r134 r145 r156 r167 b172 v189 b196 r209_s0) [(.ref b196), (.ref b172)])) rfl (by rw [hml]; rfl) (Steps.refl _) (argsL := [(.ref b196)]) (rest := []) (lenOf pd_0_3 rfl) rfl (by show 2 * 0 + _ ≤ _; exact Nat.le_of_eq rfl) (hb hby at_256) (fun _ _ => ⟨rfl, er209, (by decide : 34 + 0 ≤ _), (by decide : 148 + 0 ≤ _)⟩)
    dsimp only [Pt.U, Pt.locs, Pt.cells, Pt.slots] at X256 l256 y256 z256 st256 hQ256
    subst l256 y256 z256
    obtain ⟨rfl, N256q, hq256⟩ := hQ256
    have N256 := Fr.app Nr209 N256q
    obtain ⟨c256, hc256⟩ : ∃ z : Int32, z = (if (own_cs v8 v16 v27) = (own_cs v66 v77 v91) then (if (own_cs v37 v45 v56) = (own_cs v101 v112 v126) then (1 : Int32) else (0 : Int32)) else (0 : Int32)) := ⟨_, rfl⟩
    rw [← hc256] at st256
    refine own_by (fun t k => st256.trans k) ?_
    have sg268 : ∀ t, own_S p e below T256 (mkF m 268 (own_AIIIIIIIIIIIIIIIIIRRRRRIRI p0 p1 p2 p3 p4 v8 v16 v27 v37 v45 v56 v66 v77 v91 v101 v112 v126 r134 r145 r156 r167 b172 v189 b196 r209_s0) [(.ref b172), (.ref b196)]) t → own_S p e below T256 (mkF m 259 (own_AIIIIIIIIIIIIIIIIIRRRRRIRI p0 p1 p2 p3 p4 v8 v16 v27 v37 v45 v56 v66 v77 v91 v101 v112 v126 r134 r145 r156 r167 b172 v189 b196 r209_s0) [(.int c256)]) t := by
      intro t k
      show own_S p e below T256 (mkF m 259 (own_AIIIIIIIIIIIIIIIIIRRRRRIRI p0 p1 p2 p3 p4 v8 v16 v27 v37 v45 v56 v66 v77 v91 v101 v112 v126 r134 r145 r156 r167 b172 v189 b196 r209_s0) [(.int c256)]) _
      refine XS.iload X256.here hx rfl (hb hby at_259) rfl ?_
      show own_S p e below T256 (mkF m 261 (own_AIIIIIIIIIIIIIIIIIRRRRRIRI p0 p1 p2 p3 p4 v8 v16 v27 v37 v45 v56 v66 v77 v91 v101 v112 v126 r134 r145 r156 r167 b172 v189 b196 r209_s0) [(.int r209_s0), (.int c256)]) _
      refine XS.icmpNo X256.here hx rfl (hb hby at_261) rfl (teq (by rw [hc256, hr209_s0]; exact own_law _ _ _ _ _ _ _ _ _ _ _ _ (by rw [hv8]; exact own_l3 _) (by rw [hv66]; exact own_l3 _) (by rw [hv37]; exact own_l3 _) (by rw [hv101]; exact own_l3 _) : c256 = r209_s0)).2 ?_
      show own_S p e below T256 (mkF m 264 (own_AIIIIIIIIIIIIIIIIIRRRRRIRI p0 p1 p2 p3 p4 v8 v16 v27 v37 v45 v56 v66 v77 v91 v101 v112 v126 r134 r145 r156 r167 b172 v189 b196 r209_s0) []) _
      refine XS.aload X256.here hx rfl (hb hby at_264) rfl rfl ?_
      show own_S p e below T256 (mkF m 266 (own_AIIIIIIIIIIIIIIIIIRRRRRIRI p0 p1 p2 p3 p4 v8 v16 v27 v37 v45 v56 v66 v77 v91 v101 v112 v126 r134 r145 r156 r167 b172 v189 b196 r209_s0) [(.ref b196)]) _
      refine XS.aload X256.here hx rfl (hb hby at_266) rfl rfl ?_
      exact k
    refine own_by sg268 ?_
    obtain ⟨cq268, kq268, q268a, q268b, q268c⟩ := isOf hZ204 hq256 Eq204
    obtain ⟨_, _, ⟨T268, L268, k268, n268⟩, -, X268, ⟨Lc268, hQ268, l268, y268, z268⟩, st268⟩ := X256.virtualBack hx (y := (⟨"com/example/forget_by_time/forgetbytime/engine/TableName", "equals", "(Ljava/lang/Object;)Z"⟩ : MethodName)) (z := (⟨"com/example/forget_by_time/forgetbytime/engine/TableName", "equals", "(Ljava/lang/Object;)Z"⟩ : MethodName)) hown204 (mvT hZ204 (hw _ (List.mem_of_getElem? (i := 47) rfl))) (mvT hZ204 (hw _ (List.mem_of_getElem? (i := 48) rfl))) (notFace_of_selects (args := #[]) (mvT hZ204 (hw _ (List.mem_of_getElem? (i := 50) rfl)))) (mvT hZ204 (hw _ (List.mem_of_getElem? (i := 50) rfl))) (mvT hZ204 (hw _ (List.mem_of_getElem? (i := 49) rfl))) (by decide) (backOf (W := 0) (rm8 l Z a0 hw [] b196 b172 r156 r167 r134 r145 (own_cs v66 v77 v91) (own_cs v101 v112 v126) (own_cs v8 v16 v27) (own_cs v37 v45 v56) gz T204.heap n0 Z204 ((Eq180.ext E196).keep Kq204) Fschema_204 Fname_204 fc_13 fc_14 fc_10 fc_12 fc_8 fc_9 (O2.ext ((((((((O.keep Kq134 all0).keep Kq145 all0).keep Kq156 all0).keep Kq167 all0).ext E172).keep Kq180 (allS g_b172 all0)).ext E196).keep Kq204 (allS g_b196 all0)).2) P5) hZ204 (hw _ (List.mem_of_getElem? (i := 51) rfl)) (hw _ (List.mem_of_getElem? (i := 28) rfl)) (by decide) (by decide)) q268a q268c (g := (mkF m 268 (own_AIIIIIIIIIIIIIIIIIRRRRRIRI p0 p1 p2 p3 p4 v8 v16 v27 v37 v45 v56 v66 v77 v91 v101 v112 v126 r134 r145 r156 r167 b172 v189 b196 r209_s0) [(.ref b172), (.ref b196)])) rfl (by rw [hml]; rfl) (Steps.refl _) (argsL := [(.ref b172)]) (rest := []) (lenOf pd_0_3 rfl) rfl (by show 2 * 0 + _ ≤ _; exact Nat.le_of_eq rfl) (hb hby at_268) (fun _ _ => ⟨rfl, hq256, (by decide : 34 + 0 ≤ _), (by decide : 148 + 0 ≤ _)⟩)
    dsimp only [Pt.U, Pt.locs, Pt.cells, Pt.slots] at X268 l268 y268 z268 st268 hQ268
    subst l268 y268 z268
    obtain ⟨rfl, N268q, hq268⟩ := hQ268
    have N268 := Fr.app N256 N268q
    obtain ⟨c268, hc268⟩ : ∃ z : Int32, z = (if (own_cs v66 v77 v91) = (own_cs v8 v16 v27) then (if (own_cs v101 v112 v126) = (own_cs v37 v45 v56) then (1 : Int32) else (0 : Int32)) else (0 : Int32)) := ⟨_, rfl⟩
    rw [← hc268] at st268
    refine own_by (fun t k => st268.trans k) ?_
    have sg281 : ∀ t, own_S p e below T268 (mkF m 281 (own_AIIIIIIIIIIIIIIIIIRRRRRIRI p0 p1 p2 p3 p4 v8 v16 v27 v37 v45 v56 v66 v77 v91 v101 v112 v126 r134 r145 r156 r167 b172 v189 b196 r209_s0) [(.int (1 : Int32))]) t → own_S p e below T268 (mkF m 271 (own_AIIIIIIIIIIIIIIIIIRRRRRIRI p0 p1 p2 p3 p4 v8 v16 v27 v37 v45 v56 v66 v77 v91 v101 v112 v126 r134 r145 r156 r167 b172 v189 b196 r209_s0) [(.int c268)]) t := by
      intro t k
      show own_S p e below T268 (mkF m 271 (own_AIIIIIIIIIIIIIIIIIRRRRRIRI p0 p1 p2 p3 p4 v8 v16 v27 v37 v45 v56 v66 v77 v91 v101 v112 v126 r134 r145 r156 r167 b172 v189 b196 r209_s0) [(.int c268)]) _
      refine XS.iload X268.here hx rfl (hb hby at_271) rfl ?_
      show own_S p e below T268 (mkF m 273 (own_AIIIIIIIIIIIIIIIIIRRRRRIRI p0 p1 p2 p3 p4 v8 v16 v27 v37 v45 v56 v66 v77 v91 v101 v112 v126 r134 r145 r156 r167 b172 v189 b196 r209_s0) [(.int r209_s0), (.int c268)]) _
      refine XS.icmpNo X268.here hx rfl (hb hby at_273) rfl (teq (by rw [hc268, hr209_s0, own_eqc]; exact own_law _ _ _ _ _ _ _ _ _ _ _ _ (by rw [hv8]; exact own_l3 _) (by rw [hv66]; exact own_l3 _) (by rw [hv37]; exact own_l3 _) (by rw [hv101]; exact own_l3 _) : c268 = r209_s0)).2 ?_
      show own_S p e below T268 (mkF m 276 (own_AIIIIIIIIIIIIIIIIIRRRRRIRI p0 p1 p2 p3 p4 v8 v16 v27 v37 v45 v56 v66 v77 v91 v101 v112 v126 r134 r145 r156 r167 b172 v189 b196 r209_s0) []) _
      refine XS.iconst X268.here hx rfl (hb hby at_276) ?_
      show own_S p e below T268 (mkF m 277 (own_AIIIIIIIIIIIIIIIIIRRRRRIRI p0 p1 p2 p3 p4 v8 v16 v27 v37 v45 v56 v66 v77 v91 v101 v112 v126 r134 r145 r156 r167 b172 v189 b196 r209_s0) [(.int (1 : Int32))]) _
      refine XS.goto X268.here hx rfl (pc0 := 277) (pc' := 281) rfl (hb hby at_277) (by decide) (by decide) ?_
      exact k
    refine own_by sg281 ?_
    obtain ⟨fs, hr, hrun, hended, hW⟩ := X268.leaveW hS204 (by rw [hq268]; exact (Nat.le_refl _)) (v := some (.int (1 : Int32))) (fun h => by rw [Bd.returns] at h; cases h)
    refine ⟨_, _, ?_, hrun, hended, _, _, rfl, ?_, (by rw [hh]; show CHr Z consts_1 s.vm h0 T268.vm T268.heap; rw [hq268]; exact CR204.trans (CHv.at X268 hZ204 hEL hC204.1)), hW.1, hW.2.1, hW.2.2.1, hW.2.2.2.mono (by decide) (by decide)⟩
    · exact retN X268 hx (t := .boolean) Bd.returns (by simp) (hb hby at_281) hr
    · show Q0 Z p0 p1 p2 p3 p4 gz h0 n0 _ T268.heap _
      rw [hq268]
      exact ⟨rfl, N268⟩
  · have sg285 : ∀ t, own_S p e below T180 (mkF m 285 (own_AIIIIIIIIIIIIIIIIIRRRRRIUU p0 p1 p2 p3 p4 v8 v16 v27 v37 v45 v56 v66 v77 v91 v101 v112 v126 r134 r145 r156 r167 b172 v189) [(.int (1 : Int32)), (.int v189)]) t → own_S p e below T180 (mkF m 193 (own_AIIIIIIIIIIIIIIIIIRRRRRIUU p0 p1 p2 p3 p4 v8 v16 v27 v37 v45 v56 v66 v77 v91 v101 v112 v126 r134 r145 r156 r167 b172 v189) [(.int v189)]) t := by
      intro t k
      show own_S p e below T180 (mkF m 193 (own_AIIIIIIIIIIIIIIIIIRRRRRIUU p0 p1 p2 p3 p4 v8 v16 v27 v37 v45 v56 v66 v77 v91 v101 v112 v126 r134 r145 r156 r167 b172 v189) [(.int v189)]) _
      refine XS.ifYes X180.here hx rfl (pc0 := 193) (pc' := 282) rfl (hb hby at_193) rfl ((if0 _ _).trans (feq hc193).2) (by decide) (by decide) ?_
      show own_S p e below T180 (mkF m 282 (own_AIIIIIIIIIIIIIIIIIRRRRRIUU p0 p1 p2 p3 p4 v8 v16 v27 v37 v45 v56 v66 v77 v91 v101 v112 v126 r134 r145 r156 r167 b172 v189) []) _
      refine XS.iload X180.here hx rfl (hb hby at_282) rfl ?_
      show own_S p e below T180 (mkF m 284 (own_AIIIIIIIIIIIIIIIIIRRRRRIUU p0 p1 p2 p3 p4 v8 v16 v27 v37 v45 v56 v66 v77 v91 v101 v112 v126 r134 r145 r156 r167 b172 v189) [(.int v189)]) _
      refine XS.iconst X180.here hx rfl (hb hby at_284) ?_
      exact k
    refine own_by sg285 ?_
    by_cases hc285 : v189 = (1 : Int32)
    · have sg296 : ∀ t, own_S p e below T180 (mkF m 296 (own_AIIIIIIIIIIIIIIIIIRRRRRIRU p0 p1 p2 p3 p4 v8 v16 v27 v37 v45 v56 v66 v77 v91 v101 v112 v126 r134 r145 r156 r167 b172 v189 r134) [(.ref r134), (.ref b172)]) t → own_S p e below T180 (mkF m 285 (own_AIIIIIIIIIIIIIIIIIRRRRRIUU p0 p1 p2 p3 p4 v8 v16 v27 v37 v45 v56 v66 v77 v91 v101 v112 v126 r134 r145 r156 r167 b172 v189) [(.int (1 : Int32)), (.int v189)]) t := by
        intro t k
        show own_S p e below T180 (mkF m 285 (own_AIIIIIIIIIIIIIIIIIRRRRRIUU p0 p1 p2 p3 p4 v8 v16 v27 v37 v45 v56 v66 v77 v91 v101 v112 v126 r134 r145 r156 r167 b172 v189) [(.int (1 : Int32)), (.int v189)]) _
        refine XS.icmpNo X180.here hx rfl (hb hby at_285) rfl (teq hc285).2 ?_
        show own_S p e below T180 (mkF m 288 (own_AIIIIIIIIIIIIIIIIIRRRRRIUU p0 p1 p2 p3 p4 v8 v16 v27 v37 v45 v56 v66 v77 v91 v101 v112 v126 r134 r145 r156 r167 b172 v189) []) _
        refine XS.aload X180.here hx rfl (hb hby at_288) rfl rfl ?_
        show own_S p e below T180 (mkF m 290 (own_AIIIIIIIIIIIIIIIIIRRRRRIUU p0 p1 p2 p3 p4 v8 v16 v27 v37 v45 v56 v66 v77 v91 v101 v112 v126 r134 r145 r156 r167 b172 v189) [(.ref r134)]) _
        refine XS.astore X180.here hx rfl (hb hby at_290) rfl rfl (l' := (own_AIIIIIIIIIIIIIIIIIRRRRRIRU p0 p1 p2 p3 p4 v8 v16 v27 v37 v45 v56 v66 v77 v91 v101 v112 v126 r134 r145 r156 r167 b172 v189 r134)) rfl ?_
        show own_S p e below T180 (mkF m 292 (own_AIIIIIIIIIIIIIIIIIRRRRRIRU p0 p1 p2 p3 p4 v8 v16 v27 v37 v45 v56 v66 v77 v91 v101 v112 v126 r134 r145 r156 r167 b172 v189 r134) []) _
        refine XS.aload X180.here hx rfl (hb hby at_292) rfl rfl ?_
        show own_S p e below T180 (mkF m 294 (own_AIIIIIIIIIIIIIIIIIRRRRRIRU p0 p1 p2 p3 p4 v8 v16 v27 v37 v45 v56 v66 v77 v91 v101 v112 v126 r134 r145 r156 r167 b172 v189 r134) [(.ref b172)]) _
        refine XS.aload X180.here hx rfl (hb hby at_294) rfl rfl ?_
        exact k
      refine own_by sg296 ?_
      obtain ⟨cq296, kq296, q296a, q296b, q296c⟩ := isOf hZ180 rfl Eq180
      obtain ⟨_, _, ⟨T296, L296, k296, n296⟩, -, X296, ⟨Lc296, hQ296, l296, y296, z296⟩, st296⟩ := X180.virtualBack hx (y := (⟨"com/example/forget_by_time/forgetbytime/engine/TableName", "equals", "(Ljava/lang/Object;)Z"⟩ : MethodName)) (z := (⟨"com/example/forget_by_time/forgetbytime/engine/TableName", "equals", "(Ljava/lang/Object;)Z"⟩ : MethodName)) hown180 (mvT hZ180 (hw _ (List.mem_of_getElem? (i := 47) rfl))) (mvT hZ180 (hw _ (List.mem_of_getElem? (i := 48) rfl))) (notFace_of_selects (args := #[]) (mvT hZ180 (hw _ (List.mem_of_getElem? (i := 50) rfl)))) (mvT hZ180 (hw _ (List.mem_of_getElem? (i := 50) rfl))) (mvT hZ180 (hw _ (List.mem_of_getElem? (i := 49) rfl))) (by decide) (backOf (W := 0) (rm8x l Z a0 hw [] b172 r134 T180.heap n0 Z180 fc_3) hZ180 (hw _ (List.mem_of_getElem? (i := 51) rfl)) (hw _ (List.mem_of_getElem? (i := 28) rfl)) (by decide) (by decide)) q296a q296c (g := (mkF m 296 (own_AIIIIIIIIIIIIIIIIIRRRRRIRU p0 p1 p2 p3 p4 v8 v16 v27 v37 v45 v56 v66 v77 v91 v101 v112 v126 r134 r145 r156 r167 b172 v189 r134) [(.ref r134), (.ref b172)])) rfl (by rw [hml]; rfl) (Steps.refl _) (argsL := [(.ref r134)]) (rest := []) (lenOf pd_0_3 rfl) rfl (by show 2 * 0 + _ ≤ _; exact Nat.le_of_eq rfl) (hb hby at_296) (fun _ _ => ⟨rfl, rfl, (by decide : 29 + 0 ≤ _), (by decide : 98 + 0 ≤ _)⟩)
      dsimp only [Pt.U, Pt.locs, Pt.cells, Pt.slots] at X296 l296 y296 z296 st296 hQ296
      subst l296 y296 z296
      obtain ⟨rfl, N296q, hq296⟩ := hQ296
      have N296 := Fr.app N180 N296q
      refine own_by (fun t k => st296.trans k) ?_
      have sg307 : ∀ t, own_S p e below T296 (mkF m 307 (own_AIIIIIIIIIIIIIIIIIRRRRRIRU p0 p1 p2 p3 p4 v8 v16 v27 v37 v45 v56 v66 v77 v91 v101 v112 v126 r134 r145 r156 r167 b172 v189 r134) [(.int (1 : Int32))]) t → own_S p e below T296 (mkF m 299 (own_AIIIIIIIIIIIIIIIIIRRRRRIRU p0 p1 p2 p3 p4 v8 v16 v27 v37 v45 v56 v66 v77 v91 v101 v112 v126 r134 r145 r156 r167 b172 v189 r134) [(.int (0 : Int32))]) t := by
        intro t k
        show own_S p e below T296 (mkF m 299 (own_AIIIIIIIIIIIIIIIIIRRRRRIRU p0 p1 p2 p3 p4 v8 v16 v27 v37 v45 v56 v66 v77 v91 v101 v112 v126 r134 r145 r156 r167 b172 v189 r134) [(.int (0 : Int32))]) _
        refine XS.ifNo X296.here hx rfl (hb hby at_299) rfl ((if0 _ _).trans (teq (by decide : (0 : Int32) = (0 : Int32))).2) ?_
        show own_S p e below T296 (mkF m 302 (own_AIIIIIIIIIIIIIIIIIRRRRRIRU p0 p1 p2 p3 p4 v8 v16 v27 v37 v45 v56 v66 v77 v91 v101 v112 v126 r134 r145 r156 r167 b172 v189 r134) []) _
        refine XS.iconst X296.here hx rfl (hb hby at_302) ?_
        show own_S p e below T296 (mkF m 303 (own_AIIIIIIIIIIIIIIIIIRRRRRIRU p0 p1 p2 p3 p4 v8 v16 v27 v37 v45 v56 v66 v77 v91 v101 v112 v126 r134 r145 r156 r167 b172 v189 r134) [(.int (1 : Int32))]) _
        refine XS.goto X296.here hx rfl (pc0 := 303) (pc' := 307) rfl (hb hby at_303) (by decide) (by decide) ?_
        exact k
      refine own_by sg307 ?_
      obtain ⟨fs, hr, hrun, hended, hW⟩ := X296.leaveW hS180 (by rw [hq296]; exact (Nat.le_refl _)) (v := some (.int (1 : Int32))) (fun h => by rw [Bd.returns] at h; cases h)
      refine ⟨_, _, ?_, hrun, hended, _, _, rfl, ?_, (by rw [hh]; show CHr Z consts_1 s.vm h0 T296.vm T296.heap; rw [hq296]; exact CR180.trans (CHv.at X296 hZ180 hEL hC180.1)), hW.1, hW.2.1, hW.2.2.1, hW.2.2.2.mono (by decide) (by decide)⟩
      · exact retN X296 hx (t := .boolean) Bd.returns (by simp) (hb hby at_307) hr
      · show Q0 Z p0 p1 p2 p3 p4 gz h0 n0 _ T296.heap _
        rw [hq296]
        exact ⟨rfl, N296⟩
    · have sg311 : ∀ t, own_S p e below T180 (mkF m 311 (own_AIIIIIIIIIIIIIIIIIRRRRRIUU p0 p1 p2 p3 p4 v8 v16 v27 v37 v45 v56 v66 v77 v91 v101 v112 v126 r134 r145 r156 r167 b172 v189) [(.int (2 : Int32)), (.int v189)]) t → own_S p e below T180 (mkF m 285 (own_AIIIIIIIIIIIIIIIIIRRRRRIUU p0 p1 p2 p3 p4 v8 v16 v27 v37 v45 v56 v66 v77 v91 v101 v112 v126 r134 r145 r156 r167 b172 v189) [(.int (1 : Int32)), (.int v189)]) t := by
        intro t k
        show own_S p e below T180 (mkF m 285 (own_AIIIIIIIIIIIIIIIIIRRRRRIUU p0 p1 p2 p3 p4 v8 v16 v27 v37 v45 v56 v66 v77 v91 v101 v112 v126 r134 r145 r156 r167 b172 v189) [(.int (1 : Int32)), (.int v189)]) _
        refine XS.icmpYes X180.here hx rfl (pc0 := 285) (pc' := 308) rfl (hb hby at_285) rfl (feq hc285).2 (by decide) (by decide) ?_
        show own_S p e below T180 (mkF m 308 (own_AIIIIIIIIIIIIIIIIIRRRRRIUU p0 p1 p2 p3 p4 v8 v16 v27 v37 v45 v56 v66 v77 v91 v101 v112 v126 r134 r145 r156 r167 b172 v189) []) _
        refine XS.iload X180.here hx rfl (hb hby at_308) rfl ?_
        show own_S p e below T180 (mkF m 310 (own_AIIIIIIIIIIIIIIIIIRRRRRIUU p0 p1 p2 p3 p4 v8 v16 v27 v37 v45 v56 v66 v77 v91 v101 v112 v126 r134 r145 r156 r167 b172 v189) [(.int v189)]) _
        refine XS.iconst X180.here hx rfl (hb hby at_310) ?_
        exact k
      refine own_by sg311 ?_
      by_cases hc311 : v189 = (2 : Int32)
      · have sg317 : ∀ t, own_S p e below T180 (mkF m 317 (own_AIIIIIIIIIIIIIIIIIRRRRRIUU p0 p1 p2 p3 p4 v8 v16 v27 v37 v45 v56 v66 v77 v91 v101 v112 v126 r134 r145 r156 r167 b172 v189) [.null, (.ref b172)]) t → own_S p e below T180 (mkF m 311 (own_AIIIIIIIIIIIIIIIIIRRRRRIUU p0 p1 p2 p3 p4 v8 v16 v27 v37 v45 v56 v66 v77 v91 v101 v112 v126 r134 r145 r156 r167 b172 v189) [(.int (2 : Int32)), (.int v189)]) t := by
          intro t k
          show own_S p e below T180 (mkF m 311 (own_AIIIIIIIIIIIIIIIIIRRRRRIUU p0 p1 p2 p3 p4 v8 v16 v27 v37 v45 v56 v66 v77 v91 v101 v112 v126 r134 r145 r156 r167 b172 v189) [(.int (2 : Int32)), (.int v189)]) _
          refine XS.icmpNo X180.here hx rfl (hb hby at_311) rfl (teq hc311).2 ?_
          show own_S p e below T180 (mkF m 314 (own_AIIIIIIIIIIIIIIIIIRRRRRIUU p0 p1 p2 p3 p4 v8 v16 v27 v37 v45 v56 v66 v77 v91 v101 v112 v126 r134 r145 r156 r167 b172 v189) []) _
          refine XS.aload X180.here hx rfl (hb hby at_314) rfl rfl ?_
          show own_S p e below T180 (mkF m 316 (own_AIIIIIIIIIIIIIIIIIRRRRRIUU p0 p1 p2 p3 p4 v8 v16 v27 v37 v45 v56 v66 v77 v91 v101 v112 v126 r134 r145 r156 r167 b172 v189) [(.ref b172)]) _
          refine XS.aconstNull X180.here hx rfl (hb hby at_316) ?_
          exact k
        refine own_by sg317 ?_
        obtain ⟨cq317, kq317, q317a, q317b, q317c⟩ := isOf hZ180 rfl Eq180
        obtain ⟨_, _, ⟨T317, L317, k317, n317⟩, -, X317, ⟨Lc317, hQ317, l317, y317, z317⟩, st317⟩ := X180.virtualBack hx (y := (⟨"com/example/forget_by_time/forgetbytime/engine/TableName", "equals", "(Ljava/lang/Object;)Z"⟩ : MethodName)) (z := (⟨"com/example/forget_by_time/forgetbytime/engine/TableName", "equals", "(Ljava/lang/Object;)Z"⟩ : MethodName)) hown180 (mvT hZ180 (hw _ (List.mem_of_getElem? (i := 47) rfl))) (mvT hZ180 (hw _ (List.mem_of_getElem? (i := 48) rfl))) (notFace_of_selects (args := #[]) (mvT hZ180 (hw _ (List.mem_of_getElem? (i := 50) rfl)))) (mvT hZ180 (hw _ (List.mem_of_getElem? (i := 50) rfl))) (mvT hZ180 (hw _ (List.mem_of_getElem? (i := 49) rfl))) (by decide) (backOf (W := 0) (rm8n l Z a0 hw [] b172 T180.heap n0 Z180) hZ180 (hw _ (List.mem_of_getElem? (i := 51) rfl)) (hw _ (List.mem_of_getElem? (i := 28) rfl)) (by decide) (by decide)) q317a q317c (g := (mkF m 317 (own_AIIIIIIIIIIIIIIIIIRRRRRIUU p0 p1 p2 p3 p4 v8 v16 v27 v37 v45 v56 v66 v77 v91 v101 v112 v126 r134 r145 r156 r167 b172 v189) [.null, (.ref b172)])) rfl (by rw [hml]; rfl) (Steps.refl _) (argsL := [.null]) (rest := []) (lenOf pd_0_3 rfl) rfl (by show 2 * 0 + _ ≤ _; exact Nat.le_of_eq rfl) (hb hby at_317) (fun _ _ => ⟨rfl, rfl, (by decide : 29 + 0 ≤ _), (by decide : 98 + 0 ≤ _)⟩)
        dsimp only [Pt.U, Pt.locs, Pt.cells, Pt.slots] at X317 l317 y317 z317 st317 hQ317
        subst l317 y317 z317
        obtain ⟨rfl, N317q, hq317⟩ := hQ317
        have N317 := Fr.app N180 N317q
        refine own_by (fun t k => st317.trans k) ?_
        have sg328 : ∀ t, own_S p e below T317 (mkF m 328 (own_AIIIIIIIIIIIIIIIIIRRRRRIUU p0 p1 p2 p3 p4 v8 v16 v27 v37 v45 v56 v66 v77 v91 v101 v112 v126 r134 r145 r156 r167 b172 v189) [(.int (1 : Int32))]) t → own_S p e below T317 (mkF m 320 (own_AIIIIIIIIIIIIIIIIIRRRRRIUU p0 p1 p2 p3 p4 v8 v16 v27 v37 v45 v56 v66 v77 v91 v101 v112 v126 r134 r145 r156 r167 b172 v189) [(.int (0 : Int32))]) t := by
          intro t k
          show own_S p e below T317 (mkF m 320 (own_AIIIIIIIIIIIIIIIIIRRRRRIUU p0 p1 p2 p3 p4 v8 v16 v27 v37 v45 v56 v66 v77 v91 v101 v112 v126 r134 r145 r156 r167 b172 v189) [(.int (0 : Int32))]) _
          refine XS.ifNo X317.here hx rfl (hb hby at_320) rfl ((if0 _ _).trans (teq (by decide : (0 : Int32) = (0 : Int32))).2) ?_
          show own_S p e below T317 (mkF m 323 (own_AIIIIIIIIIIIIIIIIIRRRRRIUU p0 p1 p2 p3 p4 v8 v16 v27 v37 v45 v56 v66 v77 v91 v101 v112 v126 r134 r145 r156 r167 b172 v189) []) _
          refine XS.iconst X317.here hx rfl (hb hby at_323) ?_
          show own_S p e below T317 (mkF m 324 (own_AIIIIIIIIIIIIIIIIIRRRRRIUU p0 p1 p2 p3 p4 v8 v16 v27 v37 v45 v56 v66 v77 v91 v101 v112 v126 r134 r145 r156 r167 b172 v189) [(.int (1 : Int32))]) _
          refine XS.goto X317.here hx rfl (pc0 := 324) (pc' := 328) rfl (hb hby at_324) (by decide) (by decide) ?_
          exact k
        refine own_by sg328 ?_
        obtain ⟨fs, hr, hrun, hended, hW⟩ := X317.leaveW hS180 (by rw [hq317]; exact (Nat.le_refl _)) (v := some (.int (1 : Int32))) (fun h => by rw [Bd.returns] at h; cases h)
        refine ⟨_, _, ?_, hrun, hended, _, _, rfl, ?_, (by rw [hh]; show CHr Z consts_1 s.vm h0 T317.vm T317.heap; rw [hq317]; exact CR180.trans (CHv.at X317 hZ180 hEL hC180.1)), hW.1, hW.2.1, hW.2.2.1, hW.2.2.2.mono (by decide) (by decide)⟩
        · exact retN X317 hx (t := .boolean) Bd.returns (by simp) (hb hby at_328) hr
        · show Q0 Z p0 p1 p2 p3 p4 gz h0 n0 _ T317.heap _
          rw [hq317]
          exact ⟨rfl, N317⟩
      · have sg333 : ∀ t, own_S p e below T180 (mkF m 333 (own_AIIIIIIIIIIIIIIIIIRRRRRIUU p0 p1 p2 p3 p4 v8 v16 v27 v37 v45 v56 v66 v77 v91 v101 v112 v126 r134 r145 r156 r167 b172 v189) [(.ref b172), (.ref b172)]) t → own_S p e below T180 (mkF m 311 (own_AIIIIIIIIIIIIIIIIIRRRRRIUU p0 p1 p2 p3 p4 v8 v16 v27 v37 v45 v56 v66 v77 v91 v101 v112 v126 r134 r145 r156 r167 b172 v189) [(.int (2 : Int32)), (.int v189)]) t := by
          intro t k
          show own_S p e below T180 (mkF m 311 (own_AIIIIIIIIIIIIIIIIIRRRRRIUU p0 p1 p2 p3 p4 v8 v16 v27 v37 v45 v56 v66 v77 v91 v101 v112 v126 r134 r145 r156 r167 b172 v189) [(.int (2 : Int32)), (.int v189)]) _
          refine XS.icmpYes X180.here hx rfl (pc0 := 311) (pc' := 329) rfl (hb hby at_311) rfl (feq hc311).2 (by decide) (by decide) ?_
          show own_S p e below T180 (mkF m 329 (own_AIIIIIIIIIIIIIIIIIRRRRRIUU p0 p1 p2 p3 p4 v8 v16 v27 v37 v45 v56 v66 v77 v91 v101 v112 v126 r134 r145 r156 r167 b172 v189) []) _
          refine XS.aload X180.here hx rfl (hb hby at_329) rfl rfl ?_
          show own_S p e below T180 (mkF m 331 (own_AIIIIIIIIIIIIIIIIIRRRRRIUU p0 p1 p2 p3 p4 v8 v16 v27 v37 v45 v56 v66 v77 v91 v101 v112 v126 r134 r145 r156 r167 b172 v189) [(.ref b172)]) _
          refine XS.aload X180.here hx rfl (hb hby at_331) rfl rfl ?_
          exact k
        refine own_by sg333 ?_
        obtain ⟨cq333, kq333, q333a, q333b, q333c⟩ := isOf hZ180 rfl Eq180
        obtain ⟨_, _, ⟨T333, L333, k333, n333⟩, -, X333, ⟨Lc333, hQ333, l333, y333, z333⟩, st333⟩ := X180.virtualBack hx (y := (⟨"com/example/forget_by_time/forgetbytime/engine/TableName", "equals", "(Ljava/lang/Object;)Z"⟩ : MethodName)) (z := (⟨"com/example/forget_by_time/forgetbytime/engine/TableName", "equals", "(Ljava/lang/Object;)Z"⟩ : MethodName)) hown180 (mvT hZ180 (hw _ (List.mem_of_getElem? (i := 47) rfl))) (mvT hZ180 (hw _ (List.mem_of_getElem? (i := 48) rfl))) (notFace_of_selects (args := #[]) (mvT hZ180 (hw _ (List.mem_of_getElem? (i := 50) rfl)))) (mvT hZ180 (hw _ (List.mem_of_getElem? (i := 50) rfl))) (mvT hZ180 (hw _ (List.mem_of_getElem? (i := 49) rfl))) (by decide) (backOf (W := 0) (rm8s l Z a0 hw [] b172 r134 r145 (own_cs v8 v16 v27) (own_cs v37 v45 v56) gz T180.heap n0 Z180 Eq180 Fschema_180 Fname_180 fc_2 fc_4 (O2.ext ((((((O.keep Kq134 all0).keep Kq145 all0).keep Kq156 all0).keep Kq167 all0).ext E172).keep Kq180 (allS g_b172 all0)).2) P5) hZ180 (hw _ (List.mem_of_getElem? (i := 51) rfl)) (hw _ (List.mem_of_getElem? (i := 28) rfl)) (by decide) (by decide)) q333a q333c (g := (mkF m 333 (own_AIIIIIIIIIIIIIIIIIRRRRRIUU p0 p1 p2 p3 p4 v8 v16 v27 v37 v45 v56 v66 v77 v91 v101 v112 v126 r134 r145 r156 r167 b172 v189) [(.ref b172), (.ref b172)])) rfl (by rw [hml]; rfl) (Steps.refl _) (argsL := [(.ref b172)]) (rest := []) (lenOf pd_0_3 rfl) rfl (by show 2 * 0 + _ ≤ _; exact Nat.le_of_eq rfl) (hb hby at_333) (fun _ _ => ⟨rfl, rfl, (by decide : 29 + 0 ≤ _), (by decide : 98 + 0 ≤ _)⟩)
        dsimp only [Pt.U, Pt.locs, Pt.cells, Pt.slots] at X333 l333 y333 z333 st333 hQ333
        subst l333 y333 z333
        obtain ⟨rfl, N333q, hq333⟩ := hQ333
        have N333 := Fr.app N180 N333q
        refine own_by (fun t k => st333.trans k) ?_
        obtain ⟨fs, hr, hrun, hended, hW⟩ := X333.leaveW hS180 (by rw [hq333]; exact (Nat.le_refl _)) (v := some (.int (1 : Int32))) (fun h => by rw [Bd.returns] at h; cases h)
        refine ⟨_, _, ?_, hrun, hended, _, _, rfl, ?_, (by rw [hh]; show CHr Z consts_1 s.vm h0 T333.vm T333.heap; rw [hq333]; exact CR180.trans (CHv.at X333 hZ180 hEL hC180.1)), hW.1, hW.2.1, hW.2.2.1, hW.2.2.2.mono (by decide) (by decide)⟩
        · exact retN X333 hx (t := .boolean) Bd.returns (by simp) (hb hby at_336) hr
        · show Q0 Z p0 p1 p2 p3 p4 gz h0 n0 _ T333.heap _
          rw [hq333]
          exact ⟨rfl, N333⟩
set_option maxRecDepth 65536 in
set_option maxHeartbeats 40000000 in
theorem comes_1 {Post : Tables → Env → Array Value → State → Outcome → State → Prop} (hpost : ∀ tb e args s v u, (limb_1_1.after args s (.returned v) u = true ∧ limb_1_2.after args s (.returned v) u = true ∧ True) → ReturnedEndW s (.returned v) u (Jvm.fieldLocs frame_1_writes args s ++ Jvm.arrayLocs frame_1_arrays args s ++ Jvm.staticLocs frame_1_statics s) 40 3264 → Post tb e args s (.returned v) u) :
    ArmFor flags0 classFile x code maxLocals ret World_1 tables_1 room_1 Calls_1 rest_1 Pre_1 Post := by
  intro l hfl _ _ p e ha hc hk s m args below hf hA hF happ hP
  obtain ⟨hcalls, hrest, hpre⟩ := hP
  obtain ⟨-, -, -, hnamed, -, -, -, hat⟩ := (Spec.applies_iff hf).mp happ
  obtain ⟨hg, nn⟩ := and_e (Cond.before_iff.mp (show (Jvm.Cond.and given_1 narrow_1).before args s = true from hpre))
  obtain ⟨hh0, hh1⟩ := and_e hg
  obtain ⟨hh2, hh3⟩ := and_e hh1
  obtain ⟨hh4, hh5⟩ := and_e hh3
  obtain ⟨hh6, hh7⟩ := and_e hh5
  obtain ⟨hh8, hh9⟩ := and_e hh7
  obtain ⟨w0, w1, w2, w3, w4, rfl⟩ : ∃ w0 w1 w2 w3 w4 : Value, args = #[w0, w1, w2, w3, w4] := by
    have hs : args.size = 5 := by simpa [Cond.value, given_1] using hh0
    obtain ⟨L⟩ := args
    match L, hs with
    | [w0, w1, w2, w3, w4], _ => exact ⟨w0, w1, w2, w3, w4, rfl⟩
  have hw := fun d (hd : d ∈ tables_1) => atoms_spec (ws := Jvm.Cond.code x code maxLocals ret :: tables_1) hat d (List.mem_cons_of_mem _ hd)
  have hfit : Fit s := fun {y c} hc i hi => by
    obtain ⟨ha, rfl⟩ := Array.getElem?_eq_some_iff.mp hc
    have q := List.all_eq_true.mp ((Array.all_eq_true_iff_forall_mem.mp hF) _ (Array.getElem_mem ha)) i (List.mem_range.mpr hi)
    simpa [Array.getElem?_eq_getElem hi] using q
  obtain ⟨hsets, hown0⟩ := atoms_of _ (rest_1_c_eq ▸ (show rest_1_c.before _ s = true from hrest))
  have hr0 := Cond.before_iff.mp hown0
  obtain ⟨gz, ez⟩ := is_v (Cond.before_iff.mp (hsets _ (List.mem_of_getElem? (i := 1) rfl)))
  have Sz : Sta s s.heap "java/lang/String" "COMPACT_STRINGS" "Z" (.int gz) := Sta.start ez (Or.inl (hsets _ (List.mem_of_getElem? (i := 0) rfl)))
  have cz : ¬ (gz = (0 : Int32)) := gotF (Cond.eq_ints ez (Term.int_eval (0))) (not_v (Cond.before_iff.mp (hsets _ (List.mem_of_getElem? (i := 2) rfl))))
  obtain ⟨gf, ef, rf⟩ := isR_v (Cond.before_iff.mp (hsets _ (List.mem_of_getElem? (i := 8) rfl)))
  have Sf : Sta s s.heap "jdk/internal/util/Preconditions" "SIOOBE_FORMATTER" "Ljava/util/function/BiFunction;" gf := Sta.start ef (Or.inl (hsets _ (List.mem_of_getElem? (i := 7) rfl)))
  obtain ⟨i0, ei0⟩ := is_v hh2
  obtain rfl : w0 = (.int i0) := Option.some.inj ei0
  obtain ⟨i1, ei1⟩ := is_v hh4
  obtain rfl : w1 = (.int i1) := Option.some.inj ei1
  obtain ⟨i2, ei2⟩ := is_v hh6
  obtain rfl : w2 = (.int i2) := Option.some.inj ei2
  obtain ⟨i3, ei3⟩ := is_v hh8
  obtain rfl : w3 = (.int i3) := Option.some.inj ei3
  obtain ⟨i4, ei4⟩ := is_v hh9
  obtain rfl : w4 = (.int i4) := Option.some.inj ei4
  have hEL : EW _ _ consts_1 := (EW.cons (hw _ (List.mem_of_getElem? (i := 33) rfl)) (by decide) (EW.cons (hw _ (List.mem_of_getElem? (i := 41) rfl)) (by decide) (EW.cons (hw _ (List.mem_of_getElem? (i := 18) rfl)) (by decide) EW.nil)))
  have hH0 : CHv s consts_1 s.vm s.heap := CHv.start hEL hcalls.1 (hsets _ (List.mem_of_getElem? (i := 2) rfl)) (hw _ (List.mem_of_getElem? (i := 19) rfl)) (hw _ (List.mem_of_getElem? (i := 5) rfl))
  obtain ⟨n, o, h1, h2, h3, _, L, rfl, ⟨rfl, N⟩, -, hq⟩ := rm0 l s _ hw tables_1 i0 i1 i2 i3 i4 gz s.heap s.heap.size (Nat.le_refl _) (Old.start s) Sz cz p e ha hc hk s m _ below hf ((Spec.applies_iff_loose hf).mp happ).1 ⟨rfl, State.Warmed39.refl s, rfl, hH0⟩ trivial
  refine ⟨n, _, h1, h2, h3, hpost _ _ _ _ _ _ ⟨Cond.after_iff.mpr rfl, Cond.after_iff.mpr (eq_i res_at (Term.int_eval (1)) rfl), trivial⟩ ⟨hq.1, hq.2.1, hq.2.2.1, (hq.2.2.2.sift fun y hy => Or.inr (N y hy)).mono (by decide) (by decide)⟩⟩
theorem main_1_1 : Claimed_1_1 := comes_1 fun _ _ _ _ _ _ h hF => ⟨h.1, hF⟩
theorem main_1_2 : Claimed_1_2 := comes_1 fun _ _ _ _ _ _ h hF => ⟨h.2.1, hF⟩
end Jvm.Pilot.@@N@@
namespace Jvm.Pilot.@@N@@
open Jvm Jvm.ClassFile Sem Op Lib Jvm.Free Jvm.Stand Jvm.Pilot.@@N@@.Jvm.D
/-! MADE BY PROGRAM (witnessworld.py) out of the Statement's table words and the real class files: 21 classes; the members and pool entries that the words name. The judged class is class 1, her method 1. -/
namespace start1
open Jvm.ClassFile
def u (s : String) : CpInfo := .utf8 (stringToUtf16 s)
/-- a pool by its gaps: so many unusable entries, then the entry; so many at the end -/
def gap : Nat → List CpInfo → List CpInfo
  | 0, r => r
  | n + 1, r => .unusable :: gap n r
def poolList (es : List (Nat × CpInfo)) (last : Nat) : List CpInfo := es.foldr (fun e r => gap e.1 (e.2 :: r)) (gap last [])
def pool (es : List (Nat × CpInfo)) (last : Nat) : Array CpInfo := ⟨poolList es last⟩
def fileOf (pool : Array CpInfo) (this : Nat) (attrs : Array Attribute := #[]) (ms : Array MethodInfo := #[]) (fl : Nat := 33) (sup : Nat := 0) (ifs : Array Nat := #[]) (fds : Array FieldInfo := #[]) : ClassFile where
  minorVersion := 0
  majorVersion := 65
  constantPool := pool
  accessFlags := fl
  thisClass := this
  superClass := sup
  interfaces := ifs
  fields := fds
  methods := ms
  attributes := attrs
def plain (name : String) (sup : Option ClassId) : Class where
  name := name
  kind := .ordinary
  loader := none
  accessFlags := 33
  super := sup
  interfaces := #[]
  cf := none
  fields := #[]
  methods := #[]
  instanceTypes := #[]
  staticTypes := #[]
  resolved := #[]
  callSites := []
  init := .initialized
  statics := none
  mirror := none

def pool0 : Array CpInfo := pool [(5, u "<init>"), (0, u "()V"), (1, .class_ 10), (1, u "java/lang/Object")] 113

def k0c0 : Code := { maxStack := 0, maxLocals := 1, code := object_method_1_code, exceptionTable := #[], attributes := #[] }
def k0m0 : Method := { name := "<init>", desc := "()V", sig := { parameters := [], returnType := none }, accessFlags := 1, code := some k0c0 }
/-- java/lang/Object -/
def k0 : Class := { plain "java/lang/Object" none with
  accessFlags := 33
  interfaces := #[]
  cf := some (fileOf pool0 8 #[] #[{ accessFlags := 1, nameIndex := 5, descriptorIndex := 6, attributes := #[] }] 33 0 #[] #[])
  fields := #[]
  methods := #[k0m0]
  instanceTypes := #[]
  staticTypes := #[]
  resolved := Array.replicate 124 none
  statics := none }

def pool1 : Array CpInfo := pool [(2, .class_ 4), (1, u "java/lang/Object"), (0, u "<init>"), (0, u "()V"), (0, .methodref 8 9), (0, .class_ 10), (0, .nameAndType 11 12), (0, u "com/example/forget_by_time/forgetbytime/engine/TableNameEqualsPinLaw"), (0, u "mk"), (0, u "(ICC)Ljava/lang/String;"), (0, .class_ 14), (0, u "com/example/forget_by_time/forgetbytime/engine/TableName"), (0, .methodref 13 16), (0, .nameAndType 5 17), (0, u "(Ljava/lang/String;Ljava/lang/String;)V"), (0, .methodref 8 19), (0, .nameAndType 20 21), (0, u "same"), (0, u "(ICCICC)Z"), (0, .methodref 13 23), (0, .nameAndType 24 25), (0, u "equals"), (0, u "(Ljava/lang/Object;)Z"), (0, .class_ 27), (0, u "java/lang/String"), (0, .methodref 26 29), (0, .nameAndType 5 30), (0, u "([C)V"), (2, u "law"), (0, u "(IIIII)Z")] 3

def k1m0 : Method := { name := "<init>", desc := "()V", sig := { parameters := [], returnType := none }, accessFlags := 1, code := none }
def k1c1 : Code := { maxStack := 6, maxLocals := 25, code := code, exceptionTable := #[], attributes := #[] }
def k1m1 : Method := { name := "law", desc := "(IIIII)Z", sig := { parameters := [.int, .int, .int, .int, .int], returnType := some .boolean }, accessFlags := 9, code := some k1c1 }
def k1c2 : Code := { maxStack := 2, maxLocals := 6, code := method_3_code, exceptionTable := #[], attributes := #[] }
def k1m2 : Method := { name := "same", desc := "(ICCICC)Z", sig := { parameters := [.int, .char, .char, .int, .char, .char], returnType := some .boolean }, accessFlags := 10, code := some k1c2 }
def k1c3 : Code := { maxStack := 3, maxLocals := 4, code := method_4_code, exceptionTable := #[], attributes := #[] }
def k1m3 : Method := { name := "mk", desc := "(ICC)Ljava/lang/String;", sig := { parameters := [.int, .char, .char], returnType := some (.object "java/lang/String") }, accessFlags := 10, code := some k1c3 }
/-- com/example/forget_by_time/forgetbytime/engine/TableNameEqualsPinLaw -/
def k1 : Class := { plain "com/example/forget_by_time/forgetbytime/engine/TableNameEqualsPinLaw" (some 0) with
  accessFlags := 49
  interfaces := #[]
  cf := some (fileOf pool1 8 #[] #[{ accessFlags := 1, nameIndex := 5, descriptorIndex := 6, attributes := #[] }, { accessFlags := 9, nameIndex := 33, descriptorIndex := 34, attributes := #[] }, { accessFlags := 10, nameIndex := 20, descriptorIndex := 21, attributes := #[] }, { accessFlags := 10, nameIndex := 11, descriptorIndex := 12, attributes := #[] }] 49 2 #[] #[])
  fields := #[]
  methods := #[k1m0, k1m1, k1m2, k1m3]
  instanceTypes := #[]
  staticTypes := #[]
  resolved := Array.replicate 38 none
  statics := none }

def pool2 : Array CpInfo := pool [(1, .class_ 2), (0, u "java/io/Serializable"), (0, .class_ 4), (0, u "java/lang/Object")] 2

/-- java/io/Serializable -/
def k2 : Class := { plain "java/io/Serializable" (some 0) with
  accessFlags := 1537
  interfaces := #[]
  cf := some (fileOf pool2 1 #[] #[] 1537 3 #[] #[])
  fields := #[]
  methods := #[]
  instanceTypes := #[]
  staticTypes := #[]
  resolved := Array.replicate 7 none
  statics := none }

def pool3 : Array CpInfo := pool [(1, .class_ 2), (0, u "java/lang/Comparable"), (0, .class_ 4), (0, u "java/lang/Object")] 7

/-- java/lang/Comparable -/
def k3 : Class := { plain "java/lang/Comparable" (some 0) with
  accessFlags := 1537
  interfaces := #[]
  cf := some (fileOf pool3 1 #[] #[] 1537 3 #[] #[])
  fields := #[]
  methods := #[]
  instanceTypes := #[]
  staticTypes := #[]
  resolved := Array.replicate 12 none
  statics := none }

def pool4 : Array CpInfo := pool [(2, .class_ 4), (1, u "java/lang/CharSequence"), (42, .class_ 48), (0, u "java/lang/CharSequence$1CodePointIterator"), (10, .class_ 60), (0, u "java/lang/CharSequence$1CharIterator"), (5, .class_ 67), (0, u "java/lang/Object")] 63

/-- java/lang/CharSequence -/
def k4 : Class := { plain "java/lang/CharSequence" (some 0) with
  accessFlags := 1537
  interfaces := #[]
  cf := some (fileOf pool4 2 #[.nestMembers #[47, 59]] #[] 1537 66 #[] #[])
  fields := #[]
  methods := #[]
  instanceTypes := #[]
  staticTypes := #[]
  resolved := Array.replicate 131 none
  statics := none }

def pool5 : Array CpInfo := pool [(1, .class_ 2), (0, u "java/lang/constant/Constable"), (0, .class_ 4), (0, u "java/lang/Object")] 6

/-- java/lang/constant/Constable -/
def k5 : Class := { plain "java/lang/constant/Constable" (some 0) with
  accessFlags := 1537
  interfaces := #[]
  cf := some (fileOf pool5 1 #[] #[] 1537 3 #[] #[])
  fields := #[]
  methods := #[]
  instanceTypes := #[]
  staticTypes := #[]
  resolved := Array.replicate 11 none
  statics := none }

def pool6 : Array CpInfo := pool [(1, .class_ 2), (0, u "java/lang/constant/ConstantDesc"), (0, .class_ 4), (0, u "java/lang/Object")] 32

/-- java/lang/constant/ConstantDesc -/
def k6 : Class := { plain "java/lang/constant/ConstantDesc" (some 0) with
  accessFlags := 1537
  interfaces := #[]
  cf := some (fileOf pool6 1 #[] #[] 1537 3 #[] #[])
  fields := #[]
  methods := #[]
  instanceTypes := #[]
  staticTypes := #[]
  resolved := Array.replicate 37 none
  statics := none }

def pool7 : Array CpInfo := pool [(1, .methodref 2 3), (0, .class_ 4), (0, .nameAndType 5 6), (0, u "java/lang/Object"), (0, u "<init>"), (0, u "()V"), (0, .string 8), (0, u ""), (0, .fieldref 10 11), (0, .class_ 12), (0, .nameAndType 13 14), (0, u "java/lang/String"), (0, u "value"), (0, u "[B"), (0, .fieldref 10 16), (0, .nameAndType 17 18), (0, u "coder"), (0, u "B"), (2, u "hash"), (0, u "I"), (2, u "hashIsZero"), (0, u "Z"), (0, .methodref 10 28), (0, .nameAndType 5 29), (0, u "([CIILjava/lang/Void;)V"), (8, .fieldref 10 39), (0, .nameAndType 40 26), (0, u "COMPACT_STRINGS"), (1, .class_ 44), (1, u "java/lang/StringUTF16"), (0, u "compress"), (1, .methodref 42 48), (0, .nameAndType 49 50), (0, u "coderFromArrayLen"), (0, u "([BI)B"), (56, .class_ 109), (1, u "java/lang/StringLatin1"), (67, .methodref 42 178), (0, .nameAndType 45 179), (0, u "([CII)[B"), (361, .methodref 107 542), (0, .nameAndType 543 544), (0, u "equals"), (0, u "([B[B)Z"), (28, u "(Ljava/lang/Object;)Z"), (1, .class_ 576), (0, u "java/lang/CharSequence"), (22, u "CASE_INSENSITIVE_ORDER"), (0, u "Ljava/util/Comparator;"), (409, u "([C)V"), (90, u "serialPersistentFields"), (0, u "[Ljava/io/ObjectStreamField;"), (0, .class_ 1104), (0, u "java/lang/String$CaseInsensitiveComparator"), (1, .class_ 1107), (0, u "java/io/Serializable"), (0, .class_ 1109), (0, u "java/lang/Comparable"), (0, .class_ 1111), (0, u "java/lang/constant/Constable"), (0, .class_ 1113), (0, u "java/lang/constant/ConstantDesc"), (2, u "serialVersionUID"), (0, u "J"), (3, u "REPL"), (0, u "C"), (2, u "LATIN1"), (1, u "UTF16")] 323

def k7m0 : Method := { name := "<init>", desc := "()V", sig := { parameters := [], returnType := none }, accessFlags := 1, code := none }
def k7c1 : Code := { maxStack := 5, maxLocals := 2, code := jdk_42_method_3_code, exceptionTable := #[], attributes := #[] }
def k7m1 : Method := { name := "<init>", desc := "([C)V", sig := { parameters := [(.array .char)], returnType := none }, accessFlags := 1, code := some k7c1 }
def k7c2 : Code := { maxStack := 2, maxLocals := 3, code := jdk_42_method_66_code, exceptionTable := #[], attributes := #[] }
def k7m2 : Method := { name := "equals", desc := "(Ljava/lang/Object;)Z", sig := { parameters := [(.object "java/lang/Object")], returnType := some .boolean }, accessFlags := 1, code := some k7c2 }
def k7c3 : Code := { maxStack := 4, maxLocals := 6, code := jdk_42_method_149_code, exceptionTable := #[], attributes := #[] }
def k7m3 : Method := { name := "<init>", desc := "([CIILjava/lang/Void;)V", sig := { parameters := [(.array .char), .int, .int, (.object "java/lang/Void")], returnType := none }, accessFlags := 2, code := some k7c3 }
/-- java/lang/String -/
def k7 : Class := { plain "java/lang/String" (some 0) with
  accessFlags := 49
  interfaces := #[2, 3, 4, 5, 6]
  cf := some (fileOf pool7 10 #[.nestMembers #[1103]] #[{ accessFlags := 1, nameIndex := 5, descriptorIndex := 6, attributes := #[] }, { accessFlags := 1, nameIndex := 5, descriptorIndex := 1010, attributes := #[] }, { accessFlags := 1, nameIndex := 543, descriptorIndex := 573, attributes := #[] }, { accessFlags := 2, nameIndex := 5, descriptorIndex := 29, attributes := #[] }] 49 2 #[1106, 1108, 575, 1110, 1112] #[{ accessFlags := 18, nameIndex := 13, descriptorIndex := 14, attributes := #[] }, { accessFlags := 18, nameIndex := 17, descriptorIndex := 18, attributes := #[] }, { accessFlags := 2, nameIndex := 21, descriptorIndex := 22, attributes := #[] }, { accessFlags := 2, nameIndex := 25, descriptorIndex := 26, attributes := #[] }, { accessFlags := 26, nameIndex := 1116, descriptorIndex := 1117, attributes := #[] }, { accessFlags := 24, nameIndex := 40, descriptorIndex := 26, attributes := #[] }, { accessFlags := 26, nameIndex := 1101, descriptorIndex := 1102, attributes := #[] }, { accessFlags := 26, nameIndex := 1121, descriptorIndex := 1122, attributes := #[] }, { accessFlags := 25, nameIndex := 599, descriptorIndex := 600, attributes := #[] }, { accessFlags := 24, nameIndex := 1125, descriptorIndex := 18, attributes := #[] }, { accessFlags := 24, nameIndex := 1127, descriptorIndex := 18, attributes := #[] }])
  fields := #[{ name := "value", type := (.array .byte), accessFlags := 18, slot := 0, constantValue := 0 }, { name := "coder", type := .byte, accessFlags := 18, slot := 1, constantValue := 0 }, { name := "hash", type := .int, accessFlags := 2, slot := 2, constantValue := 0 }, { name := "hashIsZero", type := .boolean, accessFlags := 2, slot := 3, constantValue := 0 }, { name := "serialVersionUID", type := .long, accessFlags := 26, slot := 0, constantValue := 0 }, { name := "COMPACT_STRINGS", type := .boolean, accessFlags := 24, slot := 1, constantValue := 0 }, { name := "serialPersistentFields", type := (.array (.object "java/io/ObjectStreamField")), accessFlags := 26, slot := 2, constantValue := 0 }, { name := "REPL", type := .char, accessFlags := 26, slot := 3, constantValue := 0 }, { name := "CASE_INSENSITIVE_ORDER", type := (.object "java/util/Comparator"), accessFlags := 25, slot := 4, constantValue := 0 }, { name := "LATIN1", type := .byte, accessFlags := 24, slot := 5, constantValue := 0 }, { name := "UTF16", type := .byte, accessFlags := 24, slot := 6, constantValue := 0 }]
  methods := #[k7m0, k7m1, k7m2, k7m3]
  instanceTypes := #[(.array .byte), .byte, .int, .boolean]
  staticTypes := #[.long, .boolean, (.array (.object "java/io/ObjectStreamField")), .char, (.object "java/util/Comparator"), .byte, .byte]
  resolved := Array.replicate 1451 none
  statics := some 0 }

def pool8 : Array CpInfo := pool [(1, .methodref 2 3), (0, .class_ 4), (0, .nameAndType 5 6), (0, u "java/lang/Object"), (0, u "<init>"), (0, u "()V"), (0, .string 8), (0, u "schema"), (0, .methodref 10 11), (0, .class_ 12), (0, .nameAndType 13 14), (0, u "java/util/Objects"), (0, u "requireNonNull"), (0, u "(Ljava/lang/Object;Ljava/lang/String;)Ljava/lang/Object;"), (0, .class_ 16), (0, u "java/lang/String"), (0, .fieldref 18 19), (0, .class_ 20), (0, .nameAndType 8 21), (0, u "com/example/forget_by_time/forgetbytime/engine/TableName"), (0, u "Ljava/lang/String;"), (0, .string 23), (0, u "name"), (0, .fieldref 18 25), (0, .nameAndType 23 21), (2, u "ORDER"), (0, u "Ljava/util/Comparator;"), (6, .methodref 15 37), (0, .nameAndType 38 39), (0, u "equals"), (0, u "(Ljava/lang/Object;)Z"), (24, .class_ 65), (0, u "java/lang/Comparable"), (2, u "(Ljava/lang/String;Ljava/lang/String;)V")] 45

def k8c0 : Code := { maxStack := 3, maxLocals := 3, code := prog_13_method_1_code, exceptionTable := #[], attributes := #[] }
def k8m0 : Method := { name := "<init>", desc := "(Ljava/lang/String;Ljava/lang/String;)V", sig := { parameters := [(.object "java/lang/String"), (.object "java/lang/String")], returnType := none }, accessFlags := 1, code := some k8c0 }
def k8c1 : Code := { maxStack := 2, maxLocals := 2, code := prog_13_method_5_code, exceptionTable := #[], attributes := #[] }
def k8m1 : Method := { name := "equals", desc := "(Ljava/lang/Object;)Z", sig := { parameters := [(.object "java/lang/Object")], returnType := some .boolean }, accessFlags := 1, code := some k8c1 }
/-- com/example/forget_by_time/forgetbytime/engine/TableName -/
def k8 : Class := { plain "com/example/forget_by_time/forgetbytime/engine/TableName" (some 0) with
  accessFlags := 33
  interfaces := #[3]
  cf := some (fileOf pool8 18 #[] #[{ accessFlags := 1, nameIndex := 5, descriptorIndex := 68, attributes := #[] }, { accessFlags := 1, nameIndex := 38, descriptorIndex := 39, attributes := #[] }] 33 2 #[64] #[{ accessFlags := 26, nameIndex := 28, descriptorIndex := 29, attributes := #[] }, { accessFlags := 18, nameIndex := 8, descriptorIndex := 21, attributes := #[] }, { accessFlags := 18, nameIndex := 23, descriptorIndex := 21, attributes := #[] }])
  fields := #[{ name := "ORDER", type := (.object "java/util/Comparator"), accessFlags := 26, slot := 0, constantValue := 0 }, { name := "schema", type := (.object "java/lang/String"), accessFlags := 18, slot := 0, constantValue := 0 }, { name := "name", type := (.object "java/lang/String"), accessFlags := 18, slot := 1, constantValue := 0 }]
  methods := #[k8m0, k8m1]
  instanceTypes := #[(.object "java/lang/String"), (.object "java/lang/String")]
  staticTypes := #[(.object "java/util/Comparator")]
  resolved := Array.replicate 114 none
  statics := none }

def pool9 : Array CpInfo := pool [(2, .class_ 4), (1, u "java/lang/Object"), (0, u "<init>"), (0, u "()V"), (35, .class_ 44), (1, u "java/util/Objects"), (0, u "requireNonNull"), (48, u "(Ljava/lang/Object;Ljava/lang/String;)Ljava/lang/Object;")] 89

def k9m0 : Method := { name := "<init>", desc := "()V", sig := { parameters := [], returnType := none }, accessFlags := 2, code := none }
def k9c1 : Code := { maxStack := 3, maxLocals := 2, code := jdk_31_method_11_code, exceptionTable := #[], attributes := #[] }
def k9m1 : Method := { name := "requireNonNull", desc := "(Ljava/lang/Object;Ljava/lang/String;)Ljava/lang/Object;", sig := { parameters := [(.object "java/lang/Object"), (.object "java/lang/String")], returnType := some (.object "java/lang/Object") }, accessFlags := 9, code := some k9c1 }
/-- java/util/Objects -/
def k9 : Class := { plain "java/util/Objects" (some 0) with
  accessFlags := 49
  interfaces := #[]
  cf := some (fileOf pool9 42 #[] #[{ accessFlags := 2, nameIndex := 5, descriptorIndex := 6, attributes := #[] }, { accessFlags := 9, nameIndex := 45, descriptorIndex := 94, attributes := #[] }] 49 2 #[] #[])
  fields := #[]
  methods := #[k9m0, k9m1]
  instanceTypes := #[]
  staticTypes := #[]
  resolved := Array.replicate 184 none
  statics := none }

def pool10 : Array CpInfo := pool [(4, .class_ 6), (1, u "java/lang/Object"), (0, u "<init>"), (0, u "()V"), (5, .class_ 16), (1, u "java/lang/StringLatin1"), (104, u "$assertionsDisabled"), (0, u "Z"), (98, .class_ 223), (1, u "java/lang/StringLatin1$LinesSpliterator"), (57, u "equals"), (0, u "([B[B)Z"), (107, .class_ 391), (0, u "java/lang/StringLatin1$CharsSpliterator")] 3

def k10m0 : Method := { name := "<init>", desc := "()V", sig := { parameters := [], returnType := none }, accessFlags := 0, code := none }
def k10c1 : Code := { maxStack := 3, maxLocals := 3, code := jdk_43_method_13_code, exceptionTable := #[], attributes := #[] }
def k10m1 : Method := { name := "equals", desc := "([B[B)Z", sig := { parameters := [(.array .byte), (.array .byte)], returnType := some .boolean }, accessFlags := 9, code := some k10c1 }
/-- java/lang/StringLatin1 -/
def k10 : Class := { plain "java/lang/StringLatin1" (some 0) with
  accessFlags := 48
  interfaces := #[]
  cf := some (fileOf pool10 14 #[.nestMembers #[390, 221]] #[{ accessFlags := 0, nameIndex := 7, descriptorIndex := 8, attributes := #[] }, { accessFlags := 9, nameIndex := 281, descriptorIndex := 282, attributes := #[] }] 48 4 #[] #[{ accessFlags := 4120, nameIndex := 121, descriptorIndex := 122, attributes := #[] }])
  fields := #[{ name := "$assertionsDisabled", type := .boolean, accessFlags := 4120, slot := 0, constantValue := 0 }]
  methods := #[k10m0, k10m1]
  instanceTypes := #[]
  staticTypes := #[.boolean]
  resolved := Array.replicate 395 none
  statics := none }

def pool11 : Array CpInfo := pool [(6, .class_ 8), (1, u "java/lang/Object"), (0, u "<init>"), (0, u "()V"), (1, .class_ 14), (1, u "java/lang/StringUTF16"), (31, u "$assertionsDisabled"), (0, u "Z"), (13, u "HI_BYTE_SHIFT"), (0, u "I"), (2, u "LO_BYTE_SHIFT"), (49, .methodref 12 116), (0, .nameAndType 117 118), (0, u "compress"), (0, u "([CI[BII)I"), (3, u "([CII)[B"), (138, u "coderFromArrayLen"), (0, u "([BI)B"), (106, .class_ 371), (1, u "java/lang/StringUTF16$LinesSpliterator"), (58, u "MAX_LENGTH"), (196, .class_ 628), (0, u "java/lang/StringUTF16$CodePointsSpliterator"), (0, .class_ 630), (0, u "java/lang/StringUTF16$CharsSpliterator")] 4

def k11m0 : Method := { name := "<init>", desc := "()V", sig := { parameters := [], returnType := none }, accessFlags := 0, code := none }
def k11c1 : Code := { maxStack := 2, maxLocals := 2, code := jdk_52_method_15_code, exceptionTable := #[], attributes := #[] }
def k11m1 : Method := { name := "coderFromArrayLen", desc := "([BI)B", sig := { parameters := [(.array .byte), .int], returnType := some .byte }, accessFlags := 8, code := some k11c1 }
def k11c2 : Code := { maxStack := 5, maxLocals := 6, code := jdk_52_method_16_code, exceptionTable := #[], attributes := #[] }
def k11m2 : Method := { name := "compress", desc := "([CII)[B", sig := { parameters := [(.array .char), .int, .int], returnType := some (.array .byte) }, accessFlags := 9, code := some k11c2 }
def k11c3 : Code := { maxStack := 3, maxLocals := 7, code := jdk_52_method_21_code, exceptionTable := #[], attributes := #[] }
def k11m3 : Method := { name := "compress", desc := "([CI[BII)I", sig := { parameters := [(.array .char), .int, (.array .byte), .int, .int], returnType := some .int }, accessFlags := 9, code := some k11c3 }
/-- java/lang/StringUTF16 -/
def k11 : Class := { plain "java/lang/StringUTF16" (some 0) with
  accessFlags := 48
  interfaces := #[]
  cf := some (fileOf pool11 12 #[.nestMembers #[627, 629, 369]] #[{ accessFlags := 0, nameIndex := 9, descriptorIndex := 10, attributes := #[] }, { accessFlags := 8, nameIndex := 261, descriptorIndex := 262, attributes := #[] }, { accessFlags := 9, nameIndex := 117, descriptorIndex := 122, attributes := #[] }, { accessFlags := 9, nameIndex := 117, descriptorIndex := 118, attributes := #[] }] 48 6 #[] #[{ accessFlags := 26, nameIndex := 61, descriptorIndex := 62, attributes := #[] }, { accessFlags := 26, nameIndex := 65, descriptorIndex := 62, attributes := #[] }, { accessFlags := 24, nameIndex := 430, descriptorIndex := 62, attributes := #[] }, { accessFlags := 4120, nameIndex := 46, descriptorIndex := 47, attributes := #[] }])
  fields := #[{ name := "HI_BYTE_SHIFT", type := .int, accessFlags := 26, slot := 0, constantValue := 0 }, { name := "LO_BYTE_SHIFT", type := .int, accessFlags := 26, slot := 1, constantValue := 0 }, { name := "MAX_LENGTH", type := .int, accessFlags := 24, slot := 2, constantValue := 0 }, { name := "$assertionsDisabled", type := .boolean, accessFlags := 4120, slot := 3, constantValue := 0 }]
  methods := #[k11m0, k11m1, k11m2, k11m3]
  instanceTypes := #[]
  staticTypes := #[.int, .int, .int, .boolean]
  resolved := Array.replicate 635 none
  statics := none }

def pool12 : Array CpInfo := pool [(2, .class_ 4), (1, u "java/lang/Object"), (0, u "<init>"), (0, u "()V"), (17, .class_ 26), (1, u "jdk/internal/util/Preconditions"), (28, .class_ 56), (0, u "jdk/internal/util/Preconditions$4"), (57, .class_ 115), (0, u "jdk/internal/util/Preconditions$1"), (7, u "SIOOBE_FORMATTER"), (0, u "Ljava/util/function/BiFunction;"), (0, .class_ 126), (0, u "jdk/internal/util/Preconditions$2"), (3, u "AIOOBE_FORMATTER"), (0, .class_ 132), (0, u "jdk/internal/util/Preconditions$3"), (3, u "IOOBE_FORMATTER")] 57

def k12m0 : Method := { name := "<init>", desc := "()V", sig := { parameters := [], returnType := none }, accessFlags := 1, code := none }
/-- jdk/internal/util/Preconditions -/
def k12 : Class := { plain "jdk/internal/util/Preconditions" (some 0) with
  accessFlags := 33
  interfaces := #[]
  cf := some (fileOf pool12 24 #[.nestMembers #[55, 131, 125, 114]] #[{ accessFlags := 1, nameIndex := 5, descriptorIndex := 6, attributes := #[] }] 33 2 #[] #[{ accessFlags := 25, nameIndex := 123, descriptorIndex := 124, attributes := #[] }, { accessFlags := 25, nameIndex := 130, descriptorIndex := 124, attributes := #[] }, { accessFlags := 25, nameIndex := 136, descriptorIndex := 124, attributes := #[] }])
  fields := #[{ name := "SIOOBE_FORMATTER", type := (.object "java/util/function/BiFunction"), accessFlags := 25, slot := 0, constantValue := 0 }, { name := "AIOOBE_FORMATTER", type := (.object "java/util/function/BiFunction"), accessFlags := 25, slot := 1, constantValue := 0 }, { name := "IOOBE_FORMATTER", type := (.object "java/util/function/BiFunction"), accessFlags := 25, slot := 2, constantValue := 0 }]
  methods := #[k12m0]
  instanceTypes := #[]
  staticTypes := #[(.object "java/util/function/BiFunction"), (.object "java/util/function/BiFunction"), (.object "java/util/function/BiFunction")]
  resolved := Array.replicate 194 none
  statics := some 1 }

def pool13 : Array CpInfo := pool [(9, u "<init>"), (6, .class_ 18), (1, u "java/lang/Object"), (0, u "()V"), (1, .class_ 23), (1, u "jdk/internal/util/ArraysSupport"), (0, u "LOG2_ARRAY_LONG_INDEX_SCALE"), (0, u "I"), (2, u "U"), (0, u "Ljdk/internal/misc/Unsafe;"), (8, u "BIG_ENDIAN"), (0, u "Z"), (8, u "LOG2_BYTE_BIT_SIZE"), (4, u "LOG2_ARRAY_INT_INDEX_SCALE"), (54, u "JLA"), (0, u "Ljdk/internal/access/JavaLangAccess;"), (11, u "LOG2_ARRAY_BOOLEAN_INDEX_SCALE"), (9, u "LOG2_ARRAY_BYTE_INDEX_SCALE"), (5, u "LOG2_ARRAY_CHAR_INDEX_SCALE"), (5, u "LOG2_ARRAY_SHORT_INDEX_SCALE"), (18, u "LOG2_ARRAY_FLOAT_INDEX_SCALE"), (24, u "LOG2_ARRAY_DOUBLE_INDEX_SCALE"), (89, u "T_BOOLEAN"), (2, u "T_CHAR"), (1, u "T_FLOAT"), (1, u "T_DOUBLE"), (1, u "T_BYTE"), (1, u "T_SHORT"), (1, u "T_INT"), (1, u "T_LONG"), (1, u "SOFT_MAX_ARRAY_LENGTH")] 83

def k13m0 : Method := { name := "<init>", desc := "()V", sig := { parameters := [], returnType := none }, accessFlags := 2, code := none }
/-- jdk/internal/util/ArraysSupport -/
def k13 : Class := { plain "jdk/internal/util/ArraysSupport" (some 0) with
  accessFlags := 33
  interfaces := #[]
  cf := some (fileOf pool13 21 #[] #[{ accessFlags := 2, nameIndex := 9, descriptorIndex := 19, attributes := #[] }] 33 16 #[] #[{ accessFlags := 24, nameIndex := 28, descriptorIndex := 29, attributes := #[] }, { accessFlags := 26, nameIndex := 38, descriptorIndex := 39, attributes := #[] }, { accessFlags := 25, nameIndex := 121, descriptorIndex := 25, attributes := #[] }, { accessFlags := 25, nameIndex := 131, descriptorIndex := 25, attributes := #[] }, { accessFlags := 25, nameIndex := 137, descriptorIndex := 25, attributes := #[] }, { accessFlags := 25, nameIndex := 143, descriptorIndex := 25, attributes := #[] }, { accessFlags := 25, nameIndex := 53, descriptorIndex := 25, attributes := #[] }, { accessFlags := 25, nameIndex := 24, descriptorIndex := 25, attributes := #[] }, { accessFlags := 25, nameIndex := 162, descriptorIndex := 25, attributes := #[] }, { accessFlags := 25, nameIndex := 187, descriptorIndex := 25, attributes := #[] }, { accessFlags := 26, nameIndex := 48, descriptorIndex := 25, attributes := #[] }, { accessFlags := 25, nameIndex := 277, descriptorIndex := 25, attributes := #[] }, { accessFlags := 25, nameIndex := 280, descriptorIndex := 25, attributes := #[] }, { accessFlags := 25, nameIndex := 282, descriptorIndex := 25, attributes := #[] }, { accessFlags := 25, nameIndex := 284, descriptorIndex := 25, attributes := #[] }, { accessFlags := 25, nameIndex := 286, descriptorIndex := 25, attributes := #[] }, { accessFlags := 25, nameIndex := 288, descriptorIndex := 25, attributes := #[] }, { accessFlags := 25, nameIndex := 290, descriptorIndex := 25, attributes := #[] }, { accessFlags := 25, nameIndex := 292, descriptorIndex := 25, attributes := #[] }, { accessFlags := 26, nameIndex := 108, descriptorIndex := 109, attributes := #[] }, { accessFlags := 25, nameIndex := 294, descriptorIndex := 25, attributes := #[] }])
  fields := #[{ name := "U", type := (.object "jdk/internal/misc/Unsafe"), accessFlags := 24, slot := 0, constantValue := 0 }, { name := "BIG_ENDIAN", type := .boolean, accessFlags := 26, slot := 1, constantValue := 0 }, { name := "LOG2_ARRAY_BOOLEAN_INDEX_SCALE", type := .int, accessFlags := 25, slot := 2, constantValue := 0 }, { name := "LOG2_ARRAY_BYTE_INDEX_SCALE", type := .int, accessFlags := 25, slot := 3, constantValue := 0 }, { name := "LOG2_ARRAY_CHAR_INDEX_SCALE", type := .int, accessFlags := 25, slot := 4, constantValue := 0 }, { name := "LOG2_ARRAY_SHORT_INDEX_SCALE", type := .int, accessFlags := 25, slot := 5, constantValue := 0 }, { name := "LOG2_ARRAY_INT_INDEX_SCALE", type := .int, accessFlags := 25, slot := 6, constantValue := 0 }, { name := "LOG2_ARRAY_LONG_INDEX_SCALE", type := .int, accessFlags := 25, slot := 7, constantValue := 0 }, { name := "LOG2_ARRAY_FLOAT_INDEX_SCALE", type := .int, accessFlags := 25, slot := 8, constantValue := 0 }, { name := "LOG2_ARRAY_DOUBLE_INDEX_SCALE", type := .int, accessFlags := 25, slot := 9, constantValue := 0 }, { name := "LOG2_BYTE_BIT_SIZE", type := .int, accessFlags := 26, slot := 10, constantValue := 0 }, { name := "T_BOOLEAN", type := .int, accessFlags := 25, slot := 11, constantValue := 0 }, { name := "T_CHAR", type := .int, accessFlags := 25, slot := 12, constantValue := 0 }, { name := "T_FLOAT", type := .int, accessFlags := 25, slot := 13, constantValue := 0 }, { name := "T_DOUBLE", type := .int, accessFlags := 25, slot := 14, constantValue := 0 }, { name := "T_BYTE", type := .int, accessFlags := 25, slot := 15, constantValue := 0 }, { name := "T_SHORT", type := .int, accessFlags := 25, slot := 16, constantValue := 0 }, { name := "T_INT", type := .int, accessFlags := 25, slot := 17, constantValue := 0 }, { name := "T_LONG", type := .int, accessFlags := 25, slot := 18, constantValue := 0 }, { name := "JLA", type := (.object "jdk/internal/access/JavaLangAccess"), accessFlags := 26, slot := 19, constantValue := 0 }, { name := "SOFT_MAX_ARRAY_LENGTH", type := .int, accessFlags := 25, slot := 20, constantValue := 0 }]
  methods := #[k13m0]
  instanceTypes := #[]
  staticTypes := #[(.object "jdk/internal/misc/Unsafe"), .boolean, .int, .int, .int, .int, .int, .int, .int, .int, .int, .int, .int, .int, .int, .int, .int, .int, .int, (.object "jdk/internal/access/JavaLangAccess"), .int]
  resolved := Array.replicate 378 none
  statics := none }

def pool14 : Array CpInfo := pool [(1, u "java/lang/Cloneable"), (0, .class_ 1), (0, u "java/lang/Object"), (0, .class_ 3)] 3

/-- java/lang/Cloneable -/
def k14 : Class := { plain "java/lang/Cloneable" (some 0) with
  accessFlags := 1537
  interfaces := #[]
  cf := some (fileOf pool14 2 #[] #[] 1537 4 #[] #[])
  fields := #[]
  methods := #[]
  instanceTypes := #[]
  staticTypes := #[]
  resolved := Array.replicate 8 none
  statics := none }

/-- the primitive byte -/
def k15 : Class := { plain "byte" none with kind := .primitive 'B', accessFlags := 0x411 }
/-- [B -/
def k16 : Class := { plain "[B" (some 0) with kind := .array 15 .byte, interfaces := #[14, 2], accessFlags := 1041 }

/-- the primitive char -/
def k17 : Class := { plain "char" none with kind := .primitive 'C', accessFlags := 0x411 }
/-- [C -/
def k18 : Class := { plain "[C" (some 0) with kind := .array 17 .char, interfaces := #[14, 2], accessFlags := 1041 }

/-- the primitive int -/
def k19 : Class := { plain "int" none with kind := .primitive 'I', accessFlags := 0x411 }
/-- [I -/
def k20 : Class := { plain "[I" (some 0) with kind := .array 19 .int, interfaces := #[14, 2], accessFlags := 1041 }

def heap : Heap := #[{ cls := 7, slots := #[.long 0, .int 1, .null, .int 0, .null, .int 0, .int 0], vm := .statics 7 },
  { cls := 12, slots := #[.null, .null, .null], vm := .statics 12 }]
def classes : Array Class := #[k0, k1, k2, k3, k4, k5, k6, k7, k8, k9, k10, k11, k12, k13, k14, k15, k16, k17, k18, k19, k20]
def interned : List (Array UInt16 × Addr) := []
def slotsUsed : Nat := 10
def theMethod : MethodId := ⟨1, 1⟩
def args0 : Array Value := #[.int 1, .int 66, .int 7, .int 8, .int 9]
def aboutOver (below : List Frame) : State where
  vm := { classes := classes, interned := interned.toArray }
  heap := heap
  slotsUsed := slotsUsed
  threads := #[{ frames := .invoking theMethod args0 :: below }]
def below0 : List Frame := [.native { method := ⟨0, 0⟩, args := #[] }]
def about1 : State := aboutOver below0
def p0 : Program := .bare "" "" ""
def e0 : Env := launch0.env 0 0 0
theorem w_frames : about1.frames = Frame.invoking theMethod args0 :: below0 := rfl
set_option maxRecDepth 65536 in
theorem w_args : argsFit about1.vm theMethod args0 = true := by decide +kernel
set_option maxRecDepth 65536 in
theorem w_heap : heapFits about1 = true := by decide +kernel
set_option maxRecDepth 65536 in
theorem w_runnable : about1.curStatus? = some .runnable := by decide +kernel
set_option maxRecDepth 65536 in
theorem w_alone : about1.alone = true := by decide +kernel
set_option maxRecDepth 65536 in
theorem w_named : about1.methodNamed? x = some theMethod := by decide +kernel
set_option maxRecDepth 65536 in
theorem w_hears : about1.hears theMethod below0 = true := by decide +kernel
set_option maxRecDepth 65536 in
theorem w_ripe : about1.ripe theMethod args0 below0 = true := by decide +kernel
theorem w_running : about1.status = .running := rfl
set_option maxRecDepth 65536 in
theorem w_room : about1.hasRoom e0.platform room_1 = true :=
  launch0.hasRoom_least _ room_1 (by decide +kernel) (by decide +kernel) (by decide +kernel) (by decide +kernel) (by decide +kernel) (by decide +kernel)
theorem allAtoms_all (ts : List Jvm.Cond) (a : Array Jvm.Value) (st : Jvm.State) : (allAtoms ts).before a st = ts.all (fun c => c.before a st) := by
  induction ts with
  | nil => rfl
  | cons c t ih =>
    show (Jvm.Cond.and c (allAtoms t)).before a st = _
    rw [Jvm.Cond.before_and, ih, List.all_cons]
def words1 : List Jvm.Cond := Jvm.Cond.code x code maxLocals ret :: tables_1
/-- a 'code' word, met by the world's own term for the bytes: nothing is compared byte by byte -/
theorem code_word {y : MethodName} {bytes : ByteArray} {mx : Nat} {rt : Option FieldType} {a : Array Value} {s : State} {m : MethodId} {meth : Method} {c : Code} (h1 : s.methodNamed? y = some m) (h2 : s.vm.method? m = some meth) (h3 : meth.code = some c) (h4 : c.code = bytes)
    (h5 : (c.maxLocals == mx && c.exceptionTable.isEmpty && decide (c.maxStack ≤ mostOperands) && decide (meth.sig.returnType = rt) && !meth.locks && decide (parseMethodDescriptor y.desc = some meth.sig)) = true) : (Jvm.Cond.code y bytes mx rt).before a s = true := by
  simp only [Bool.and_eq_true, beq_iff_eq, Bool.not_eq_true', decide_eq_true_eq] at h5
  obtain ⟨⟨⟨⟨⟨g1, g2⟩, g3⟩, g4⟩, g5⟩, g6⟩ := h5
  simp [Cond.before, Cond.holds, Cond.value, h1, h2, h3, h4, g1, g2, g3, g4, g5, g6]
def isCode : Jvm.Cond → Bool
  | .code _ _ _ _ => true
  | _ => false
theorem all_split {L : List Jvm.Cond} {P : Jvm.Cond → Bool} (h1 : L.all (fun c => isCode c || P c) = true) (h2 : ∀ c ∈ L.filter isCode, P c = true) : L.all P = true := by
  refine List.all_eq_true.mpr fun c hc => ?_
  have h := List.all_eq_true.mp h1 c hc
  rcases Bool.eq_false_or_eq_true (isCode c) with hi | hi
  · exact h2 c (List.mem_filter.mpr ⟨hc, hi⟩)
  · simpa [hi] using h
set_option maxRecDepth 65536 in
theorem w_c0 : (Jvm.Cond.code x code maxLocals ret).before args0 about1 = true := code_word (m := ⟨1, 1⟩) (meth := k1m1) (c := k1c1) (by decide +kernel) rfl rfl rfl (by decide +kernel)
set_option maxRecDepth 65536 in
theorem w_c1 : (Jvm.Cond.code ({ cls := "com/example/forget_by_time/forgetbytime/engine/TableNameEqualsPinLaw", name := "mk", desc := "(ICC)Ljava/lang/String;" } : Jvm.MethodName) method_4_code (4 : Nat) (Option.some (Jvm.ClassFile.FieldType.object "java/lang/String"))).before args0 about1 = true := code_word (m := ⟨1, 3⟩) (meth := k1m3) (c := k1c3) (by decide +kernel) rfl rfl rfl (by decide +kernel)
set_option maxRecDepth 65536 in
theorem w_c2 : (Jvm.Cond.code ({ cls := "java/lang/String", name := "<init>", desc := "([C)V" } : Jvm.MethodName) jdk_42_method_3_code (2 : Nat) (Option.none : Option Jvm.ClassFile.FieldType)).before args0 about1 = true := code_word (m := ⟨7, 1⟩) (meth := k7m1) (c := k7c1) (by decide +kernel) rfl rfl rfl (by decide +kernel)
set_option maxRecDepth 65536 in
theorem w_c3 : (Jvm.Cond.code ({ cls := "java/lang/String", name := "<init>", desc := "([CIILjava/lang/Void;)V" } : Jvm.MethodName) jdk_42_method_149_code (6 : Nat) (Option.none : Option Jvm.ClassFile.FieldType)).before args0 about1 = true := code_word (m := ⟨7, 3⟩) (meth := k7m3) (c := k7c3) (by decide +kernel) rfl rfl rfl (by decide +kernel)
set_option maxRecDepth 65536 in
theorem w_c4 : (Jvm.Cond.code ({ cls := "java/lang/Object", name := "<init>", desc := "()V" } : Jvm.MethodName) object_method_1_code (1 : Nat) (Option.none : Option Jvm.ClassFile.FieldType)).before args0 about1 = true := code_word (m := ⟨0, 0⟩) (meth := k0m0) (c := k0c0) (by decide +kernel) rfl rfl rfl (by decide +kernel)
set_option maxRecDepth 65536 in
theorem w_c5 : (Jvm.Cond.code ({ cls := "com/example/forget_by_time/forgetbytime/engine/TableName", name := "<init>", desc := "(Ljava/lang/String;Ljava/lang/String;)V" } : Jvm.MethodName) prog_13_method_1_code (3 : Nat) (Option.none : Option Jvm.ClassFile.FieldType)).before args0 about1 = true := code_word (m := ⟨8, 0⟩) (meth := k8m0) (c := k8c0) (by decide +kernel) rfl rfl rfl (by decide +kernel)
set_option maxRecDepth 65536 in
theorem w_c6 : (Jvm.Cond.code ({ cls := "java/util/Objects", name := "requireNonNull", desc := "(Ljava/lang/Object;Ljava/lang/String;)Ljava/lang/Object;" } : Jvm.MethodName) jdk_31_method_11_code (2 : Nat) (Option.some (Jvm.ClassFile.FieldType.object "java/lang/Object"))).before args0 about1 = true := code_word (m := ⟨9, 1⟩) (meth := k9m1) (c := k9c1) (by decide +kernel) rfl rfl rfl (by decide +kernel)
set_option maxRecDepth 65536 in
theorem w_c7 : (Jvm.Cond.code ({ cls := "com/example/forget_by_time/forgetbytime/engine/TableNameEqualsPinLaw", name := "same", desc := "(ICCICC)Z" } : Jvm.MethodName) method_3_code (6 : Nat) (Option.some Jvm.ClassFile.FieldType.boolean)).before args0 about1 = true := code_word (m := ⟨1, 2⟩) (meth := k1m2) (c := k1c2) (by decide +kernel) rfl rfl rfl (by decide +kernel)
set_option maxRecDepth 65536 in
theorem w_c8 : (Jvm.Cond.code ({ cls := "com/example/forget_by_time/forgetbytime/engine/TableName", name := "equals", desc := "(Ljava/lang/Object;)Z" } : Jvm.MethodName) prog_13_method_5_code (2 : Nat) (Option.some Jvm.ClassFile.FieldType.boolean)).before args0 about1 = true := code_word (m := ⟨8, 1⟩) (meth := k8m1) (c := k8c1) (by decide +kernel) rfl rfl rfl (by decide +kernel)
set_option maxRecDepth 65536 in
theorem w_c9 : (Jvm.Cond.code ({ cls := "java/lang/String", name := "equals", desc := "(Ljava/lang/Object;)Z" } : Jvm.MethodName) jdk_42_method_66_code (3 : Nat) (Option.some Jvm.ClassFile.FieldType.boolean)).before args0 about1 = true := code_word (m := ⟨7, 2⟩) (meth := k7m2) (c := k7c2) (by decide +kernel) rfl rfl rfl (by decide +kernel)
set_option maxRecDepth 65536 in
theorem w_c10 : (Jvm.Cond.code ({ cls := "java/lang/StringLatin1", name := "equals", desc := "([B[B)Z" } : Jvm.MethodName) jdk_43_method_13_code (3 : Nat) (Option.some Jvm.ClassFile.FieldType.boolean)).before args0 about1 = true := code_word (m := ⟨10, 1⟩) (meth := k10m1) (c := k10c1) (by decide +kernel) rfl rfl rfl (by decide +kernel)
set_option maxRecDepth 65536 in
theorem w_c11 : (Jvm.Cond.code ({ cls := "java/lang/StringUTF16", name := "compress", desc := "([CII)[B" } : Jvm.MethodName) jdk_52_method_16_code (6 : Nat) (Option.some (Jvm.ClassFile.FieldType.array Jvm.ClassFile.FieldType.byte))).before args0 about1 = true := code_word (m := ⟨11, 2⟩) (meth := k11m2) (c := k11c2) (by decide +kernel) rfl rfl rfl (by decide +kernel)
set_option maxRecDepth 65536 in
theorem w_c12 : (Jvm.Cond.code ({ cls := "java/lang/StringUTF16", name := "compress", desc := "([CI[BII)I" } : Jvm.MethodName) jdk_52_method_21_code (7 : Nat) (Option.some Jvm.ClassFile.FieldType.int)).before args0 about1 = true := code_word (m := ⟨11, 3⟩) (meth := k11m3) (c := k11c3) (by decide +kernel) rfl rfl rfl (by decide +kernel)
set_option maxRecDepth 65536 in
theorem w_c13 : (Jvm.Cond.code ({ cls := "java/lang/StringUTF16", name := "coderFromArrayLen", desc := "([BI)B" } : Jvm.MethodName) jdk_52_method_15_code (2 : Nat) (Option.some Jvm.ClassFile.FieldType.byte)).before args0 about1 = true := code_word (m := ⟨11, 1⟩) (meth := k11m1) (c := k11c1) (by decide +kernel) rfl rfl rfl (by decide +kernel)
def codes1 : List Jvm.Cond := [Jvm.Cond.code x code maxLocals ret, Jvm.Cond.code ({ cls := "com/example/forget_by_time/forgetbytime/engine/TableNameEqualsPinLaw", name := "mk", desc := "(ICC)Ljava/lang/String;" } : Jvm.MethodName) method_4_code (4 : Nat) (Option.some (Jvm.ClassFile.FieldType.object "java/lang/String")), Jvm.Cond.code ({ cls := "java/lang/String", name := "<init>", desc := "([C)V" } : Jvm.MethodName) jdk_42_method_3_code (2 : Nat) (Option.none : Option Jvm.ClassFile.FieldType), Jvm.Cond.code ({ cls := "java/lang/String", name := "<init>", desc := "([CIILjava/lang/Void;)V" } : Jvm.MethodName) jdk_42_method_149_code (6 : Nat) (Option.none : Option Jvm.ClassFile.FieldType), Jvm.Cond.code ({ cls := "java/lang/Object", name := "<init>", desc := "()V" } : Jvm.MethodName) object_method_1_code (1 : Nat) (Option.none : Option Jvm.ClassFile.FieldType), Jvm.Cond.code ({ cls := "com/example/forget_by_time/forgetbytime/engine/TableName", name := "<init>", desc := "(Ljava/lang/String;Ljava/lang/String;)V" } : Jvm.MethodName) prog_13_method_1_code (3 : Nat) (Option.none : Option Jvm.ClassFile.FieldType), Jvm.Cond.code ({ cls := "java/util/Objects", name := "requireNonNull", desc := "(Ljava/lang/Object;Ljava/lang/String;)Ljava/lang/Object;" } : Jvm.MethodName) jdk_31_method_11_code (2 : Nat) (Option.some (Jvm.ClassFile.FieldType.object "java/lang/Object")), Jvm.Cond.code ({ cls := "com/example/forget_by_time/forgetbytime/engine/TableNameEqualsPinLaw", name := "same", desc := "(ICCICC)Z" } : Jvm.MethodName) method_3_code (6 : Nat) (Option.some Jvm.ClassFile.FieldType.boolean), Jvm.Cond.code ({ cls := "com/example/forget_by_time/forgetbytime/engine/TableName", name := "equals", desc := "(Ljava/lang/Object;)Z" } : Jvm.MethodName) prog_13_method_5_code (2 : Nat) (Option.some Jvm.ClassFile.FieldType.boolean), Jvm.Cond.code ({ cls := "java/lang/String", name := "equals", desc := "(Ljava/lang/Object;)Z" } : Jvm.MethodName) jdk_42_method_66_code (3 : Nat) (Option.some Jvm.ClassFile.FieldType.boolean), Jvm.Cond.code ({ cls := "java/lang/StringLatin1", name := "equals", desc := "([B[B)Z" } : Jvm.MethodName) jdk_43_method_13_code (3 : Nat) (Option.some Jvm.ClassFile.FieldType.boolean), Jvm.Cond.code ({ cls := "java/lang/StringUTF16", name := "compress", desc := "([CII)[B" } : Jvm.MethodName) jdk_52_method_16_code (6 : Nat) (Option.some (Jvm.ClassFile.FieldType.array Jvm.ClassFile.FieldType.byte)), Jvm.Cond.code ({ cls := "java/lang/StringUTF16", name := "compress", desc := "([CI[BII)I" } : Jvm.MethodName) jdk_52_method_21_code (7 : Nat) (Option.some Jvm.ClassFile.FieldType.int), Jvm.Cond.code ({ cls := "java/lang/StringUTF16", name := "coderFromArrayLen", desc := "([BI)B" } : Jvm.MethodName) jdk_52_method_15_code (2 : Nat) (Option.some Jvm.ClassFile.FieldType.byte)]
set_option maxRecDepth 65536 in
theorem codes_eq : words1.filter isCode = codes1 := rfl
theorem w_codes : ∀ c ∈ words1.filter isCode, c.before args0 about1 = true := by
  rw [codes_eq]
  intro c hc
  simp only [codes1, List.mem_cons, List.not_mem_nil, or_false] at hc
  rcases hc with rfl | rfl | rfl | rfl | rfl | rfl | rfl | rfl | rfl | rfl | rfl | rfl | rfl | rfl
  · exact w_c0
  · exact w_c1
  · exact w_c2
  · exact w_c3
  · exact w_c4
  · exact w_c5
  · exact w_c6
  · exact w_c7
  · exact w_c8
  · exact w_c9
  · exact w_c10
  · exact w_c11
  · exact w_c12
  · exact w_c13
set_option maxRecDepth 65536 in
theorem w_t1 : (words1.take 24).all (fun c => isCode c || c.before args0 about1) = true := by decide +kernel
set_option maxRecDepth 65536 in
theorem w_t2 : ((words1.drop 24).take 24).all (fun c => isCode c || c.before args0 about1) = true := by decide +kernel
set_option maxRecDepth 65536 in
theorem w_t3 : (((words1.drop 24).drop 24).take 24).all (fun c => isCode c || c.before args0 about1) = true := by decide +kernel
set_option maxRecDepth 65536 in
theorem w_t4 : (((words1.drop 24).drop 24).drop 24).all (fun c => isCode c || c.before args0 about1) = true := by decide +kernel
theorem w_tables : (allAtoms (Jvm.Cond.code x code maxLocals ret :: tables_1)).before args0 about1 = true := by
  rw [allAtoms_all]
  show words1.all (fun c => c.before args0 about1) = true
  refine all_split ?_ w_codes
  rw [← List.take_append_drop 24 words1, List.all_append, w_t1, ← List.take_append_drop 24 (words1.drop 24), List.all_append, w_t2, ← List.take_append_drop 24 ((words1.drop 24).drop 24), List.all_append, w_t3, w_t4]
  rfl
set_option maxRecDepth 65536 in
theorem w_rest : rest_1_c.before args0 about1 = true := by decide +kernel
set_option maxRecDepth 65536 in
theorem w_case : (Jvm.Cond.and given_1 narrow_1).before args0 about1 = true := by decide +kernel
set_option maxRecDepth 65536 in
theorem w_consts : constsHeld consts_1 about1 := Jvm.Lit.constsHeldB_iff.mp (by decide +kernel)
theorem w_applies : (headSpec (Jvm.Cond.code x code maxLocals ret :: tables_1) room_1).applies x e0.platform about1 = true :=
  (Spec.applies_iff w_frames).mpr ⟨w_running, w_runnable, w_alone, w_named, w_hears, w_ripe, w_room, w_tables⟩
theorem atStart : AtStart classFile x code maxLocals ret World_1 tables_1 room_1 Calls_1 rest_1 Pre_1 launch0 p0 e0 about1 theMethod args0 below0 :=
  ⟨lists_1, trivial, launch0.admits_env _ _ _, launch0.least_env, fairChoices_fair.cas, fairChoices_fair.clock, w_frames, w_args, w_heap, w_applies, ⟨w_consts, trivial⟩, w_rest, w_case⟩
end start1
theorem witness_1 : WitnessClaimed_1 := ⟨start1.p0, start1.e0, start1.about1, start1.theMethod, start1.args0, start1.below0, start1.atStart⟩
end Jvm.Pilot.@@N@@
