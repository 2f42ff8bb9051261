import JvmDerived
import JvmDerived.Pilot.@@N@@Statement
import JvmDerived.Pilot.@@N@@Code
set_option linter.unusedVariables false
set_option linter.unusedSimpArgs false
namespace Jvm.RoadKit
open Sem ClassFile Op Lib Jvm.Stand Jvm.Free Jvm.LawKit
section New
variable {p : Program} {l : Launch} {e : Env} {R : Room} {s : State} {m : MethodId} {args : Array Value} {below : List Frame} {meth : Method} {c : Code} {T : State} {locs : List Loc} {cells slots : Nat}
theorem retI (X : Stand p l e R s m args below meth c T locs cells slots) (hx : p.tables.exec = Jvm.exec) {pc : Nat} {Ls : Array Slot} {z : Int32} {rest : List Value} (hret : meth.sig.returnType = some .int) (hd : decode c.code pc = .ok (.ireturn, 1)) {fs : List Frame}
    (hl : ∀ (f : JFrame) (acts : List Action), f.method = m → f.locked = none → f.entered = [] → (doReturn e (T.setTop f) acts (some (.int z))).1 = T.setFrames fs) : Steps p.tables e below (T.setTop (mkF m pc Ls (.int z :: rest))) (T.setFrames fs) := by
  have hm' : T.vm.method? m = some meth := X.method'
  have hn : narrow .int (.int z) = .int z := rfl
  show Steps p.tables e below (T.setTop { method := m, pc := pc, locals := Ls, stack := _ :: rest, locked := none }) _
  jvm_step X.here [X.here.top, hx, hd, hm', hret, hn]
  first | (intro acts; rw [hl _ acts rfl rfl rfl]) | rw [hl _ _ rfl rfl rfl]
  exact Steps.refl _
end New
end Jvm.RoadKit
/- laws to paste: Road.backV, Road.eqW, Road.codOf (cut by pick.py; bodies as the Statement names them) -/
namespace Jvm.Pilot.@@N@@
namespace StrChars
open Jvm Sem ClassFile Op Lib Jvm.Stand Jvm.Free.XT Jvm.Free.ALB Jvm.Free.JM Jvm.Free
open Jvm.Lib.Cold (StaticIs)
/-- a char array whose places are chars -/
def Ch (a : Addr) (A : Cell) (U : State) : Prop := Arr .char a A U ∧ Typed .char A
theorem Ch.mv {a : Addr} {A : Cell} {U U' : State} (h : Ch a A U) (hal : U.vm.Alike U'.vm) (hh : U'.heap = U.heap) : Ch a A U' := ⟨h.1.mv hal hh, h.2⟩
theorem Ch.keep {a : Addr} {A : Cell} {U U' : State} (h : Ch a A U) (hal : U.vm.Alike U'.vm) (hk : U'.heap[a]? = some A) : Ch a A U' := ⟨h.1.keep hal hk, h.2⟩
/-- what place i of a char[]'s cell holds -/
def cv (A : Cell) (i : Nat) : Int32 := match A.slots[i]? with | some (.int x) => x | _ => 0
theorem Ch.get {a : Addr} {A : Cell} {U : State} (h : Ch a A U) {i : Nat} (hi : i < A.slots.size) : A.slots[i]? = some (.int (cv A i)) := by
  have e := Array.getElem?_eq_getElem hi
  have f := h.2 i _ e
  unfold cv; rw [e]
  generalize A.slots[i] = v at f
  cases v <;> simp [fits] at f ⊢
/-- the byte that i2b leaves of a char -/
def lo8 (x : Int32) : Int32 := x.toInt8.toInt32
theorem fits_lo8 (y : Int32) : fits .byte (.int (lo8 y)) = true := by
  have h1 := y.toInt8.le_toInt
  have h2 := y.toInt8.toInt_lt
  simp only [lo8, fits, Bool.and_eq_true, decide_eq_true_eq, Int32.le_iff_toInt_le, Int8.toInt_toInt32, show (-128 : Int32).toInt = -128 from by decide, show (127 : Int32).toInt = 127 from by decide]
  omega
/-- A' is A but that each place j of lo .. hi - 1 holds f j -/
def Laid (A A' : Cell) (lo hi : Nat) (f : Nat → Value) : Prop := A'.cls = A.cls ∧ A'.vm = A.vm ∧ A'.slots.size = A.slots.size ∧ ∀ i, A'.slots[i]? = if lo ≤ i ∧ i < hi then some (f i) else A.slots[i]?
theorem Laid.zero (A : Cell) (lo : Nat) (f : Nat → Value) : Laid A A lo (lo + 0) f := ⟨rfl, rfl, rfl, fun i => by rw [if_neg (by omega)]⟩
theorem Laid.step {A Ak : Cell} {lo k : Nat} {f : Nat → Value} {v : Value} (h : Laid A Ak lo k f) (hlo : lo ≤ k) (hk : k < Ak.slots.size) (hv : v = f k) : Laid A (Ak.setSlot k v) lo (k + 1) f := by
  refine ⟨h.1, h.2.1, by simpa [Cell.setSlot] using h.2.2.1, fun i => ?_⟩
  by_cases e : k = i
  · subst e; rw [Cell.slots_setSlot_self v hk, if_pos (by omega), hv]
  · rw [Cell.slots_setSlot_ne v e, h.2.2.2 i]
    by_cases q : lo ≤ i ∧ i < k
    · rw [if_pos q, if_pos (by omega)]
    · rw [if_neg q, if_neg (by omega)]
def U16 : String := "java/lang/StringUTF16"
namespace Cmp5
def yN : MethodName := ⟨"java/lang/StringUTF16", "compress", "([CI[BII)I"⟩
abbrev yB : ByteArray := jdk_52_method_21_code
theorem d0 : decode yB 0 = .ok (.iconst 0, 1) := by decide +kernel
theorem d1 : decode yB 1 = .ok (.istore 5, 2) := by decide +kernel
theorem d3 : decode yB 3 = .ok (.iload 5, 2) := by decide +kernel
theorem d5 : decode yB 5 = .ok (.iload 4, 2) := by decide +kernel
theorem d7 : decode yB 7 = .ok (.if_icmp (.ge) 37, 3) := by decide +kernel
theorem d10 : decode yB 10 = .ok (.aload_n 0, 1) := by decide +kernel
theorem d11 : decode yB 11 = .ok (.iload_n 1, 1) := by decide +kernel
theorem d12 : decode yB 12 = .ok (.caload, 1) := by decide +kernel
theorem d13 : decode yB 13 = .ok (.istore 6, 2) := by decide +kernel
theorem d15 : decode yB 15 = .ok (.iload 6, 2) := by decide +kernel
theorem d17 : decode yB 17 = .ok (.sipush 255, 3) := by decide +kernel
theorem d20 : decode yB 20 = .ok (.if_icmp (.le) 6, 3) := by decide +kernel
theorem d26 : decode yB 26 = .ok (.aload_n 2, 1) := by decide +kernel
theorem d27 : decode yB 27 = .ok (.iload_n 3, 1) := by decide +kernel
theorem d28 : decode yB 28 = .ok (.iload 6, 2) := by decide +kernel
theorem d30 : decode yB 30 = .ok (.i2b, 1) := by decide +kernel
theorem d31 : decode yB 31 = .ok (.bastore, 1) := by decide +kernel
theorem d32 : decode yB 32 = .ok (.iinc 1 1, 3) := by decide +kernel
theorem d35 : decode yB 35 = .ok (.iinc 3 1, 3) := by decide +kernel
theorem d38 : decode yB 38 = .ok (.iinc 5 1, 3) := by decide +kernel
theorem d41 : decode yB 41 = .ok (.goto (-38), 3) := by decide +kernel
theorem d44 : decode yB 44 = .ok (.iload 4, 2) := by decide +kernel
theorem d46 : decode yB 46 = .ok (.ireturn, 1) := by decide +kernel
def site : List Cond := []
def tab : Cond := tabOf yN yB 7 (some .int) site
def P (b : Addr) (A : Cell) (d : Addr) (B : Cell) (o q len : Nat) (args : Array Value) (s : State) : Prop := args = #[.ref b, .int (Int32.ofNat o), .ref d, .int (Int32.ofNat q), .int (Int32.ofNat len)] ∧ Ch b A s ∧ Arr .byte d B s ∧ b ≠ d ∧ o + len ≤ A.slots.size ∧ q + len ≤ B.slots.size ∧ ∀ i, i < len → ¬ 255 < cv A (o + i)
def E (b : Addr) (A : Cell) (d : Addr) (B : Cell) (o q len : Nat) (r : Option Value) (s u : State) : Prop := r = some (.int (Int32.ofNat len)) ∧ ∃ B', Put d B' s u ∧ Laid B B' q (q + len) (fun j => Value.int (lo8 (cv A (o + (j - q)))))
/-- no char of the range above 255: len; the places written hold each char's low byte -/
theorem law (l : Launch) (b : Addr) (A : Cell) (d : Addr) (B : Cell) (o q len : Nat) : Law l yN 5 5 0 0 yB 7 (some .int) site (P b A d B o q len) (E b A d B o q len) (copyLocs d q len) 0 0 := by
  refine Law.of_walk (plainFor_of_name (by decide +kernel)) (by decide +kernel) (by decide +kernel) (by decide) (fun _ _ h => by rw [h.1]; rfl) (fun _ U U' hal hh h => ⟨h.1, h.2.1.mv hal hh, h.2.2.1.mv hal hh, h.2.2.2⟩) (fun r U U' V V' h1 hal h2 h => ⟨h.1, h.2.elim fun B' q => ⟨B', q.1.mv h1 h2, q.2⟩⟩) ?_
  intro p e s m args below meth c s₁ X0 hexec hbytes hml hret hlk hnm hown hh0 W hP
  obtain ⟨rfl, hA, hB, hne, l1, l2, hp⟩ := hP
  have c1 : Steps p.tables e below (s₁.setTop (entryFrame m #[.ref b, .int (Int32.ofNat o), .ref d, .int (Int32.ofNat q), .int (Int32.ofNat len)] 7)) (s₁.setTop (mkF m 0 #[.val (.ref b), .val (.int (Int32.ofNat o)), .val (.ref d), .val (.int (Int32.ofNat q)), .val (.int (Int32.ofNat len)), .unset, .unset] [])) := entry rfl
  have hA0 := hA.1.mv X0.warmed.alike hh0
  have hB0 := hB.mv X0.warmed.alike hh0
  have a31 := hA.1.2.2.2
  have c2 : Steps p.tables e below (s₁.setTop (entryFrame m #[.ref b, .int (Int32.ofNat o), .ref d, .int (Int32.ofNat q), .int (Int32.ofNat len)] 7)) (s₁.setTop (mkF m 3 #[.val (.ref b), .val (.int (Int32.ofNat o)), .val (.ref d), .val (.int (Int32.ofNat q)), .val (.int (Int32.ofNat len)), .val (.int 0), .unset] [])) := c1.trans (by
    refine iconstV X0.here hexec rfl 0 (hb hbytes d0) (by decide) ?_
    refine XS.istore X0.here hexec rfl (hb hbytes d1) rfl rfl ?_
    exact Steps.refl _)
  have loop : ∀ (r i : Nat), i + r = len → ∀ (z : Slot), (z = .unset ∨ ∃ w, z = .val w ∧ w.category = 1) → ∀ (Tl : State) (Bk : Cell), Stand p l e { frames := 0, locals := 0, cells := 0, slots := 0 } s m #[.ref b, .int (Int32.ofNat o), .ref d, .int (Int32.ofNat q), .int (Int32.ofNat len)] below meth c Tl ([] ++ copyLocs d q i) 0 0 → Put d Bk s₁ Tl → Laid B Bk q (q + i) (fun j => Value.int (lo8 (cv A (o + (j - q))))) →
      Steps p.tables e below (s₁.setTop (entryFrame m #[.ref b, .int (Int32.ofNat o), .ref d, .int (Int32.ofNat q), .int (Int32.ofNat len)] 7)) (Tl.setTop (mkF m 3 #[.val (.ref b), .val (.int (Int32.ofNat (o + i))), .val (.ref d), .val (.int (Int32.ofNat (q + i))), .val (.int (Int32.ofNat len)), .val (.int (Int32.ofNat i)), z] [])) → ∃ (T' : State) (B' : Cell) (z' : Slot), Stand p l e { frames := 0, locals := 0, cells := 0, slots := 0 } s m #[.ref b, .int (Int32.ofNat o), .ref d, .int (Int32.ofNat q), .int (Int32.ofNat len)] below meth c T' ([] ++ copyLocs d q len) 0 0 ∧ Put d B' s₁ T' ∧ Laid B B' q (q + len) (fun j => Value.int (lo8 (cv A (o + (j - q))))) ∧
      Steps p.tables e below (s₁.setTop (entryFrame m #[.ref b, .int (Int32.ofNat o), .ref d, .int (Int32.ofNat q), .int (Int32.ofNat len)] 7)) (T'.setTop (mkF m 3 #[.val (.ref b), .val (.int (Int32.ofNat (o + len))), .val (.ref d), .val (.int (Int32.ofNat (q + len))), .val (.int (Int32.ofNat len)), .val (.int (Int32.ofNat len)), z'] [])) := by
    intro r
    induction r with
    | zero =>
      intro i hi z hz Tl Bk Xl pl fl cl
      have hil : i = len := by omega
      rw [hil] at Xl fl cl
      exact ⟨Tl, Bk, z, Xl, pl, fl, cl⟩
    | succ r ih =>
      intro i hi z hz Tl Bk Xl pl fl cl
      have all := X0.warmed.alike.symm.trans Xl.warmed.alike
      have hAl := hA0.keep all (pl.other hne hA0.1)
      have hBk := hB0.like all pl.1 fl.1 fl.2.1 fl.2.2.1
      have hlt : q + i < Bk.slots.size := by rw [fl.2.2.1]; omega
      have c3 : Steps p.tables e below (s₁.setTop (entryFrame m #[.ref b, .int (Int32.ofNat o), .ref d, .int (Int32.ofNat q), .int (Int32.ofNat len)] 7)) (Tl.setTop (mkF m 12 #[.val (.ref b), .val (.int (Int32.ofNat (o + i))), .val (.ref d), .val (.int (Int32.ofNat (q + i))), .val (.int (Int32.ofNat len)), .val (.int (Int32.ofNat i)), z] [.int (Int32.ofNat (o + i)), .ref b])) := cl.trans (by
        refine XS.iload Xl.here hexec rfl (hb hbytes d3) rfl ?_
        refine XS.iload Xl.here hexec rfl (hb hbytes d5) rfl ?_
        refine XS.icmpNo Xl.here hexec rfl (hb hbytes d7) rfl (ii_ge_f (lt32 (by omega) (by omega))) ?_
        refine XS.aloadN Xl.here hexec rfl (hb hbytes d10) rfl rfl ?_
        refine XS.iloadN Xl.here hexec rfl (hb hbytes d11) rfl ?_
        exact Steps.refl _)
      have c4 : Steps p.tables e below (s₁.setTop (entryFrame m #[.ref b, .int (Int32.ofNat o), .ref d, .int (Int32.ofNat q), .int (Int32.ofNat len)] 7)) (Tl.setTop (mkF m 13 #[.val (.ref b), .val (.int (Int32.ofNat (o + i))), .val (.ref d), .val (.int (Int32.ofNat (q + i))), .val (.int (Int32.ofNat len)), .val (.int (Int32.ofNat i)), z] [.int (cv A (o + i))])) := c3.trans (by
        refine Xl.aget hexec hAl rfl (hA.get (i := o + i) (by omega)) rfl rfl (hb hbytes d12) ?_
        exact Steps.refl _)
      have c5 : Steps p.tables e below (s₁.setTop (entryFrame m #[.ref b, .int (Int32.ofNat o), .ref d, .int (Int32.ofNat q), .int (Int32.ofNat len)] 7)) (Tl.setTop (mkF m 15 #[.val (.ref b), .val (.int (Int32.ofNat (o + i))), .val (.ref d), .val (.int (Int32.ofNat (q + i))), .val (.int (Int32.ofNat len)), .val (.int (Int32.ofNat i)), .val (.int (cv A (o + i)))] [])) := c4.trans (by
        refine XS.istoreS Xl.here hexec rfl (hb hbytes d13) rfl rfl hz ?_
        exact Steps.refl _)
      have c6 : Steps p.tables e below (s₁.setTop (entryFrame m #[.ref b, .int (Int32.ofNat o), .ref d, .int (Int32.ofNat q), .int (Int32.ofNat len)] 7)) (Tl.setTop (mkF m 31 #[.val (.ref b), .val (.int (Int32.ofNat (o + i))), .val (.ref d), .val (.int (Int32.ofNat (q + i))), .val (.int (Int32.ofNat len)), .val (.int (Int32.ofNat i)), .val (.int (cv A (o + i)))] [.int (lo8 (cv A (o + i))), .int (Int32.ofNat (q + i)), .ref d])) := c5.trans (by
        refine XS.iload Xl.here hexec rfl (hb hbytes d15) rfl ?_
        refine sipushV Xl.here hexec rfl 255 (hb hbytes d17) (by decide) ?_
        refine XS.icmpYes Xl.here hexec rfl (pc0 := 20) rfl (hb hbytes d20) rfl (ii_le_t (hp i (by omega))) (by decide) rfl ?_
        refine XS.aloadN Xl.here hexec rfl (hb hbytes d26) rfl rfl ?_
        refine XS.iloadN Xl.here hexec rfl (hb hbytes d27) rfl ?_
        refine XS.iload Xl.here hexec rfl (hb hbytes d28) rfl ?_
        refine i2b Xl.here hexec rfl (hb hbytes d30) rfl ?_
        exact Steps.refl _)
      obtain ⟨T7, X7, p7, st7⟩ := Xl.aput hexec hBk rfl hlt rfl (fits_lo8 (cv A (o + i))) (g := (mkF m 31 #[.val (.ref b), .val (.int (Int32.ofNat (o + i))), .val (.ref d), .val (.int (Int32.ofNat (q + i))), .val (.int (Int32.ofNat len)), .val (.int (Int32.ofNat i)), .val (.int (cv A (o + i)))] [.int (lo8 (cv A (o + i))), .int (Int32.ofNat (q + i)), .ref d])) rfl (rest := []) rfl (hb hbytes d31)
      have c8 : Steps p.tables e below (s₁.setTop (entryFrame m #[.ref b, .int (Int32.ofNat o), .ref d, .int (Int32.ofNat q), .int (Int32.ofNat len)] 7)) (T7.setTop (mkF m 32 #[.val (.ref b), .val (.int (Int32.ofNat (o + i))), .val (.ref d), .val (.int (Int32.ofNat (q + i))), .val (.int (Int32.ofNat len)), .val (.int (Int32.ofNat i)), .val (.int (cv A (o + i)))] [])) := c6.trans (st7 _ (Steps.refl _))
      have c9 : Steps p.tables e below (s₁.setTop (entryFrame m #[.ref b, .int (Int32.ofNat o), .ref d, .int (Int32.ofNat q), .int (Int32.ofNat len)] 7)) (T7.setTop (mkF m 3 #[.val (.ref b), .val (.int (Int32.ofNat (o + i) + 1)), .val (.ref d), .val (.int (Int32.ofNat (q + i) + 1)), .val (.int (Int32.ofNat len)), .val (.int (Int32.ofNat i + 1)), .val (.int (cv A (o + i)))] [])) := c8.trans (by
        refine iincV X7.here hexec rfl 1 (hb hbytes d32) (by decide) rfl rfl ?_
        refine iincV X7.here hexec rfl 1 (hb hbytes d35) (by decide) rfl rfl ?_
        refine iincV X7.here hexec rfl 1 (hb hbytes d38) (by decide) rfl rfl ?_
        refine XS.goto X7.here hexec rfl (pc0 := 41) rfl (hb hbytes d41) (by decide) rfl ?_
        exact Steps.refl _)
      have c10 : Steps p.tables e below (s₁.setTop (entryFrame m #[.ref b, .int (Int32.ofNat o), .ref d, .int (Int32.ofNat q), .int (Int32.ofNat len)] 7)) (T7.setTop (mkF m 3 #[.val (.ref b), .val (.int (Int32.ofNat (o + (i + 1)))), .val (.ref d), .val (.int (Int32.ofNat (q + (i + 1)))), .val (.int (Int32.ofNat len)), .val (.int (Int32.ofNat (i + 1))), .val (.int (cv A (o + i)))] [])) := by
        have := c9
        rw [succ32, succ32, succ32] at this
        exact this
      exact ih (i + 1) (by omega) _ (Or.inr ⟨_, rfl, rfl⟩) T7 _ (by rw [copyLocs_step, ← List.append_assoc]; exact X7) (pl.trans p7) (fl.step (by omega) hlt (by simp)) c10
  obtain ⟨T9, B9, z9, X9, p9, f9, g9⟩ := loop len 0 (by omega) .unset (Or.inl rfl) s₁ B (by simpa [copyLocs] using X0) ⟨hB0.1, fun _ _ => rfl, rfl⟩ (Laid.zero _ _ _) c2
  have c11 : Steps p.tables e below (s₁.setTop (entryFrame m #[.ref b, .int (Int32.ofNat o), .ref d, .int (Int32.ofNat q), .int (Int32.ofNat len)] 7)) (T9.setTop (mkF m 46 #[.val (.ref b), .val (.int (Int32.ofNat (o + len))), .val (.ref d), .val (.int (Int32.ofNat (q + len))), .val (.int (Int32.ofNat len)), .val (.int (Int32.ofNat len)), z9] [.int (Int32.ofNat len)])) := g9.trans (by
    refine XS.iload X9.here hexec rfl (hb hbytes d3) rfl ?_
    refine XS.iload X9.here hexec rfl (hb hbytes d5) rfl ?_
    refine XS.icmpYes X9.here hexec rfl (pc0 := 7) rfl (hb hbytes d7) rfl (ii_ge_t (nlt32 (by omega) (Nat.le_refl _))) (by decide) rfl ?_
    refine XS.iload X9.here hexec rfl (hb hbytes d44) rfl ?_
    exact Steps.refl _)
  exact ⟨T9, some (.int (Int32.ofNat len)), _, _, _, X9, by simp, rfl, rfl, (fun h => by cases h), ⟨rfl, B9, p9.from hh0, f9⟩, fun fs hl => c11.trans (X9.ireturnOut hexec hret rfl (Or.inl rfl) (hb hbytes d46) hl)⟩
end Cmp5
namespace Cmp3
def yN : MethodName := ⟨"java/lang/StringUTF16", "compress", "([CII)[B"⟩
abbrev yB : ByteArray := jdk_52_method_16_code
theorem d0 : decode yB 0 = .ok (.iload_n 2, 1) := by decide +kernel
theorem d1 : decode yB 1 = .ok (.newarray .byte, 2) := by decide +kernel
theorem d3 : decode yB 3 = .ok (.astore_n 3, 1) := by decide +kernel
theorem d4 : decode yB 4 = .ok (.aload_n 0, 1) := by decide +kernel
theorem d5 : decode yB 5 = .ok (.iload_n 1, 1) := by decide +kernel
theorem d6 : decode yB 6 = .ok (.aload_n 3, 1) := by decide +kernel
theorem d7 : decode yB 7 = .ok (.iconst 0, 1) := by decide +kernel
theorem d8 : decode yB 8 = .ok (.iload_n 2, 1) := by decide +kernel
theorem d9 : decode yB 9 = .ok (.invokestatic 115, 3) := by decide +kernel
theorem d12 : decode yB 12 = .ok (.istore 4, 2) := by decide +kernel
theorem d14 : decode yB 14 = .ok (.iload 4, 2) := by decide +kernel
theorem d16 : decode yB 16 = .ok (.iload_n 2, 1) := by decide +kernel
theorem d17 : decode yB 17 = .ok (.if_icmp (.eq) 40, 3) := by decide +kernel
theorem d57 : decode yB 57 = .ok (.aload_n 3, 1) := by decide +kernel
theorem d58 : decode yB 58 = .ok (.areturn, 1) := by decide +kernel
def site : List Cond := [.arrayClass .byte, Cmp5.tab] ++ staticW U16 115 Cmp5.yN
def tab : Cond := tabOf yN yB 6 (some (.array .byte)) site
def P (b : Addr) (A : Cell) (o len : Nat) (args : Array Value) (s : State) : Prop := args = #[.ref b, .int (Int32.ofNat o), .int (Int32.ofNat len)] ∧ Ch b A s ∧ o + len ≤ A.slots.size ∧ len ≤ 536870912 ∧ ∀ i, i < len → ¬ 255 < cv A (o + i)
def E (b : Addr) (A : Cell) (o len : Nat) (r : Option Value) (s u : State) : Prop := NewArr .byte "[B" len (fun j => .int (lo8 (cv A (o + j)))) r s u ∧ u.heap.size = s.heap.size + 1
/-- no char of the range above 255: a new byte[] of their low bytes -/
theorem law (l : Launch) (b : Addr) (A : Cell) (o len : Nat) : Law l yN 3 3 1 18 yB 6 (some (.array .byte)) site (P b A o len) (E b A o len) [] 1 len := by
  refine Law.of_walk (plainFor_of_name (by decide +kernel)) (by decide +kernel) (by decide +kernel) (by decide) (fun _ _ h => by rw [h.1]; rfl) (fun _ U U' hal hh h => ⟨h.1, h.2.1.mv hal hh, h.2.2⟩) (fun r U U' V V' h1 hal h2 h => ⟨NewArr.mv r U U' V V' h1 hal h2 h.1, by rw [h1, h2]; exact h.2⟩) ?_
  intro p e s m args below meth c s₁ X0 hexec hbytes hml hret hlk hnm hown hh0 W hP
  obtain ⟨rfl, hA, l1, l2, hp⟩ := hP
  have a31 := hA.1.2.2.2
  have c1 : Steps p.tables e below (s₁.setTop (entryFrame m #[.ref b, .int (Int32.ofNat o), .int (Int32.ofNat len)] 6)) (s₁.setTop (mkF m 0 #[.val (.ref b), .val (.int (Int32.ofNat o)), .val (.int (Int32.ofNat len)), .unset, .unset, .unset] [])) := entry rfl
  have c2 : Steps p.tables e below (s₁.setTop (entryFrame m #[.ref b, .int (Int32.ofNat o), .int (Int32.ofNat len)] 6)) (s₁.setTop (mkF m 1 #[.val (.ref b), .val (.int (Int32.ofNat o)), .val (.int (Int32.ofNat len)), .unset, .unset, .unset] [.int (Int32.ofNat len)])) := c1.trans (by
    refine XS.iloadN X0.here hexec rfl (hb hbytes d0) rfl ?_
    exact Steps.refl _)
  obtain ⟨T3, B3, X3, ba3, bs3, bv3, bh3, bf3, st3⟩ := X0.anew hexec (atype := .byte) (wk W (.arrayClass .byte)) rfl (by show len * 1 ≤ _; omega) (by omega) (g := (mkF m 1 #[.val (.ref b), .val (.int (Int32.ofNat o)), .val (.int (Int32.ofNat len)), .unset, .unset, .unset] [.int (Int32.ofNat len)])) rfl (hb hbytes d1) (rest := []) rfl (Nat.le_refl _) (by show 0 + len ≤ len; omega)
  rw [hh0] at ba3 st3
  have kp3 : XT.Kept s T3 := (XT.Kept.of_eq hh0).push bh3
  have hA3 := hA.keep X3.warmed.alike (kp3 _ _ hA.1.1)
  have hne : b ≠ s.heap.size := hA.1.ne
  have c4 : Steps p.tables e below (s₁.setTop (entryFrame m #[.ref b, .int (Int32.ofNat o), .int (Int32.ofNat len)] 6)) (T3.setTop (mkF m 3 #[.val (.ref b), .val (.int (Int32.ofNat o)), .val (.int (Int32.ofNat len)), .unset, .unset, .unset] [.ref s.heap.size])) := c2.trans (st3 _ (Steps.refl _))
  have c5 : Steps p.tables e below (s₁.setTop (entryFrame m #[.ref b, .int (Int32.ofNat o), .int (Int32.ofNat len)] 6)) (T3.setTop (mkF m 9 #[.val (.ref b), .val (.int (Int32.ofNat o)), .val (.int (Int32.ofNat len)), .val (.ref s.heap.size), .unset, .unset] [.int (Int32.ofNat len), .int 0, .ref s.heap.size, .int (Int32.ofNat o), .ref b])) := c4.trans (by
    refine XS.astoreN X3.here hexec rfl (hb hbytes d3) rfl rfl rfl ?_
    refine XS.aloadN X3.here hexec rfl (hb hbytes d4) rfl rfl ?_
    refine XS.iloadN X3.here hexec rfl (hb hbytes d5) rfl ?_
    refine XS.aloadN X3.here hexec rfl (hb hbytes d6) rfl rfl ?_
    refine iconstV X3.here hexec rfl 0 (hb hbytes d7) (by decide) ?_
    refine XS.iloadN X3.here hexec rfl (hb hbytes d8) rfl ?_
    exact Steps.refl _)
  obtain ⟨v6, T6, X6, E6, g6⟩ := X3.callS hexec (Cmp5.law l b A s.heap.size B3 o 0 len) hown (wks W (staticW U16 115 Cmp5.yN)) (wk W Cmp5.tab) (W := 0) (Nat.le_of_ble_eq_true rfl) (Nat.le_of_ble_eq_true rfl) (Nat.le_refl _) (by show 0 + len + 0 ≤ len; omega) (g := (mkF m 9 #[.val (.ref b), .val (.int (Int32.ofNat o)), .val (.int (Int32.ofNat len)), .val (.ref s.heap.size), .unset, .unset] [.int (Int32.ofNat len), .int (Int32.ofNat 0), .ref s.heap.size, .int (Int32.ofNat o), .ref b])) rfl (by rw [hml]; rfl) c5 (argsL := [.ref b, .int (Int32.ofNat o), .ref s.heap.size, .int (Int32.ofNat 0), .int (Int32.ofNat len)]) (rest := []) rfl rfl (by show 2 * 0 + 0 ≤ _; decide) (hb hbytes d9) (⟨rfl, hA3, ba3, hne, l1, by rw [bs3]; simp, hp⟩)
  obtain ⟨rfl, B6, p6, f6⟩ := E6
  have c7 : Steps p.tables e below (s₁.setTop (entryFrame m #[.ref b, .int (Int32.ofNat o), .int (Int32.ofNat len)] 6)) (T6.setTop (mkF m 12 #[.val (.ref b), .val (.int (Int32.ofNat o)), .val (.int (Int32.ofNat len)), .val (.ref s.heap.size), .unset, .unset] [.int (Int32.ofNat len)])) := g6
  have c8 : Steps p.tables e below (s₁.setTop (entryFrame m #[.ref b, .int (Int32.ofNat o), .int (Int32.ofNat len)] 6)) (T6.setTop (mkF m 58 #[.val (.ref b), .val (.int (Int32.ofNat o)), .val (.int (Int32.ofNat len)), .val (.ref s.heap.size), .val (.int (Int32.ofNat len)), .unset] [.ref s.heap.size])) := c7.trans (by
    refine XS.istore X6.here hexec rfl (hb hbytes d12) rfl rfl ?_
    refine XS.iload X6.here hexec rfl (hb hbytes d14) rfl ?_
    refine XS.iloadN X6.here hexec rfl (hb hbytes d16) rfl ?_
    refine XS.icmpYes X6.here hexec rfl (pc0 := 17) rfl (hb hbytes d17) rfl (ii_eq_t rfl) (by decide) rfl ?_
    refine XS.aloadN X6.here hexec rfl (hb hbytes d57) rfl rfl ?_
    exact Steps.refl _)
  have X8 := X6.wide (L' := []) (cells' := 1) (slots' := len) (fun x hx hlt => by
    simp only [List.nil_append, copyLocs, List.mem_map, List.mem_range] at hx
    obtain ⟨i, -, rfl⟩ := hx
    exact absurd hlt (Nat.lt_irrefl _)) (Nat.le_refl _) (by omega)
  exact ⟨T6, some (.ref s.heap.size), _, _, _, X8, rfl, rfl, rfl, (fun h => by cases h), ⟨⟨rfl, B6, ba3.like (X3.warmed.alike.symm.trans X6.warmed.alike) p6.1 f6.1 f6.2.1 f6.2.2.1, f6.2.1.trans bv3, by rw [X6.warmed.alike.findClass, f6.1]; exact bf3, by rw [f6.2.2.1, bs3]; simp, fun j hj => by rw [f6.2.2.2 j, if_pos (by omega)]; rfl, kp3.put p6 (Nat.le_refl _)⟩, by rw [p6.2.2, bh3, hh0]; simp⟩, fun fs hl => c8.trans (X8.areturnOut hexec rfl hret rfl (hb hbytes d58) hl)⟩
end Cmp3
namespace CodL
def yN : MethodName := ⟨"java/lang/StringUTF16", "coderFromArrayLen", "([BI)B"⟩
abbrev yB : ByteArray := jdk_52_method_15_code
theorem d0 : decode yB 0 = .ok (.iload_n 1, 1) := by decide +kernel
theorem d1 : decode yB 1 = .ok (.aload_n 0, 1) := by decide +kernel
theorem d2 : decode yB 2 = .ok (.arraylength, 1) := by decide +kernel
theorem d3 : decode yB 3 = .ok (.isub, 1) := by decide +kernel
theorem d4 : decode yB 4 = .ok (.bipush 31, 2) := by decide +kernel
theorem d6 : decode yB 6 = .ok (.iushr, 1) := by decide +kernel
theorem d7 : decode yB 7 = .ok (.i2b, 1) := by decide +kernel
theorem d8 : decode yB 8 = .ok (.ireturn, 1) := by decide +kernel
def site : List Cond := []
def tab : Cond := tabOf yN yB 2 (some .byte) site
def P (d : Addr) (B : Cell) (args : Array Value) (s : State) : Prop := args = #[.ref d, .int (Int32.ofNat B.slots.size)] ∧ Arr .byte d B s
def E (r : Option Value) (s u : State) : Prop := XT.PureE (some (.int 0)) r s u
/-- an array as long as the number of chars: LATIN1 -/
theorem law (l : Launch) (d : Addr) (B : Cell) : Law l yN 2 2 0 0 yB 2 (some .byte) site (P d B) E [] 0 0 := by
  refine Law.of_walk (plainFor_of_name (by decide +kernel)) (by decide +kernel) (by decide +kernel) (by decide) (fun _ _ h => by rw [h.1]; rfl) (fun _ U U' hal hh h => ⟨h.1, h.2.mv hal hh⟩) (fun r U U' V V' h1 hal h2 h => XT.PureE.mv r U U' V V' h1 hal h2 h) ?_
  intro p e s m args below meth c s₁ X0 hexec hbytes hml hret hlk hnm hown hh0 W hP
  obtain ⟨rfl, hB⟩ := hP
  have hB0 := hB.mv X0.warmed.alike hh0
  have c1 : Steps p.tables e below (s₁.setTop (entryFrame m #[.ref d, .int (Int32.ofNat B.slots.size)] 2)) (s₁.setTop (mkF m 0 #[.val (.ref d), .val (.int (Int32.ofNat B.slots.size))] [])) := entry rfl
  have c2 : Steps p.tables e below (s₁.setTop (entryFrame m #[.ref d, .int (Int32.ofNat B.slots.size)] 2)) (s₁.setTop (mkF m 2 #[.val (.ref d), .val (.int (Int32.ofNat B.slots.size))] [.ref d, .int (Int32.ofNat B.slots.size)])) := c1.trans (by
    refine XS.iloadN X0.here hexec rfl (hb hbytes d0) rfl ?_
    refine XS.aloadN X0.here hexec rfl (hb hbytes d1) rfl rfl ?_
    exact Steps.refl _)
  have c3 : Steps p.tables e below (s₁.setTop (entryFrame m #[.ref d, .int (Int32.ofNat B.slots.size)] 2)) (s₁.setTop (mkF m 8 #[.val (.ref d), .val (.int (Int32.ofNat B.slots.size))] [.int (lo8 (ushr (Int32.ofNat B.slots.size - Int32.ofNat B.slots.size) 31))])) := c2.trans (by
    refine X0.alen hexec hB0 rfl rfl (hb hbytes d2) ?_
    refine XS.isub X0.here hexec rfl (hb hbytes d3) rfl ?_
    refine bipushV X0.here hexec rfl 31 (hb hbytes d4) (by decide) ?_
    refine iushr X0.here hexec rfl (hb hbytes d6) rfl ?_
    refine i2b X0.here hexec rfl (hb hbytes d7) rfl ?_
    exact Steps.refl _)
  have e0 : lo8 (ushr (Int32.ofNat B.slots.size - Int32.ofNat B.slots.size) 31) = 0 := by rw [Int32.sub_self]; decide
  rw [e0] at c3
  exact ⟨s₁, some (.int 0), _, _, _, X0, rfl, rfl, rfl, (fun h => by cases h), ⟨rfl, hh0⟩, fun fs hl => c3.trans (X0.ireturnOut hexec hret rfl (Or.inr (Or.inr (Or.inl rfl))) (hb hbytes d8) hl)⟩
end CodL
/-- the String at a is Latin-1 over a new byte[] (the heap's one new cell): the low bytes of the len chars of A from o on; every cell but a is kept -/
def Got (a : Addr) (D : Cell) (fV fC : Field) (A : Cell) (o len : Nat) (r : Option Value) (s u : State) : Prop := r = none ∧ ∃ D' V : Cell, Blank "java/lang/String" a D' u ∧ Same D D' [fV.slot, fC.slot] ∧ D'.slots[fV.slot]? = some (.ref s.heap.size) ∧ D'.slots[fC.slot]? = some (.int 0) ∧ Arr .byte s.heap.size V u ∧ V.vm = .none ∧ u.vm.findClass "[B" = some V.cls ∧ V.slots.size = len ∧ (∀ j, j < len → V.slots[j]? = some (.int (lo8 (cv A (o + j))))) ∧ (∀ (y : Addr) (c : Cell), y ≠ a → s.heap[y]? = some c → u.heap[y]? = some c) ∧ u.heap.size = s.heap.size + 1
theorem Got.mv {a : Addr} {D A : Cell} {fV fC : Field} {o len : Nat} : ∀ r (U U' V V' : State), U'.heap = U.heap → V.vm.Alike V'.vm → V'.heap = V.heap → Got a D fV fC A o len r U V → Got a D fV fC A o len r U' V' :=
  fun r U U' V V' h1 hal h2 ⟨e0, D', X, a1, a2, a3, a4, a5, a6, a7, a8, a9, a10, a11⟩ => ⟨e0, D', X, a1.mv hal h2, a2, by rw [h1]; exact a3, a4, by rw [h1]; exact a5.mv hal h2, a6, by rw [hal.findClass]; exact a7, a8, a9, by rw [h1, h2]; exact a10, by rw [h1, h2]; exact a11⟩
namespace New4
def yN : MethodName := ⟨"java/lang/String", "<init>", "([CIILjava/lang/Void;)V"⟩
abbrev yB : ByteArray := jdk_42_method_149_code
theorem d0 : decode yB 0 = .ok (.aload_n 0, 1) := by decide +kernel
theorem d1 : decode yB 1 = .ok (.invokespecial 1, 3) := by decide +kernel
theorem d4 : decode yB 4 = .ok (.iload_n 3, 1) := by decide +kernel
theorem d5 : decode yB 5 = .ok (.ifCond (.ne) 22, 3) := by decide +kernel
theorem d27 : decode yB 27 = .ok (.getstatic 38, 3) := by decide +kernel
theorem d30 : decode yB 30 = .ok (.ifCond (.eq) 28, 3) := by decide +kernel
theorem d33 : decode yB 33 = .ok (.aload_n 1, 1) := by decide +kernel
theorem d34 : decode yB 34 = .ok (.iload_n 2, 1) := by decide +kernel
theorem d35 : decode yB 35 = .ok (.iload_n 3, 1) := by decide +kernel
theorem d36 : decode yB 36 = .ok (.invokestatic 177, 3) := by decide +kernel
theorem d39 : decode yB 39 = .ok (.astore 5, 2) := by decide +kernel
theorem d41 : decode yB 41 = .ok (.aload_n 0, 1) := by decide +kernel
theorem d42 : decode yB 42 = .ok (.aload 5, 2) := by decide +kernel
theorem d44 : decode yB 44 = .ok (.iload_n 3, 1) := by decide +kernel
theorem d45 : decode yB 45 = .ok (.invokestatic 47, 3) := by decide +kernel
theorem d48 : decode yB 48 = .ok (.putfield 15, 3) := by decide +kernel
theorem d51 : decode yB 51 = .ok (.aload_n 0, 1) := by decide +kernel
theorem d52 : decode yB 52 = .ok (.aload 5, 2) := by decide +kernel
theorem d54 : decode yB 54 = .ok (.putfield 9, 3) := by decide +kernel
theorem d57 : decode yB 57 = .ok (.return_, 1) := by decide +kernel
def site : List Cond := [.fieldLink "java/lang/String" 38 "java/lang/String" "COMPACT_STRINGS" "Z", Cmp3.tab, CodL.tab, .laysFinal "java/lang/String" "java/lang/String" "value" "[B", .fieldLink "java/lang/String" 9 "java/lang/String" "value" "[B", .laysFinal "java/lang/String" "java/lang/String" "coder" "B", .fieldLink "java/lang/String" 15 "java/lang/String" "coder" "B"] ++ objW "java/lang/String" 1 ++ staticW "java/lang/String" 177 Cmp3.yN ++ staticW "java/lang/String" 47 CodL.yN
def tab : Cond := tabOf yN yB 6 none site
def P (a : Addr) (D : Cell) (fV fC : Field) (b : Addr) (A : Cell) (z : Int32) (o len : Nat) (args : Array Value) (s : State) : Prop := args = #[.ref a, .ref b, .int (Int32.ofNat o), .int (Int32.ofNat len), .null] ∧ Blank "java/lang/String" a D s ∧ Found "java/lang/String" "value" "[B" fV s ∧ Found "java/lang/String" "coder" "B" fC s ∧ Ch b A s ∧ StaticIs s "java/lang/String" "COMPACT_STRINGS" "Z" (.int z) ∧ ¬ z = 0 ∧ 0 < len ∧ o + len ≤ A.slots.size ∧ len ≤ 536870912 ∧ ∀ i, i < len → ¬ 255 < cv A (o + i)
def E (a : Addr) (D : Cell) (fV fC : Field) (A : Cell) (o len : Nat) (r : Option Value) (s u : State) : Prop := Got a D fV fC A o len r s u
/-- len > 0, no char of the range above 255: a Latin-1 String of their low bytes -/
theorem law (l : Launch) (a : Addr) (D : Cell) (fV fC : Field) (b : Addr) (A : Cell) (z : Int32) (o len : Nat) : Law l yN 5 4 2 35 yB 6 none site (P a D fV fC b A z o len) (E a D fV fC A o len) [⟨a, fC.slot⟩, ⟨a, fV.slot⟩] 1 len := by
  refine Law.of_walk (plainFor_of_name (by decide +kernel)) (by decide +kernel) (by decide +kernel) (by decide) (fun _ _ h => by rw [h.1]; rfl) (fun _ U U' hal hh h => ⟨h.1, h.2.1.mv hal hh, h.2.2.1.al hal, h.2.2.2.1.al hal, h.2.2.2.2.1.mv hal hh, h.2.2.2.2.2.1.there hal hh, h.2.2.2.2.2.2⟩) (fun r U U' V V' h1 hal h2 h => Got.mv r U U' V V' h1 hal h2 h) ?_
  intro p e s m args below meth c s₁ X0 hexec hbytes hml hret hlk hnm hown hh0 W hP
  obtain ⟨rfl, hB, f1, f2, hA, s1, hz, l0, l1, l2, hp⟩ := hP
  have a31 := hA.1.2.2.2
  have c1 : Steps p.tables e below (s₁.setTop (entryFrame m #[.ref a, .ref b, .int (Int32.ofNat o), .int (Int32.ofNat len), .null] 6)) (s₁.setTop (mkF m 0 #[.val (.ref a), .val (.ref b), .val (.int (Int32.ofNat o)), .val (.int (Int32.ofNat len)), .val .null, .unset] [])) := entry rfl
  have c2 : Steps p.tables e below (s₁.setTop (entryFrame m #[.ref a, .ref b, .int (Int32.ofNat o), .int (Int32.ofNat len), .null] 6)) (s₁.setTop (mkF m 1 #[.val (.ref a), .val (.ref b), .val (.int (Int32.ofNat o)), .val (.int (Int32.ofNat len)), .val .null, .unset] [.ref a])) := c1.trans (by
    refine XS.aloadN X0.here hexec rfl (hb hbytes d0) rfl rfl ?_
    exact Steps.refl _)
  obtain ⟨T3, X3, q3, st3⟩ := X0.oinit hexec hown (wks W (objW "java/lang/String" 1)) (g := (mkF m 1 #[.val (.ref a), .val (.ref b), .val (.int (Int32.ofNat o)), .val (.int (Int32.ofNat len)), .val .null, .unset] [.ref a])) rfl (by rw [hml]; rfl) (rest := []) rfl (hb hbytes d1) (W := 0) (by show 2 * 0 + 0 ≤ _; decide) (Nat.le_of_ble_eq_true rfl) (Nat.le_of_ble_eq_true rfl)
  have hh3 := q3.trans hh0
  have c4 : Steps p.tables e below (s₁.setTop (entryFrame m #[.ref a, .ref b, .int (Int32.ofNat o), .int (Int32.ofNat len), .null] 6)) (T3.setTop (mkF m 27 #[.val (.ref a), .val (.ref b), .val (.int (Int32.ofNat o)), .val (.int (Int32.ofNat len)), .val .null, .unset] [])) := (c2.trans (st3 _ (Steps.refl _))).trans (by
    refine XS.iloadN X3.here hexec rfl (hb hbytes d4) rfl ?_
    refine XS.ifYes X3.here hexec rfl (pc0 := 5) rfl (hb hbytes d5) rfl (i0_ne_t (nz32 (by omega) l0)) (by decide) rfl ?_
    exact Steps.refl _)
  obtain ⟨T5, X5, q5, st5⟩ := X3.sget hexec hown (wk W (.fieldLink "java/lang/String" 38 "java/lang/String" "COMPACT_STRINGS" "Z")) s1 (fun _ _ h => by rw [hh3]; exact h) (g := (mkF m 27 #[.val (.ref a), .val (.ref b), .val (.int (Int32.ofNat o)), .val (.int (Int32.ofNat len)), .val .null, .unset] [])) rfl (hb hbytes d27)
  have hh5 := q5.trans hh3
  have c6 : Steps p.tables e below (s₁.setTop (entryFrame m #[.ref a, .ref b, .int (Int32.ofNat o), .int (Int32.ofNat len), .null] 6)) (T5.setTop (mkF m 30 #[.val (.ref a), .val (.ref b), .val (.int (Int32.ofNat o)), .val (.int (Int32.ofNat len)), .val .null, .unset] [.int z])) := c4.trans (st5 _ (Steps.refl _))
  have c7 : Steps p.tables e below (s₁.setTop (entryFrame m #[.ref a, .ref b, .int (Int32.ofNat o), .int (Int32.ofNat len), .null] 6)) (T5.setTop (mkF m 36 #[.val (.ref a), .val (.ref b), .val (.int (Int32.ofNat o)), .val (.int (Int32.ofNat len)), .val .null, .unset] [.int (Int32.ofNat len), .int (Int32.ofNat o), .ref b])) := c6.trans (by
    refine XS.ifNo X5.here hexec rfl (hb hbytes d30) rfl (i0_eq_f hz) ?_
    refine XS.aloadN X5.here hexec rfl (hb hbytes d33) rfl rfl ?_
    refine XS.iloadN X5.here hexec rfl (hb hbytes d34) rfl ?_
    refine XS.iloadN X5.here hexec rfl (hb hbytes d35) rfl ?_
    exact Steps.refl _)
  obtain ⟨v8, T8, X8, E8, g8⟩ := X5.callS hexec (Cmp3.law l b A o len) hown (wks W (staticW "java/lang/String" 177 Cmp3.yN)) (wk W Cmp3.tab) (W := 0) (Nat.le_of_ble_eq_true rfl) (Nat.le_of_ble_eq_true rfl) (Nat.le_refl _) (by show 0 + len ≤ len; omega) (g := (mkF m 36 #[.val (.ref a), .val (.ref b), .val (.int (Int32.ofNat o)), .val (.int (Int32.ofNat len)), .val .null, .unset] [.int (Int32.ofNat len), .int (Int32.ofNat o), .ref b])) rfl (by rw [hml]; rfl) c7 (argsL := [.ref b, .int (Int32.ofNat o), .int (Int32.ofNat len)]) (rest := []) rfl rfl (by show 2 * 0 + 0 ≤ _; decide) (hb hbytes d36) (⟨rfl, hA.mv X5.warmed.alike hh5, l1, l2, hp⟩)
  obtain ⟨e8, z8⟩ := E8
  obtain ⟨rfl, N, n1, n2, n3, n4, n5, n6⟩ := NewArr.mv _ T5 s _ _ hh5.symm (Vm.Alike.refl _) rfl e8
  rw [hh5] at z8
  have hB1 := hB.keep X8.warmed.alike (n6 _ _ hB.1)
  have hne : s.heap.size ≠ a := (Nat.ne_of_lt (Array.getElem?_eq_some_iff.mp hB.1).1).symm
  have c9 : Steps p.tables e below (s₁.setTop (entryFrame m #[.ref a, .ref b, .int (Int32.ofNat o), .int (Int32.ofNat len), .null] 6)) (T8.setTop (mkF m 39 #[.val (.ref a), .val (.ref b), .val (.int (Int32.ofNat o)), .val (.int (Int32.ofNat len)), .val .null, .unset] [.ref s.heap.size])) := g8
  have c10 : Steps p.tables e below (s₁.setTop (entryFrame m #[.ref a, .ref b, .int (Int32.ofNat o), .int (Int32.ofNat len), .null] 6)) (T8.setTop (mkF m 45 #[.val (.ref a), .val (.ref b), .val (.int (Int32.ofNat o)), .val (.int (Int32.ofNat len)), .val .null, .val (.ref s.heap.size)] [.int (Int32.ofNat N.slots.size), .ref s.heap.size, .ref a])) := by
    have hc : Steps p.tables e below (s₁.setTop (entryFrame m #[.ref a, .ref b, .int (Int32.ofNat o), .int (Int32.ofNat len), .null] 6)) (T8.setTop (mkF m 45 #[.val (.ref a), .val (.ref b), .val (.int (Int32.ofNat o)), .val (.int (Int32.ofNat len)), .val .null, .val (.ref s.heap.size)] [.int (Int32.ofNat len), .ref s.heap.size, .ref a])) := c9.trans (by
      refine XS.astore X8.here hexec rfl (hb hbytes d39) rfl rfl rfl ?_
      refine XS.aloadN X8.here hexec rfl (hb hbytes d41) rfl rfl ?_
      refine XS.aload X8.here hexec rfl (hb hbytes d42) rfl rfl ?_
      refine XS.iloadN X8.here hexec rfl (hb hbytes d44) rfl ?_
      exact Steps.refl _)
    rw [n4]; exact hc
  obtain ⟨v11, T11, X11, E11, g11⟩ := X8.callS hexec (CodL.law l s.heap.size N) hown (wks W (staticW "java/lang/String" 47 CodL.yN)) (wk W CodL.tab) (W := 1) (Nat.le_of_ble_eq_true rfl) (Nat.le_of_ble_eq_true rfl) (Nat.le_refl _) (by show 0 + len + 0 ≤ len; omega) (g := (mkF m 45 #[.val (.ref a), .val (.ref b), .val (.int (Int32.ofNat o)), .val (.int (Int32.ofNat len)), .val .null, .val (.ref s.heap.size)] [.int (Int32.ofNat N.slots.size), .ref s.heap.size, .ref a])) rfl (by rw [hml]; rfl) c10 (argsL := [.ref s.heap.size, .int (Int32.ofNat N.slots.size)]) (rest := [.ref a]) rfl rfl (by show 2 * 0 + (1 + 0) ≤ _; decide) (hb hbytes d45) (⟨rfl, n1⟩)
  obtain ⟨rfl, q11⟩ := E11
  have hB11 := hB1.mv (X8.warmed.alike.symm.trans X11.warmed.alike) q11
  have c12 : Steps p.tables e below (s₁.setTop (entryFrame m #[.ref a, .ref b, .int (Int32.ofNat o), .int (Int32.ofNat len), .null] 6)) (T11.setTop (mkF m 48 #[.val (.ref a), .val (.ref b), .val (.int (Int32.ofNat o)), .val (.int (Int32.ofNat len)), .val .null, .val (.ref s.heap.size)] [.int 0, .ref a])) := g11
  obtain ⟨T13, X13, p13, bl13, sl13, st13⟩ := X11.finit hexec hown (wk W (.fieldLink "java/lang/String" 15 "java/lang/String" "coder" "B")) (Or.inr ⟨_, (wk W (.laysFinal "java/lang/String" "java/lang/String" "coder" "B"))⟩) (Or.inl ⟨rfl, hnm⟩) f2 (Or.inl rfl) hB11 (t := .byte) (by decide +kernel) rfl (g := (mkF m 48 #[.val (.ref a), .val (.ref b), .val (.int (Int32.ofNat o)), .val (.int (Int32.ofNat len)), .val .null, .val (.ref s.heap.size)] [.int 0, .ref a])) rfl (rest := []) rfl (hb hbytes d48)
  have c14 : Steps p.tables e below (s₁.setTop (entryFrame m #[.ref a, .ref b, .int (Int32.ofNat o), .int (Int32.ofNat len), .null] 6)) (T13.setTop (mkF m 54 #[.val (.ref a), .val (.ref b), .val (.int (Int32.ofNat o)), .val (.int (Int32.ofNat len)), .val .null, .val (.ref s.heap.size)] [.ref s.heap.size, .ref a])) := (c12.trans (st13 _ (Steps.refl _))).trans (by
    refine XS.aloadN X13.here hexec rfl (hb hbytes d51) rfl rfl ?_
    refine XS.aload X13.here hexec rfl (hb hbytes d52) rfl rfl ?_
    exact Steps.refl _)
  obtain ⟨T15, X15, p15, bl15, sl15, st15⟩ := X13.finit hexec hown (wk W (.fieldLink "java/lang/String" 9 "java/lang/String" "value" "[B")) (Or.inr ⟨_, (wk W (.laysFinal "java/lang/String" "java/lang/String" "value" "[B"))⟩) (Or.inl ⟨rfl, hnm⟩) f1 (Or.inl rfl) bl13 (t := (.array .byte)) (by decide +kernel) rfl (g := (mkF m 54 #[.val (.ref a), .val (.ref b), .val (.int (Int32.ofNat o)), .val (.int (Int32.ofNat len)), .val .null, .val (.ref s.heap.size)] [.ref s.heap.size, .ref a])) rfl (rest := []) rfl (hb hbytes d54)
  have c16 : Steps p.tables e below (s₁.setTop (entryFrame m #[.ref a, .ref b, .int (Int32.ofNat o), .int (Int32.ofNat len), .null] 6)) (T15.setTop (mkF m 57 #[.val (.ref a), .val (.ref b), .val (.int (Int32.ofNat o)), .val (.int (Int32.ofNat len)), .val .null, .val (.ref s.heap.size)] [])) := c14.trans (st15 _ (Steps.refl _))
  have ap := apart (Or.inr ⟨_, (wk W (.laysFinal "java/lang/String" "java/lang/String" "value" "[B"))⟩) (Or.inr ⟨_, (wk W (.laysFinal "java/lang/String" "java/lang/String" "coder" "B"))⟩) f1 f2 (t₁ := .array .byte) (t₂ := .byte) (by decide +kernel) (by decide +kernel) (by decide)
  have al := X8.warmed.alike.symm.trans X15.warmed.alike
  have n7 : T11.heap[s.heap.size]? = some N := by rw [q11]; exact n1.1
  exact ⟨T15, none, _, _, _, X15, by simp, rfl, by omega, (fun _ => rfl), ⟨rfl, _, N, bl15, ((Same.refl D _).set _ (by simp)).set _ (by simp), sl15, (Cell.slots_setSlot_ne _ ap).trans sl13, n1.keep al (p15.other hne (p13.other hne n7)), n2, by rw [al.findClass]; exact n3, n4, n5, fun y c h1 h2 => p15.other h1 (p13.other h1 (by rw [q11]; exact n6 y c h2)), by rw [p15.2.2, p13.2.2, q11]; exact z8⟩, fun fs hl => c16.trans (X15.returnOut hexec hret (hb hbytes d57) hl)⟩
end New4
namespace New1
def yN : MethodName := ⟨"java/lang/String", "<init>", "([C)V"⟩
abbrev yB : ByteArray := jdk_42_method_3_code
theorem d0 : decode yB 0 = .ok (.aload_n 0, 1) := by decide +kernel
theorem d1 : decode yB 1 = .ok (.aload_n 1, 1) := by decide +kernel
theorem d2 : decode yB 2 = .ok (.iconst 0, 1) := by decide +kernel
theorem d3 : decode yB 3 = .ok (.aload_n 1, 1) := by decide +kernel
theorem d4 : decode yB 4 = .ok (.arraylength, 1) := by decide +kernel
theorem d5 : decode yB 5 = .ok (.aconst_null, 1) := by decide +kernel
theorem d6 : decode yB 6 = .ok (.invokespecial 27, 3) := by decide +kernel
theorem d9 : decode yB 9 = .ok (.return_, 1) := by decide +kernel
def site : List Cond := [New4.tab] ++ initW "java/lang/String" 27 New4.yN
def tab : Cond := tabOf yN yB 2 none site
def P (a : Addr) (D : Cell) (fV fC : Field) (b : Addr) (A : Cell) (z : Int32) (args : Array Value) (s : State) : Prop := args = #[.ref a, .ref b] ∧ Blank "java/lang/String" a D s ∧ Found "java/lang/String" "value" "[B" fV s ∧ Found "java/lang/String" "coder" "B" fC s ∧ Ch b A s ∧ StaticIs s "java/lang/String" "COMPACT_STRINGS" "Z" (.int z) ∧ ¬ z = 0 ∧ 0 < A.slots.size ∧ A.slots.size ≤ 536870912 ∧ ∀ i, i < A.slots.size → ¬ 255 < cv A i
def E (a : Addr) (D : Cell) (fV fC : Field) (A : Cell) (r : Option Value) (s u : State) : Prop := Got a D fV fC A 0 A.slots.size r s u
/-- new String(chars), not empty, no char above 255: a Latin-1 String of their low bytes -/
theorem law (l : Launch) (a : Addr) (D : Cell) (fV fC : Field) (b : Addr) (A : Cell) (z : Int32) : Law l yN 2 1 3 52 yB 2 none site (P a D fV fC b A z) (E a D fV fC A) [⟨a, fC.slot⟩, ⟨a, fV.slot⟩] 1 A.slots.size := by
  refine Law.of_walk (plainFor_of_name (by decide +kernel)) (by decide +kernel) (by decide +kernel) (by decide) (fun _ _ h => by rw [h.1]; rfl) (fun _ U U' hal hh h => ⟨h.1, h.2.1.mv hal hh, h.2.2.1.al hal, h.2.2.2.1.al hal, h.2.2.2.2.1.mv hal hh, h.2.2.2.2.2.1.there hal hh, h.2.2.2.2.2.2⟩) (fun r U U' V V' h1 hal h2 h => Got.mv r U U' V V' h1 hal h2 h) ?_
  intro p e s m args below meth c s₁ X0 hexec hbytes hml hret hlk hnm hown hh0 W hP
  obtain ⟨rfl, hB, f1, f2, hA, s1, hz, l0, l2, hp⟩ := hP
  have c1 : Steps p.tables e below (s₁.setTop (entryFrame m #[.ref a, .ref b] 2)) (s₁.setTop (mkF m 0 #[.val (.ref a), .val (.ref b)] [])) := entry rfl
  have c2 : Steps p.tables e below (s₁.setTop (entryFrame m #[.ref a, .ref b] 2)) (s₁.setTop (mkF m 6 #[.val (.ref a), .val (.ref b)] [.null, .int (Int32.ofNat A.slots.size), .int 0, .ref b, .ref a])) := c1.trans (by
    refine XS.aloadN X0.here hexec rfl (hb hbytes d0) rfl rfl ?_
    refine XS.aloadN X0.here hexec rfl (hb hbytes d1) rfl rfl ?_
    refine iconstV X0.here hexec rfl 0 (hb hbytes d2) (by decide) ?_
    refine XS.aloadN X0.here hexec rfl (hb hbytes d3) rfl rfl ?_
    refine X0.alen hexec (hA.1.mv X0.warmed.alike hh0) rfl rfl (hb hbytes d4) ?_
    refine XS.aconstNull X0.here hexec rfl (hb hbytes d5) ?_
    exact Steps.refl _)
  obtain ⟨v3, T3, X3, E3, g3⟩ := X0.callN hexec (New4.law l a D fV fC b A z 0 A.slots.size) rfl hown (wks W (initW "java/lang/String" 27 New4.yN)) (W New4.tab (by simp only [site, List.mem_cons, List.mem_append, true_or, or_true])) (W := 0) (Nat.le_of_ble_eq_true rfl) (Nat.le_of_ble_eq_true rfl) (Nat.le_refl _) (by show 0 + A.slots.size ≤ A.slots.size; omega) (g := (mkF m 6 #[.val (.ref a), .val (.ref b)] [.null, .int (Int32.ofNat A.slots.size), .int (Int32.ofNat 0), .ref b, .ref a])) rfl (by rw [hml]; rfl) c2 (argsL := [.ref b, .int (Int32.ofNat 0), .int (Int32.ofNat A.slots.size), .null]) (rest := []) rfl rfl (by show 2 * 0 + 0 ≤ _; decide) (hb hbytes d6) (⟨rfl, hB.mv X0.warmed.alike hh0, f1.al X0.warmed.alike, f2.al X0.warmed.alike, hA.mv X0.warmed.alike hh0, s1.there X0.warmed.alike hh0, hz, l0, by omega, l2, fun i hi => by rw [Nat.zero_add]; exact hp i hi⟩)
  have e0 := Got.mv _ s₁ s _ _ hh0.symm (Vm.Alike.refl _) rfl E3
  obtain rfl := e0.1
  have c4 : Steps p.tables e below (s₁.setTop (entryFrame m #[.ref a, .ref b] 2)) (T3.setTop (mkF m 9 #[.val (.ref a), .val (.ref b)] [])) := g3
  exact ⟨T3, none, _, _, _, X3, by simp, rfl, by omega, (fun _ => rfl), e0, fun fs hl => c4.trans (X3.returnOut hexec hret (hb hbytes d9) hl)⟩
theorem pays {l : Launch} {R : Room} {p : Program} {e : Env} {below : List Frame} {s : State} {sargs : Array Value} {len W : Nat} (a : Addr) (D : Cell) (fV fC : Field) (b : Addr) (A : Cell) (z : Int32) (htab : tab.before sargs s = true) (hfr : 4 ≤ R.frames) (hlo : W + 65 ≤ R.locals) :
    Back l R p e below s sargs yN len W (fun A₁ a₁ => A₁.cells + 1 ≤ R.cells ∧ A₁.slots + A.slots.size ≤ R.slots ∧ P a D fV fC b A z a₁ A₁.U) (fun A₁ _ v₁ B₁ => E a D fV fC A v₁ A₁.U B₁.U ∧ B₁.locs = A₁.locs ++ [⟨a, fC.slot⟩, ⟨a, fV.slot⟩] ∧ B₁.cells = A₁.cells + 1 ∧ B₁.slots = A₁.slots + A.slots.size) :=
  (law l a D fV fC b A z).pays htab hfr (by omega)
end New1
/-- the byte, read back as charAt reads it, is the char -/
theorem lo8_mask {x : Int32} (h0 : ¬ x < 0) (h1 : ¬ 255 < x) : lo8 x &&& 255 = x := by
  have t : ∀ k : Fin 256, lo8 (Int32.ofNat k.val) &&& 255 = Int32.ofNat k.val := by decide +kernel
  rw [Int32.lt_iff_toInt_lt] at h0 h1
  have e0 : (0 : Int32).toInt = 0 := rfl
  have e1 : (255 : Int32).toInt = 255 := rfl
  obtain ⟨k, hk⟩ : ∃ k : Nat, x.toInt = k := ⟨x.toInt.toNat, by omega⟩
  have hx : x = Int32.ofNat k := Int32.toInt_inj.mp (by rw [hk, Int32.toInt_ofNat_small (by omega)])
  rw [hx]
  exact t ⟨k, by omega⟩
end StrChars
namespace StrChars.Road
open Jvm Sem ClassFile Op Lib Jvm.Stand Jvm.Free Jvm.Free.XT
open Jvm.Lib.Cold (StaticIs)
abbrev ST : String := "java/lang/String"
/-- every table word that New1's law asks, flat -/
abbrev words : List Jvm.Cond := [.code New1.yN New1.yB 2 none, .initialized ST, .methodLink ST 27 New4.yN, .instanceMethod New4.yN,
  .code New4.yN New4.yB 6 none, .fieldLink ST 38 ST "COMPACT_STRINGS" "Z", .laysFinal ST ST "value" "[B", .fieldLink ST 9 ST "value" "[B", .laysFinal ST ST "coder" "B", .fieldLink ST 15 ST "coder" "B",
  .methodLink ST 1 Lib.objectInit, .instanceMethod Lib.objectInit, .code Lib.objectInit ⟨#[0xb1]⟩ 1 none, .methodLink ST 177 Cmp3.yN, .static Cmp3.yN, .methodLink ST 47 CodL.yN, .static CodL.yN,
  .code Cmp3.yN Cmp3.yB 6 (some (.array .byte)), .initialized U16, .arrayClass .byte, .methodLink U16 115 Cmp5.yN, .static Cmp5.yN, .code Cmp5.yN Cmp5.yB 7 (some .int), .code CodL.yN CodL.yB 2 (some .byte)]
theorem tab_of {a : Array Value} {s : State} (h : ∀ w ∈ words, w.before a s = true) : New1.tab.before a s = true := by
  have h5 : Cmp5.tab.before a s = true := unparts (wk h (.code Cmp5.yN Cmp5.yB 7 (some .int))) (wks h (.initialized Cmp5.yN.cls :: Cmp5.site))
  have hc : CodL.tab.before a s = true := unparts (wk h (.code CodL.yN CodL.yB 2 (some .byte))) (wks h (.initialized CodL.yN.cls :: CodL.site))
  have q5 : ∀ w ∈ Cmp5.tab :: words, w.before a s = true := fun w hw => (List.mem_cons.mp hw).elim (fun e => e ▸ h5) (h w)
  have h3 : Cmp3.tab.before a s = true := unparts (wk q5 (.code Cmp3.yN Cmp3.yB 6 (some (.array .byte)))) (wks q5 (.initialized Cmp3.yN.cls :: Cmp3.site))
  have q3 : ∀ w ∈ Cmp3.tab :: CodL.tab :: words, w.before a s = true := fun w hw => (List.mem_cons.mp hw).elim (fun e => e ▸ h3) fun hw => (List.mem_cons.mp hw).elim (fun e => e ▸ hc) (h w)
  have h4 : New4.tab.before a s = true := unparts (wk q3 (.code New4.yN New4.yB 6 none)) (wks q3 (.initialized New4.yN.cls :: New4.site))
  have q4 : ∀ w ∈ New4.tab :: words, w.before a s = true := fun w hw => (List.mem_cons.mp hw).elim (fun e => e ▸ h4) (h w)
  exact unparts (wk q4 (.code New1.yN New1.yB 2 none)) (wks q4 (.initialized New1.yN.cls :: New1.site))
/-- the words ride from the start Z to the walk's own state -/
theorem moved {Z s : State} {a0 args : Array Value} (hZ : Z.Warmed39 s.vm) (hw : ∀ d ∈ words, d.before a0 Z = true) : ∀ d ∈ words, d.before args s = true := fun d hd => by
  have q := hw d hd
  have t : ∀ d ∈ words, d = .arrayClass .byte ∨ (d.onTables && d.keepsFace) = true := by decide +kernel
  rcases t d hd with rfl | t
  · exact RoadKit.mvA hZ q
  · exact RoadKit.mv hZ q t
/-- WHAT COMES BACK, over the tables of the start Z: h the heap at the call, h' behind it -/
def Q (Z : State) (x : Addr) (A : Cell) (h : Heap) (v : Option Value) (h' : Heap) (L : List Loc) : Prop := v = none ∧ (∀ y ∈ L, y.base = x) ∧ RoadKit.Keep h h' [x] ∧ h'.size = h.size + 1 ∧ RoadKit.Exa Z h' x ST ∧ RoadKit.Fld Z h' x ST "value" "[B" (.ref h.size) ∧ RoadKit.Fld Z h' x ST "coder" "B" (.int 0) ∧
  (∃ V : Cell, RoadKit.Arr Z h' h.size V .byte ∧ V.vm = .none ∧ Z.vm.findClass "[B" = some V.cls ∧ V.slots.size = A.slots.size ∧ ∀ j, j < A.slots.size → V.slots[j]? = some (.int (lo8 (cv A j)))) ∧
  ∀ (O n d : String) (w : Value), RoadKit.Fld Z h x O n d w → RoadKit.slotOf Z O n d ≠ RoadKit.slotOf Z ST "value" "[B" → RoadKit.slotOf Z O n d ≠ RoadKit.slotOf Z ST "coder" "B" → RoadKit.Fld Z h' x O n d w
/-- **new String(chars) AT A CALL, IN THE ROAD'S FORM**: for specialBack behind newO: x the fresh String, b the char[] with the cell A -/
theorem back {p : Program} {l : Launch} {e : Env} {R : Room} {s : State} {args : Array Value} {below : List Frame} {len W : Nat} {Z : State} {a0 : Array Value} {h : Heap} (hZ : Z.Warmed39 s.vm) (hw : ∀ d ∈ words, d.before a0 Z = true) {kI : Nat} (wi : (Jvm.Cond.instantiable ST kI).before a0 Z = true)
    {x b : Addr} {A : Cell} {z : Int32} {v0 c0 : Value} (E : RoadKit.Exa Z h x ST) (V : RoadKit.Fld Z h x ST "value" "[B" v0) (C : RoadKit.Fld Z h x ST "coder" "B" c0) (K : RoadKit.Arr Z h b A .char) (hty : Typed .char A) (S : RoadKit.Sta Z h ST "COMPACT_STRINGS" "Z" (.int z)) (hz : ¬ z = 0)
    (l0 : 0 < A.slots.size) (l2 : A.slots.size ≤ 536870912) (hp : ∀ i, i < A.slots.size → ¬ 255 < cv A i) (hfr : 4 ≤ R.frames) (hlo : W + 65 ≤ R.locals) :
    Back l R p e below s args New1.yN len W (fun P a => a = #[.ref x, .ref b] ∧ P.U.heap = h ∧ P.cells + 1 ≤ R.cells ∧ P.slots + A.slots.size ≤ R.slots)
      (fun P _ v B => ∃ L, Q Z x A h v B.U.heap L ∧ B.locs = P.locs ++ L ∧ B.cells = P.cells + 1 ∧ B.slots = P.slots + A.slots.size) := by
  intro m meth c P g ig mk a X hg hsize hdg hW hn hp'
  obtain ⟨rfl, rfl, r1, r2⟩ := hp'
  have al : Z.vm.Alike P.U.vm := hZ.alike.trans X.warmed.alike
  obtain ⟨D, cfV, kV, iV, fV, hD, gV, stV, knV, obV, asV, slV⟩ := id V
  obtain ⟨D', cfC, kC, iC, fC, hD', gC, stC, -, -, asC, slC⟩ := id C
  cases hD.symm.trans hD'
  obtain ⟨D2, kD, e1, e2, e3, e4, e5⟩ := id E
  cases hD.symm.trans e1
  obtain ⟨c2, k2, i1, i2, i3, -⟩ := Cond.instantiable_spec wi
  cases e2.symm.trans i1
  cases e3.symm.trans i2
  obtain ⟨kU, u1, u2⟩ := al.2.2 _ _ e3
  have hB : Blank ST x D P.U := ⟨hD, ⟨knV, fun q hq => by rw [hq] at obV; cases obV⟩, by rw [al.findClass]; exact e2, kU, u1, by rw [u2]; exact i3, by rw [u2]; exact e5 i3⟩
  have F1 : Found ST "value" "[B" fV P.U := ⟨SBG.found_only al ⟨cfV, kV, iV, gV⟩, stV⟩
  have F2 : Found ST "coder" "B" fC P.U := ⟨SBG.found_only al ⟨cfC, kC, iC, gC⟩, stC⟩
  have hA : Ch b A P.U := ⟨⟨K.1, State.isArrayOf_alike al K.2.1, K.2.2, by omega⟩, hty⟩
  have hS : StaticIs P.U ST "COMPACT_STRINGS" "Z" (.int z) := by
    obtain ⟨cfS, iS, kS, fS, st, cS, t1, t2, t3, t4, t5, t6, t7⟩ := S
    exact StaticIs.there (s := { Z with heap := P.U.heap }) ⟨cfS, iS, kS, fS, st, cS, t1, t2, t3, t4, t5, (fun q => by rw [q] at t6; cases t6), t7⟩ al rfl
  obtain ⟨v, B, X', ⟨⟨hv, E', V', q1, q2, q3, q4, q5, q6, q7, q8, q9, q10, q11⟩, hl, hc, hs⟩, st⟩ := New1.pays x D fV fC b A z (tab_of (moved hZ hw)) hfr hlo m meth c P g ig mk _ X hg hsize hdg hW hn ⟨r1, r2, rfl, hB, F1, F2, hA, hS, hz, l0, l2, hp⟩
  have al' : Z.vm.Alike B.U.vm := hZ.alike.trans X'.warmed.alike
  have hsz : E'.slots.size = D.slots.size := by
    obtain ⟨-, -, -, kB, w1, w2, w3⟩ := q1
    obtain ⟨kB', y1, y2⟩ := al'.2.2 _ _ e3
    rw [q2.2.1] at w1
    cases w1.symm.trans y1
    rw [w3, e5 i3, y2]
  refine ⟨v, B, X', ⟨_, ⟨hv, ?_, ⟨by omega, fun y cy hy hn' => q10 y cy (by simpa using hn') hy, fun y cy hy => ?_⟩, q11, ⟨E', _, q1.1, by rw [q2.2.1]; exact e2, by rw [q2.2.1]; exact e3, by rw [q2.1]; exact obV, fun _ => by rw [hsz]; exact e5 i3⟩,
    ⟨E', cfV, kV, iV, fV, q1.1, gV, stV, by rw [q2.1]; exact knV, by rw [q2.1]; exact obV, by rw [q2.2.1]; exact asV, q3⟩, ⟨E', cfC, kC, iC, fC, q1.1, gC, stC, by rw [q2.1]; exact knV, by rw [q2.1]; exact obV, by rw [q2.2.1]; exact asC, q4⟩,
    ⟨V', ⟨q5.1, State.isArrayOf_alike al'.symm q5.2.1, q5.2.2.1⟩, q6, by rw [← al'.findClass]; exact q7, q8, fun j hj => by have := q9 j hj; rwa [Nat.zero_add] at this⟩, fun O n d w F n1 n2 => ?_⟩, hl, hc, hs⟩, st⟩
  · intro y hy
    simp only [List.mem_cons, List.not_mem_nil, or_false] at hy
    rcases hy with rfl | rfl <;> rfl
  · by_cases q : y = x
    · subst q
      cases hD.symm.trans hy
      exact ⟨E', q1.1, q2.2.1, q2.1, hsz⟩
    · exact ⟨cy, q10 y cy q hy, rfl, rfl, rfl⟩
  · obtain ⟨D3, cf, k, i, f, g1, g2, g3, g4, g5, g6, g7⟩ := F
    cases hD.symm.trans g1
    simp only [RoadKit.slotOf, g2, gV, gC, Option.map_some, Option.getD_some] at n1 n2
    exact ⟨E', cf, k, i, f, q1.1, g2, g3, by rw [q2.1]; exact g4, by rw [q2.1]; exact g5, by rw [q2.2.1]; exact g6, by rw [q2.2.2 f.slot (by simp [n1, n2])]; exact g7⟩
end StrChars.Road
namespace StrChars.Road
open Jvm Sem ClassFile Op Lib Jvm.Stand Jvm.Free Jvm.Free.XT
/-- WHAT COMES BACK, the byte[] as a list of values -/
def QA (Z : State) (x : Addr) (zn : Int32) (cs : List Int32) (h : Heap) (v : Option Value) (h' : Heap) (L : List Loc) : Prop := v = none ∧ (∀ y ∈ L, y.base = x) ∧ RoadKit.Keep h h' [x] ∧ h'.size = h.size + 1 ∧ RoadKit.Exa Z h' x ST ∧ RoadKit.Fld Z h' x ST "value" "[B" (.ref h.size) ∧ RoadKit.Fld Z h' x ST "coder" "B" (.int 0) ∧
  (∃ kb, Z.vm.findClass "[B" = some kb ∧ RoadKit.Arv Z h' h.size kb .byte zn (cs.map fun c => .int (lo8 c)) (.int 0)) ∧
  ∀ (O n d : String) (w : Value), RoadKit.Fld Z h x O n d w → RoadKit.slotOf Z O n d ≠ RoadKit.slotOf Z ST "value" "[B" → RoadKit.slotOf Z O n d ≠ RoadKit.slotOf Z ST "coder" "B" → RoadKit.Fld Z h' x O n d w
/-- **new String(chars) AT A CALL, THE ARRAYS AS LISTS**: the char[] at b holds cs, not empty, no char above 255 -/
theorem backArv {p : Program} {l : Launch} {e : Env} {R : Room} {s : State} {args : Array Value} {below : List Frame} {len W : Nat} {Z : State} {a0 : Array Value} {h : Heap} (hZ : Z.Warmed39 s.vm) (hw : ∀ d ∈ words, d.before a0 Z = true) {kI : Nat} (wi : (Jvm.Cond.instantiable ST kI).before a0 Z = true)
    {x b : Addr} {k : ClassId} {zn z : Int32} {cs : List Int32} {dv v0 c0 : Value} (E : RoadKit.Exa Z h x ST) (V : RoadKit.Fld Z h x ST "value" "[B" v0) (C : RoadKit.Fld Z h x ST "coder" "B" c0) (K : RoadKit.Arv Z h b k .char zn (cs.map Value.int) dv) (S : RoadKit.Sta Z h ST "COMPACT_STRINGS" "Z" (.int z)) (hz : ¬ z = 0)
    (hlen : zn.toNatClampNeg = cs.length) (h0 : 0 < cs.length) (hbig : cs.length ≤ 536870912) (hall : ∀ c ∈ cs, ¬ 255 < c) (hfr : 4 ≤ R.frames) (hlo : W + 65 ≤ R.locals) :
    Back l R p e below s args New1.yN len W (fun P a => a = #[.ref x, .ref b] ∧ P.U.heap = h ∧ P.cells + 1 ≤ R.cells ∧ P.slots + cs.length ≤ R.slots)
      (fun P _ v B => ∃ L, QA Z x zn cs h v B.U.heap L ∧ B.locs = P.locs ++ L ∧ B.cells = P.cells + 1 ∧ B.slots = P.slots + cs.length) := by
  obtain ⟨A, K1, K2, K3, K4, K5, K6⟩ := K
  have e : A.slots.size = cs.length := K3.trans hlen
  have hat : ∀ (i : Nat) (hi : i < cs.length), A.slots[i]? = some (.int cs[i]) := fun i hi => by rw [K5 i (by omega)]; simp [List.getD_eq_getElem?_getD, hi]
  have hcv : ∀ (i : Nat) (hi : i < cs.length), cv A i = cs[i] := fun i hi => by unfold cv; rw [hat i hi]
  have hty : Typed .char A := fun i v hv => by
    have hi : i < A.slots.size := (Array.getElem?_eq_some_iff.mp hv).1
    have q := K5 i hi
    rw [hv] at q
    rw [Option.some.inj q]
    exact K6 i hi
  refine Back.mono (back hZ hw wi E V C K1 hty S hz (by omega) (by omega) (fun i hi => by rw [hcv i (by omega)]; exact hall _ (List.getElem_mem _)) hfr hlo) (fun P a hp => ⟨hp.1, hp.2.1, hp.2.2.1, by rw [e]; exact hp.2.2.2⟩) (fun P a v B hp hq => ?_)
  obtain ⟨L, ⟨q1, q2, q3, q4, q5, q6, q7, ⟨V', v1, v2, v3, v4, v5⟩, q9⟩, hl, hc, hs⟩ := hq
  refine ⟨L, ⟨q1, q2, q3, q4, q5, q6, q7, ⟨V'.cls, v3, V', v1, rfl, by rw [v4, e, hlen], K4, fun i hi => ?_, fun i hi => ?_⟩, q9⟩, hl, hc, by rw [hs, e]⟩
  · have hi' : i < cs.length := by omega
    rw [v5 i (by omega), hcv i hi']; simp [List.getD_eq_getElem?_getD, hi']
  · have hi' : i < cs.length := by omega
    simp only [List.getD_eq_getElem?_getD, List.getElem?_map, List.getElem?_eq_getElem hi', Option.map_some, Option.getD_some]
    exact fits_lo8 _
end StrChars.Road
namespace StrChars.Road
open Jvm Sem ClassFile Op Lib Jvm.Stand Jvm.Free Jvm.Free.XT
/-- WHAT COMES BACK, in the writer's own shape -/
def QV (Z : State) (x : Addr) (N : Int32) (bs : List Int32) (h : Heap) (n0 : Nat) (v : Option Value) (h' : Heap) (L : List Loc) : Prop := v = none ∧ RoadKit.Fr n0 L ∧ RoadKit.Keep h h' [x] ∧ RoadKit.Exa Z h' x ST ∧ RoadKit.Fld Z h' x ST "coder" "B" (.int 0) ∧
  ∃ (t : Addr) (kb : ClassId), n0 ≤ t ∧ h.size ≤ t ∧ ¬ t = x ∧ RoadKit.Fld Z h' x ST "value" "[B" (.ref t) ∧ RoadKit.Arv Z h' t kb .byte N (bs.map Value.int) (.int 0)
/-- **new String(chars) AT A CALL, FOR THE WRITER**: a char[] of n known ints, each 0 to 255 -/
theorem backV {p : Program} {l : Launch} {e : Env} {R : Room} {s : State} {args : Array Value} {below : List Frame} {len W : Nat} {Z : State} {a0 : Array Value} {h : Heap} (hZ : Z.Warmed39 s.vm) (hw : ∀ d ∈ words, d.before a0 Z = true) {kI : Nat} (wi : (Jvm.Cond.instantiable ST kI).before a0 Z = true)
    {x b : Addr} {kC : ClassId} {cs bs : List Int32} {d v0 c0 : Value} {z N : Int32} {n n0 : Nat} (hx0 : n0 ≤ x) (hh0 : n0 ≤ h.size) (E : RoadKit.Exa Z h x ST) (V : RoadKit.Fld Z h x ST "value" "[B" v0) (C : RoadKit.Fld Z h x ST "coder" "B" c0) (K : RoadKit.Arv Z h b kC .char N (cs.map Value.int) d) (S : RoadKit.Sta Z h ST "COMPACT_STRINGS" "Z" (.int z)) (hz : ¬ z = 0)
    (hn : cs.length = n) (hN : N = Int32.ofNat n) (l0 : 0 < n) (l2 : n ≤ 4000) (hp : ∀ c ∈ cs, ¬ c < 0 ∧ ¬ (255 : Int32) < c) (hb : bs = cs.map (fun c => c.toInt8.toInt32)) (hfr : 4 ≤ R.frames) (hlo : W + 65 ≤ R.locals) :
    Back l R p e below s args (⟨"java/lang/String", "<init>", "([C)V"⟩ : MethodName) len W (fun P a => a = #[.ref x, .ref b] ∧ P.U.heap = h ∧ P.cells + 1 ≤ R.cells ∧ P.slots + n ≤ R.slots)
      (fun P _ v B => ∃ L, QV Z x N bs h n0 v B.U.heap L ∧ B.locs = P.locs ++ L ∧ B.cells = P.cells + 1 ∧ B.slots = P.slots + n) := by
  subst hn hN hb
  refine Back.mono (backArv hZ hw wi E V C K S hz (n32 (by omega)) l0 (by omega) (fun c hc => (hp c hc).2) hfr hlo) (fun P a hp => hp) (fun P a v B hp hq => ?_)
  obtain ⟨L, ⟨q1, q2, q3, q4, q5, q6, q7, ⟨kb, v1, v2⟩, q9⟩, hl, hc, hs⟩ := hq
  exact ⟨L, ⟨q1, fun y hy => by rw [q2 y hy]; exact hx0, q3, q5, q7, h.size, kb, hh0, Nat.le_refl _, Nat.ne_of_gt E.lt, q6, by rw [List.map_map]; exact v2⟩, hl, hc, hs⟩
end StrChars.Road
namespace StrChars
open Jvm Sem ClassFile Op Lib Jvm.Stand Jvm.Free.XT Jvm.Free.ALB Jvm.Free.JM Jvm.Free
open Jvm.Lib.Cold (StaticIs)
def hi8 (x : Int32) : Int32 := lo8 (x >>> ((8 : Int32) &&& 31))
/-- what StringUTF16.getChar makes of two bytes -/
def pairCh (u v : Int32) : Int32 := (((u &&& 255) <<< ((0 : Int32) &&& 31)) ||| ((v &&& 255) <<< ((8 : Int32) &&& 31))).toUInt32.toUInt16.toUInt32.toInt32
theorem lo8_and (x : Int32) : (lo8 x &&& 255).toBitVec.toNat = x.toBitVec.toNat % 256 := by
  have h : (lo8 x).toBitVec = (x.toBitVec.signExtend 8).signExtend 32 := by rw [lo8, Int8.toBitVec_toInt32, Int32.toBitVec_toInt8]
  rw [Int32.toBitVec_and, BitVec.toNat_and, h]
  have e : ((x.toBitVec.signExtend 8).signExtend 32).toNat % 256 = x.toBitVec.toNat % 256 := by
    rw [BitVec.toNat_signExtend]
    have hlt := x.toBitVec.isLt
    simp only [BitVec.toNat_setWidth, BitVec.toNat_signExtend]
    split <;> split <;> omega
  rw [← e]
  exact Nat.and_two_pow_sub_one_eq_mod _ 8
theorem pair_says {c : Int32} (h0 : ¬ c < 0) (h1 : ¬ 65535 < c) : pairCh (lo8 c) (hi8 c) = c := by
  rw [Int32.lt_iff_toInt_lt] at h0 h1
  have e0 : (0 : Int32).toInt = 0 := rfl
  have e1 : (65535 : Int32).toInt = 65535 := rfl
  have hc : c.toInt = c.toBitVec.toNat := by
    have := c.toBitVec.isLt
    have e : c.toInt = c.toBitVec.toInt := rfl
    rw [e] at h0 h1
    rw [e]
    rw [BitVec.toInt_eq_toNat_cond] at h0 h1 ⊢
    split at h0 <;> split <;> omega
  have hn : c.toBitVec.toNat < 65536 := by omega
  have a1 := lo8_and c
  have a2 : (hi8 c &&& 255).toBitVec.toNat = c.toBitVec.toNat / 256 := by
    rw [hi8, lo8_and]
    have e : ((8 : Int32) &&& 31) = 8 := by decide
    rw [e, Int32.toBitVec_shiftRight]
    have e2 : ((8 : Int32).toBitVec.smod 32) = 8#32 := by decide
    rw [e2, BitVec.sshiftRight_eq', BitVec.toNat_sshiftRight_of_msb_false (by rw [BitVec.msb_eq_false_iff_two_mul_lt]; omega)]
    show c.toBitVec.toNat >>> 8 % 256 = _
    rw [Nat.shiftRight_eq_div_pow]
    omega
  unfold pairCh
  apply Int32.toBitVec_inj.mp
  apply BitVec.eq_of_toNat_eq
  have f0 : ((0 : Int32) &&& 31) = 0 := by decide
  have f8 : ((8 : Int32) &&& 31) = 8 := by decide
  rw [f0, f8]
  have g : (((lo8 c &&& 255) <<< (0 : Int32)) ||| ((hi8 c &&& 255) <<< (8 : Int32))).toBitVec.toNat = c.toBitVec.toNat := by
    rw [Int32.toBitVec_or, Int32.toBitVec_shiftLeft, Int32.toBitVec_shiftLeft]
    have s0 : ((0 : Int32).toBitVec.smod 32) = 0#32 := by decide
    have s8 : ((8 : Int32).toBitVec.smod 32) = 8#32 := by decide
    rw [s0, s8, BitVec.toNat_or]
    simp only [BitVec.shiftLeft_eq', BitVec.toNat_shiftLeft, a1, a2]
    show (c.toBitVec.toNat % 256) <<< 0 % 2 ^ 32 ||| (c.toBitVec.toNat / 256) <<< 8 % 2 ^ 32 = _
    rw [Nat.shiftLeft_zero, Nat.mod_eq_of_lt (show c.toBitVec.toNat % 256 < 2 ^ 32 by omega), Nat.mod_eq_of_lt (show (c.toBitVec.toNat / 256) <<< 8 < 2 ^ 32 by rw [Nat.shiftLeft_eq]; omega), Nat.or_comm, ← Nat.shiftLeft_add_eq_or_of_lt (by omega), Nat.shiftLeft_eq]
    omega
  show BitVec.toNat (((((lo8 c &&& 255) <<< (0 : Int32)) ||| ((hi8 c &&& 255) <<< (8 : Int32))).toBitVec.setWidth 16).setWidth 32) = _
  rw [BitVec.toNat_setWidth, BitVec.toNat_setWidth, g]
  omega
end StrChars
namespace StrChars
open Jvm Sem ClassFile Op Lib Jvm.Stand Jvm.Free.XT Jvm.Free.ALB Jvm.Free.JM Jvm.Free
open Jvm.Lib.Cold (StaticIs)
/-- the array's cell V codes the n chars f 0 .. f (n - 1) by the coder cd, as the JDK does: coder 1 just where some char is above 255 -/
def Cod (cd : Int32) (n : Nat) (f : Nat → Int32) (V : Cell) : Prop := (cd = 0 ∧ V.slots.size = n ∧ ∀ j, j < n → V.slots[j]? = some (.int (lo8 (f j))) ∧ ¬ 255 < f j) ∨ (cd = 1 ∧ V.slots.size = 2 * n ∧ (∀ j, j < n → V.slots[2 * j]? = some (.int (lo8 (f j))) ∧ V.slots[2 * j + 1]? = some (.int (hi8 (f j)))) ∧ ∃ j, j < n ∧ 255 < f j)
/-- **x is a String of the n chars f 0 .. f (n - 1)**, Latin-1 or UTF-16; its array at t has the cell V -/
def Txt (x t : Addr) (V : Cell) (cd : Int32) (n : Nat) (f : Nat → Int32) (U : State) : Prop := Exact "java/lang/String" x U ∧ Has x "java/lang/String" "value" "[B" (.ref t) U ∧ Has x "java/lang/String" "coder" "B" (.int cd) U ∧ XT.Arr .byte t V U ∧ Cod cd n f V ∧ ∀ j, j < n → ¬ f j < 0 ∧ ¬ 65535 < f j
theorem Txt.mv {x t : Addr} {V : Cell} {cd : Int32} {n : Nat} {f : Nat → Int32} {U U' : State} (h : Txt x t V cd n f U) (hal : U.vm.Alike U'.vm) (hh : U'.heap = U.heap) : Txt x t V cd n f U' := ⟨h.1.mv hal hh, h.2.1.mv hal hh, h.2.2.1.mv hal hh, h.2.2.2.1.mv hal hh, h.2.2.2.2⟩
end StrChars
namespace StrChars.Road
open Jvm Sem ClassFile Op Lib Jvm.Stand Jvm.Free Jvm.Free.XT
open Jvm.Lib.Cold (StaticIs)
theorem consq {a : Array Value} {s : State} {c : Jvm.Cond} {L : List Jvm.Cond} (h0 : c.before a s = true) (h : ∀ w ∈ L, w.before a s = true) : ∀ w ∈ c :: L, w.before a s = true := fun w hw => (List.mem_cons.mp hw).elim (fun e => e ▸ h0) (h w)
/-- the bytes of the chars cs, low before high -/
def wideBytes : List Int32 → List Value
  | [] => []
  | c :: cs => .int (lo8 c) :: .int (hi8 c) :: wideBytes cs
theorem wide_lo (d : Value) : ∀ (cs : List Int32) (j : Nat), j < cs.length → (wideBytes cs).getD (2 * j) d = .int (lo8 (cs.getD j 0))
  | [], j, h => absurd h (Nat.not_lt_zero j)
  | c :: cs, 0, _ => rfl
  | c :: cs, j + 1, h => by
    have q := wide_lo d cs j (by simpa using h)
    rw [show 2 * (j + 1) = 2 * j + 1 + 1 from by omega]
    simpa [wideBytes] using q
theorem wide_hi (d : Value) : ∀ (cs : List Int32) (j : Nat), j < cs.length → (wideBytes cs).getD (2 * j + 1) d = .int (hi8 (cs.getD j 0))
  | [], j, h => absurd h (Nat.not_lt_zero j)
  | c :: cs, 0, _ => rfl
  | c :: cs, j + 1, h => by
    have q := wide_hi d cs j (by simpa using h)
    rw [show 2 * (j + 1) + 1 = 2 * j + 1 + 1 + 1 from by omega]
    simpa [wideBytes] using q
theorem low_at (d : Value) (cs : List Int32) (j : Nat) (h : j < cs.length) : (cs.map fun c => Value.int (lo8 c)).getD j d = .int (lo8 (cs.getD j 0)) := by
  simp [List.getD_eq_getElem?_getD, h]
/-- an array of N2 bytes vs codes the chars cs by the coder cd -/
def CodA (cs : List Int32) (cd N2 : Int32) (vs : List Value) : Prop := (cd = 0 ∧ N2 = Int32.ofNat cs.length ∧ vs = (cs.map fun c => Value.int (lo8 c)) ∧ ∀ c ∈ cs, ¬ 255 < c) ∨ (cd = 1 ∧ N2 = Int32.ofNat (2 * cs.length) ∧ vs = wideBytes cs ∧ ∃ c ∈ cs, 255 < c)
theorem CodA.cod {cs : List Int32} {cd N2 : Int32} {vs : List Value} {V : Cell} (h : CodA cs cd N2 vs) (hn : 2 * cs.length < 2 ^ 31) (hs : V.slots.size = N2.toNatClampNeg) (hv : RoadKit.Has V vs (.int 0)) : Cod cd cs.length (fun j => cs.getD j 0) V := by
  rcases h with ⟨rfl, rfl, rfl, h⟩ | ⟨rfl, rfl, rfl, c, hc, hw⟩
  · rw [n32 (by omega)] at hs
    exact Or.inl ⟨rfl, hs, fun j hj => ⟨by rw [hv j (by omega), low_at _ _ _ hj], by
      have e : cs.getD j 0 = cs[j] := by simp [List.getD_eq_getElem?_getD, hj]
      show ¬ 255 < cs.getD j 0
      rw [e]; exact h _ (List.getElem_mem _)⟩⟩
  · rw [n32 (by omega)] at hs
    obtain ⟨j, hj, rfl⟩ := List.getElem_of_mem hc
    exact Or.inr ⟨rfl, hs, fun j hj => ⟨by rw [hv _ (by omega), wide_lo _ _ _ hj], by rw [hv _ (by omega), wide_hi _ _ _ hj]⟩, j, hj, by
      have e : cs.getD j 0 = cs[j] := by simp [List.getD_eq_getElem?_getD, hj]
      show 255 < cs.getD j 0
      rw [e]; exact hw⟩
/-- an object of exactly java/lang/String, its two fields found: as the laws ask it -/
theorem strObj {Z U : State} {a0 : Array Value} {kI : Nat} (wi : (Jvm.Cond.instantiable ST kI).before a0 Z = true) (al : Z.vm.Alike U.vm) {x : Addr} {v0 c0 : Value} (E : RoadKit.Exa Z U.heap x ST) (V : RoadKit.Fld Z U.heap x ST "value" "[B" v0) (C : RoadKit.Fld Z U.heap x ST "coder" "B" c0) :
    ∃ (D : Cell) (fV fC : Field), Blank ST x D U ∧ Found ST "value" "[B" fV U ∧ Found ST "coder" "B" fC U ∧ D.slots[fV.slot]? = some v0 ∧ D.slots[fC.slot]? = some c0 ∧ RoadKit.slotOf Z ST "value" "[B" = fV.slot ∧ RoadKit.slotOf Z ST "coder" "B" = fC.slot := by
  obtain ⟨D, cfV, kV, iV, fV, hD, gV, stV, knV, obV, asV, slV⟩ := V
  obtain ⟨D', cfC, kC, iC, fC, hD', gC, stC, -, -, asC, slC⟩ := C
  cases hD.symm.trans hD'
  obtain ⟨D2, kD, e1, e2, e3, e4, e5⟩ := E
  cases hD.symm.trans e1
  obtain ⟨c2, k2, i1, i2, i3, -⟩ := Cond.instantiable_spec wi
  cases e2.symm.trans i1
  cases e3.symm.trans i2
  obtain ⟨kU, u1, u2⟩ := al.2.2 _ _ e3
  exact ⟨D, fV, fC, ⟨hD, ⟨knV, fun q hq => by rw [hq] at obV; cases obV⟩, by rw [al.findClass]; exact e2, kU, u1, by rw [u2]; exact i3, by rw [u2]; exact e5 i3⟩, ⟨SBG.found_only al ⟨cfV, kV, iV, gV⟩, stV⟩, ⟨SBG.found_only al ⟨cfC, kC, iC, gC⟩, stC⟩, slV, slC, by simp [RoadKit.slotOf, gV], by simp [RoadKit.slotOf, gC]⟩
theorem sta_is {Z U : State} (al : Z.vm.Alike U.vm) {C n d : String} {v : Value} (S : RoadKit.Sta Z U.heap C n d v) : StaticIs U C n d v := by
  obtain ⟨cfS, iS, kS, fS, st, cS, t1, t2, t3, t4, t5, t6, t7⟩ := S
  exact StaticIs.there (s := { Z with heap := U.heap }) ⟨cfS, iS, kS, fS, st, cS, t1, t2, t3, t4, t5, (fun q => by rw [q] at t6; cases t6), t7⟩ al rfl
end StrChars.Road
namespace StrChars
open Jvm Sem ClassFile Op Lib Jvm.Stand Jvm.Free.XT Jvm.Free.ALB Jvm.Free.JM Jvm.Free
open Jvm.Lib.Cold (StaticIs)
/-- what place i of a byte[]'s cell holds -/
def yv (A : Cell) (i : Nat) : Int32 := match A.slots[i]? with | some (.int x) => x | _ => 0
theorem yv_get {a : Addr} {A : Cell} {U : State} (h : XT.Arr .byte a A U) (ht : Typed .byte A) {i : Nat} (hi : i < A.slots.size) : A.slots[i]? = some (.int (yv A i)) := by
  have e := Array.getElem?_eq_getElem hi
  have f := ht i _ e
  unfold yv; rw [e]
  generalize A.slots[i] = v at f
  cases v <;> simp [fits] at f ⊢
/-- the two arrays are equal, place for place -/
def EqC (A B : Cell) : Prop := A.slots.size = B.slots.size ∧ ∀ i, i < A.slots.size → yv A i = yv B i
/-- a boolean that says whether p -/
def Says01 (q : Prop) (r : Option Value) (s u : State) : Prop := ∃ v : Int32, r = some (.int v) ∧ u.heap = s.heap ∧ ((v = 1 ∧ q) ∨ (v = 0 ∧ ¬ q))
theorem Says01.mv {q : Prop} : ∀ r (U U' V V' : State), U'.heap = U.heap → V.vm.Alike V'.vm → V'.heap = V.heap → Says01 q r U V → Says01 q r U' V' :=
  fun r U U' V V' h1 _ h2 ⟨v, a, b, c⟩ => ⟨v, a, by rw [h1, h2]; exact b, c⟩
namespace LEq
def yN : MethodName := ⟨"java/lang/StringLatin1", "equals", "([B[B)Z"⟩
abbrev yB : ByteArray := jdk_43_method_13_code
theorem d0 : decode yB 0 = .ok (.aload_n 0, 1) := by decide +kernel
theorem d1 : decode yB 1 = .ok (.arraylength, 1) := by decide +kernel
theorem d2 : decode yB 2 = .ok (.aload_n 1, 1) := by decide +kernel
theorem d3 : decode yB 3 = .ok (.arraylength, 1) := by decide +kernel
theorem d4 : decode yB 4 = .ok (.if_icmp (.ne) 30, 3) := by decide +kernel
theorem d7 : decode yB 7 = .ok (.iconst 0, 1) := by decide +kernel
theorem d8 : decode yB 8 = .ok (.istore_n 2, 1) := by decide +kernel
theorem d9 : decode yB 9 = .ok (.iload_n 2, 1) := by decide +kernel
theorem d10 : decode yB 10 = .ok (.aload_n 0, 1) := by decide +kernel
theorem d11 : decode yB 11 = .ok (.arraylength, 1) := by decide +kernel
theorem d12 : decode yB 12 = .ok (.if_icmp (.ge) 20, 3) := by decide +kernel
theorem d15 : decode yB 15 = .ok (.aload_n 0, 1) := by decide +kernel
theorem d16 : decode yB 16 = .ok (.iload_n 2, 1) := by decide +kernel
theorem d17 : decode yB 17 = .ok (.baload, 1) := by decide +kernel
theorem d18 : decode yB 18 = .ok (.aload_n 1, 1) := by decide +kernel
theorem d19 : decode yB 19 = .ok (.iload_n 2, 1) := by decide +kernel
theorem d20 : decode yB 20 = .ok (.baload, 1) := by decide +kernel
theorem d21 : decode yB 21 = .ok (.if_icmp (.eq) 5, 3) := by decide +kernel
theorem d24 : decode yB 24 = .ok (.iconst 0, 1) := by decide +kernel
theorem d25 : decode yB 25 = .ok (.ireturn, 1) := by decide +kernel
theorem d26 : decode yB 26 = .ok (.iinc 2 1, 3) := by decide +kernel
theorem d29 : decode yB 29 = .ok (.goto (-20), 3) := by decide +kernel
theorem d32 : decode yB 32 = .ok (.iconst 1, 1) := by decide +kernel
theorem d33 : decode yB 33 = .ok (.ireturn, 1) := by decide +kernel
theorem d34 : decode yB 34 = .ok (.iconst 0, 1) := by decide +kernel
theorem d35 : decode yB 35 = .ok (.ireturn, 1) := by decide +kernel
def site : List Cond := []
def tab : Cond := tabOf yN yB 3 (some .boolean) site
def P (a : Addr) (A : Cell) (b : Addr) (B : Cell) (args : Array Value) (s : State) : Prop := args = #[.ref a, .ref b] ∧ XT.Arr .byte a A s ∧ Typed .byte A ∧ XT.Arr .byte b B s ∧ Typed .byte B
/-- whether two byte[] are equal, place for place -/
theorem law (l : Launch) (a : Addr) (A : Cell) (b : Addr) (B : Cell) : Law l yN 2 2 0 0 yB 3 (some .boolean) site (P a A b B) (Says01 (EqC A B)) [] 0 0 := by
  refine Law.of_walk (plainFor_of_name (by decide +kernel)) (by decide +kernel) (by decide +kernel) (by decide) (fun _ _ h => by rw [h.1]; rfl) (fun _ U U' hal hh h => ⟨h.1, h.2.1.mv hal hh, h.2.2.1, h.2.2.2.1.mv hal hh, h.2.2.2.2⟩) (fun r U U' V V' h1 hal h2 h => Says01.mv r U U' V V' h1 hal h2 h) ?_
  intro p e s m args below meth c s₁ X0 hexec hbytes hml hret hlk hnm hown hh0 W hP
  obtain ⟨rfl, hA, tA, hB, tB⟩ := hP
  have a31 := hA.2.2.2
  have b31 := hB.2.2.2
  have hA0 := hA.mv X0.warmed.alike hh0
  have hB0 := hB.mv X0.warmed.alike hh0
  have c1 : Steps p.tables e below (s₁.setTop (entryFrame m #[.ref a, .ref b] 3)) (s₁.setTop (mkF m 0 #[.val (.ref a), .val (.ref b), .unset] [])) := entry rfl
  have c2 : Steps p.tables e below (s₁.setTop (entryFrame m #[.ref a, .ref b] 3)) (s₁.setTop (mkF m 4 #[.val (.ref a), .val (.ref b), .unset] [.int (Int32.ofNat B.slots.size), .int (Int32.ofNat A.slots.size)])) := c1.trans (by
    refine XS.aloadN X0.here hexec rfl (hb hbytes d0) rfl rfl ?_
    refine X0.alen hexec hA0 rfl rfl (hb hbytes d1) ?_
    refine XS.aloadN X0.here hexec rfl (hb hbytes d2) rfl rfl ?_
    refine X0.alen hexec hB0 rfl rfl (hb hbytes d3) ?_
    exact Steps.refl _)
  by_cases hs : A.slots.size = B.slots.size
  · have c3 : Steps p.tables e below (s₁.setTop (entryFrame m #[.ref a, .ref b] 3)) (s₁.setTop (mkF m 9 #[.val (.ref a), .val (.ref b), .val (.int 0)] [])) := c2.trans (by
      refine XS.icmpNo X0.here hexec rfl (hb hbytes d4) rfl (ii_ne_f (by rw [hs])) ?_
      refine iconstV X0.here hexec rfl 0 (hb hbytes d7) (by decide) ?_
      refine XS.istoreN X0.here hexec rfl (hb hbytes d8) rfl rfl ?_
      exact Steps.refl _)
    have loop : ∀ (r i : Nat), i + r = A.slots.size → (∀ j, j < i → yv A j = yv B j) → Steps p.tables e below (s₁.setTop (entryFrame m #[.ref a, .ref b] 3)) (s₁.setTop (mkF m 9 #[.val (.ref a), .val (.ref b), .val (.int (Int32.ofNat i))] [])) → ∃ (pc : Nat) (Ls : Array Slot) (v : Int32), (pc = 25 ∨ pc = 33) ∧ ((v = 1 ∧ EqC A B) ∨ (v = 0 ∧ ¬ EqC A B)) ∧ Steps p.tables e below (s₁.setTop (entryFrame m #[.ref a, .ref b] 3)) (s₁.setTop (mkF m pc Ls [.int v])) := by
      intro r
      induction r with
      | zero =>
        intro i hi he cl
        exact ⟨33, _, 1, Or.inr rfl, Or.inl ⟨rfl, hs, fun j hj => he j (by omega)⟩, cl.trans (by
          refine XS.iloadN X0.here hexec rfl (hb hbytes d9) rfl ?_
          refine XS.aloadN X0.here hexec rfl (hb hbytes d10) rfl rfl ?_
          refine X0.alen hexec hA0 rfl rfl (hb hbytes d11) ?_
          refine XS.icmpYes X0.here hexec rfl (pc0 := 12) rfl (hb hbytes d12) rfl (ii_ge_t (nlt32 (by omega) (by omega))) (by decide) rfl ?_
          refine iconstV X0.here hexec rfl 1 (hb hbytes d32) (by decide) ?_
          exact Steps.refl _)⟩
      | succ r ih =>
        intro i hi he cl
        have c4 : Steps p.tables e below (s₁.setTop (entryFrame m #[.ref a, .ref b] 3)) (s₁.setTop (mkF m 21 #[.val (.ref a), .val (.ref b), .val (.int (Int32.ofNat i))] [.int (yv B i), .int (yv A i)])) := cl.trans (by
          refine XS.iloadN X0.here hexec rfl (hb hbytes d9) rfl ?_
          refine XS.aloadN X0.here hexec rfl (hb hbytes d10) rfl rfl ?_
          refine X0.alen hexec hA0 rfl rfl (hb hbytes d11) ?_
          refine XS.icmpNo X0.here hexec rfl (hb hbytes d12) rfl (ii_ge_f (lt32 (by omega) (by omega))) ?_
          refine XS.aloadN X0.here hexec rfl (hb hbytes d15) rfl rfl ?_
          refine XS.iloadN X0.here hexec rfl (hb hbytes d16) rfl ?_
          refine X0.aget hexec hA0 rfl (yv_get hA tA (i := i) (by omega)) rfl rfl (hb hbytes d17) ?_
          refine XS.aloadN X0.here hexec rfl (hb hbytes d18) rfl rfl ?_
          refine XS.iloadN X0.here hexec rfl (hb hbytes d19) rfl ?_
          refine X0.aget hexec hB0 rfl (yv_get hB tB (i := i) (by omega)) rfl rfl (hb hbytes d20) ?_
          exact Steps.refl _)
        by_cases hv : yv A i = yv B i
        · have c5 : Steps p.tables e below (s₁.setTop (entryFrame m #[.ref a, .ref b] 3)) (s₁.setTop (mkF m 9 #[.val (.ref a), .val (.ref b), .val (.int (Int32.ofNat i + 1))] [])) := c4.trans (by
            refine XS.icmpYes X0.here hexec rfl (pc0 := 21) rfl (hb hbytes d21) rfl (ii_eq_t hv) (by decide) rfl ?_
            refine iincV X0.here hexec rfl 1 (hb hbytes d26) (by decide) rfl rfl ?_
            refine XS.goto X0.here hexec rfl (pc0 := 29) rfl (hb hbytes d29) (by decide) rfl ?_
            exact Steps.refl _)
          rw [succ32] at c5
          exact ih (i + 1) (by omega) (fun j hj => by
            by_cases e : j = i
            · rw [e]; exact hv
            · exact he j (by omega)) c5
        · exact ⟨25, _, 0, Or.inl rfl, Or.inr ⟨rfl, fun q => hv (q.2 i (by omega))⟩, c4.trans (by
            refine XS.icmpNo X0.here hexec rfl (hb hbytes d21) rfl (ii_eq_f hv) ?_
            refine iconstV X0.here hexec rfl 0 (hb hbytes d24) (by decide) ?_
            exact Steps.refl _)⟩
    obtain ⟨pc, Ls, v, hpc, hv, cz⟩ := loop A.slots.size 0 (by omega) (fun j hj => absurd hj (Nat.not_lt_zero j)) c3
    have nv : narrow .boolean (.int v) = .int v := by rcases hv with ⟨rfl, -⟩ | ⟨rfl, -⟩ <;> rfl
    rcases hpc with rfl | rfl
    · exact ⟨s₁, some (.int v), _, _, _, X0, rfl, rfl, rfl, (fun h => by cases h), ⟨v, rfl, hh0, hv⟩, fun fs hl => cz.trans (X0.ireturnOut hexec hret nv (Or.inr (Or.inl rfl)) (hb hbytes d25) hl)⟩
    · exact ⟨s₁, some (.int v), _, _, _, X0, rfl, rfl, rfl, (fun h => by cases h), ⟨v, rfl, hh0, hv⟩, fun fs hl => cz.trans (X0.ireturnOut hexec hret nv (Or.inr (Or.inl rfl)) (hb hbytes d33) hl)⟩
  · have c3 : Steps p.tables e below (s₁.setTop (entryFrame m #[.ref a, .ref b] 3)) (s₁.setTop (mkF m 35 #[.val (.ref a), .val (.ref b), .unset] [.int 0])) := c2.trans (by
      refine XS.icmpYes X0.here hexec rfl (pc0 := 4) rfl (hb hbytes d4) rfl (ii_ne_t (ne32 a31 b31 hs)) (by decide) rfl ?_
      refine iconstV X0.here hexec rfl 0 (hb hbytes d34) (by decide) ?_
      exact Steps.refl _)
    exact ⟨s₁, some (.int 0), _, _, _, X0, rfl, rfl, rfl, (fun h => by cases h), ⟨0, rfl, hh0, Or.inr ⟨rfl, fun q => hs q.1⟩⟩, fun fs hl => c3.trans (X0.ireturnOut hexec hret rfl (Or.inr (Or.inl rfl)) (hb hbytes d35) hl)⟩
end LEq
theorem Cod.ty {cd : Int32} {n : Nat} {f : Nat → Int32} {V : Cell} (h : Cod cd n f V) : Typed .byte V := fun i v hv => by
  have hi : i < V.slots.size := (Array.getElem?_eq_some_iff.mp hv).1
  rcases h with ⟨-, k1, k2⟩ | ⟨-, k1, k2, -⟩
  · rw [(k2 i (by omega)).1] at hv; cases hv; exact fits_lo8 _
  · rcases Nat.mod_two_eq_zero_or_one i with e | e
    · obtain ⟨j, rfl⟩ : ∃ j, i = 2 * j := ⟨i / 2, by omega⟩
      rw [(k2 j (by omega)).1] at hv; cases hv; exact fits_lo8 _
    · obtain ⟨j, rfl⟩ : ∃ j, i = 2 * j + 1 := ⟨i / 2, by omega⟩
      rw [(k2 j (by omega)).2] at hv; cases hv; exact fits_lo8 _
/-- the same text -/
def SameT (n : Nat) (f : Nat → Int32) (k : Nat) (g : Nat → Int32) : Prop := n = k ∧ ∀ j, j < n → f j = g j
theorem lo8_inj {x y : Int32} (h0 : ¬ x < 0) (h1 : ¬ 255 < x) (k0 : ¬ y < 0) (k1 : ¬ 255 < y) (h : lo8 x = lo8 y) : x = y := by
  rw [← lo8_mask h0 h1, ← lo8_mask k0 k1, h]
/-- arrays coded by one coder are equal just where the texts are -/
theorem Cod.eqv {cd : Int32} {n k : Nat} {f g : Nat → Int32} {V V' : Cell} (h : Cod cd n f V) (h' : Cod cd k g V') (hf : ∀ j, j < n → ¬ f j < 0 ∧ ¬ 65535 < f j) (hg : ∀ j, j < k → ¬ g j < 0 ∧ ¬ 65535 < g j) : EqC V V' ↔ SameT n f k g := by
  have yvv : ∀ {W : Cell} {i : Nat} {x : Int32}, W.slots[i]? = some (.int x) → yv W i = x := fun q => by unfold yv; rw [q]
  rcases h with ⟨rfl, k1, k2⟩ | ⟨rfl, k1, k2, -⟩
  · rcases h' with ⟨-, m1, m2⟩ | ⟨e, -⟩
    · constructor
      · rintro ⟨e1, e2⟩
        refine ⟨by omega, fun j hj => ?_⟩
        have q := e2 j (by omega)
        rw [yvv (k2 j hj).1, yvv (m2 j (by omega)).1] at q
        exact lo8_inj (hf j hj).1 (k2 j hj).2 (hg j (by omega)).1 (m2 j (by omega)).2 q
      · rintro ⟨rfl, e2⟩
        refine ⟨by omega, fun j hj => ?_⟩
        rw [yvv (k2 j (by omega)).1, yvv (m2 j (by omega)).1, e2 j (by omega)]
    · exact absurd e (by decide)
  · rcases h' with ⟨e, -⟩ | ⟨-, m1, m2, -⟩
    · exact absurd e (by decide)
    · constructor
      · rintro ⟨e1, e2⟩
        refine ⟨by omega, fun j hj => ?_⟩
        have q1 := e2 (2 * j) (by omega)
        have q2 := e2 (2 * j + 1) (by omega)
        rw [yvv (k2 j hj).1, yvv (m2 j (by omega)).1] at q1
        rw [yvv (k2 j hj).2, yvv (m2 j (by omega)).2] at q2
        rw [← pair_says (hf j hj).1 (hf j hj).2, ← pair_says (hg j (by omega)).1 (hg j (by omega)).2, q1, q2]
      · rintro ⟨rfl, e2⟩
        refine ⟨by omega, fun i hi => ?_⟩
        rcases Nat.mod_two_eq_zero_or_one i with e | e
        · obtain ⟨j, rfl⟩ : ∃ j, i = 2 * j := ⟨i / 2, by omega⟩
          rw [yvv (k2 j (by omega)).1, yvv (m2 j (by omega)).1, e2 j (by omega)]
        · obtain ⟨j, rfl⟩ : ∃ j, i = 2 * j + 1 := ⟨i / 2, by omega⟩
          rw [yvv (k2 j (by omega)).2, yvv (m2 j (by omega)).2, e2 j (by omega)]
/-- two codings differ: so do the texts -/
theorem Cod.dif {cd cd' : Int32} {n k : Nat} {f g : Nat → Int32} {V V' : Cell} (h : Cod cd n f V) (h' : Cod cd' k g V') (hne : ¬ cd = cd') : ¬ SameT n f k g := by
  rintro ⟨rfl, e⟩
  rcases h with ⟨rfl, -, k2⟩ | ⟨rfl, -, -, j, hj, hw⟩
  · rcases h' with ⟨rfl, -⟩ | ⟨-, -, -, j, hj, hw⟩
    · exact hne rfl
    · exact (k2 j hj).2 (by rw [e j hj]; exact hw)
  · rcases h' with ⟨-, -, m2⟩ | ⟨rfl, -⟩
    · exact (m2 j hj).2 (by rw [← e j hj]; exact hw)
    · exact hne rfl
/-- an object of exactly C is an instance of C -/
theorem cinst {p : Program} {l : Launch} {e : Env} {R : Room} {s : State} {m : MethodId} {args : Array Value} {below : List Frame} {meth : Method} {c : Code} {T : State} {locs : List Loc} {cells slots : Nat} (X : Stand p l e R s m args below meth c T locs cells slots) (hexec : p.tables.exec = Jvm.exec) {own C : String} {index : Nat} (hown : s.vm.findClass own = some m.cls) (hlink : (Cond.classLink own index C).before args s = true) {a : Addr} (hE : Exact C a T)
    {g : JFrame} (hg : g.method = m) {rest : List Value} (hstack : g.stack = .ref a :: rest) (hdg : decode c.code g.pc = .ok (.instanceof index, 3)) :
    ∃ T', Stand p l e R s m args below meth c T' locs cells slots ∧ T'.heap = T.heap ∧ ∀ target, Steps p.tables e below (T'.setTop { g with pc := g.pc + 3, stack := .int 1 :: rest }) target → Steps p.tables e below (T.setTop g) target := by
  obtain ⟨cB, h1, D, h2, h3, h4⟩ := hE
  have h1' : s.vm.findClass C = some cB := by rw [← X.warmed.alike.findClass]; exact h1
  obtain ⟨vm', X', st⟩ := X.instanceofYes hexec hown hlink h2 h4 h1' (by rw [h3]; exact Jvm.Free.SB.assignable_self _ _) hg hstack hdg
  exact ⟨_, X', rfl, st⟩
theorem cself {p : Program} {l : Launch} {e : Env} {R : Room} {s : State} {m : MethodId} {args : Array Value} {below : List Frame} {meth : Method} {c : Code} {T : State} {locs : List Loc} {cells slots : Nat} (X : Stand p l e R s m args below meth c T locs cells slots) (hexec : p.tables.exec = Jvm.exec) {own C : String} {index : Nat} (hown : s.vm.findClass own = some m.cls) (hlink : (Cond.classLink own index C).before args s = true) {a : Addr} (hE : Exact C a T)
    {g : JFrame} (hg : g.method = m) {rest : List Value} (hstack : g.stack = .ref a :: rest) (hdg : decode c.code g.pc = .ok (.checkcast index, 3)) :
    ∃ T', Stand p l e R s m args below meth c T' locs cells slots ∧ T'.heap = T.heap ∧ ∀ target, Steps p.tables e below (T'.setTop { g with pc := g.pc + 3, stack := .ref a :: rest }) target → Steps p.tables e below (T.setTop g) target := by
  obtain ⟨cB, h1, D, h2, h3, h4⟩ := hE
  have h1' : s.vm.findClass C = some cB := by rw [← X.warmed.alike.findClass]; exact h1
  obtain ⟨vm', X', st⟩ := X.checkcastYes hexec hown hlink h2 h4 h1' (by rw [h3]; exact Jvm.Free.SB.assignable_self _ _) hg hstack hdg
  exact ⟨_, X', rfl, fun t h => st t (by rw [← hstack] at h; exact h)⟩
namespace SEq
def yN : MethodName := ⟨"java/lang/String", "equals", "(Ljava/lang/Object;)Z"⟩
abbrev yB : ByteArray := jdk_42_method_66_code
theorem d0 : decode yB 0 = .ok (.aload_n 0, 1) := by decide +kernel
theorem d1 : decode yB 1 = .ok (.aload_n 1, 1) := by decide +kernel
theorem d2 : decode yB 2 = .ok (.if_acmp (.ne) 5, 3) := by decide +kernel
theorem d5 : decode yB 5 = .ok (.iconst 1, 1) := by decide +kernel
theorem d6 : decode yB 6 = .ok (.ireturn, 1) := by decide +kernel
theorem d7 : decode yB 7 = .ok (.aload_n 1, 1) := by decide +kernel
theorem d8 : decode yB 8 = .ok (.instanceof 10, 3) := by decide +kernel
theorem d11 : decode yB 11 = .ok (.ifCond (.eq) 43, 3) := by decide +kernel
theorem d14 : decode yB 14 = .ok (.aload_n 1, 1) := by decide +kernel
theorem d15 : decode yB 15 = .ok (.checkcast 10, 3) := by decide +kernel
theorem d18 : decode yB 18 = .ok (.astore_n 2, 1) := by decide +kernel
theorem d19 : decode yB 19 = .ok (.getstatic 38, 3) := by decide +kernel
theorem d22 : decode yB 22 = .ok (.ifCond (.eq) 14, 3) := by decide +kernel
theorem d25 : decode yB 25 = .ok (.aload_n 0, 1) := by decide +kernel
theorem d26 : decode yB 26 = .ok (.getfield 15, 3) := by decide +kernel
theorem d29 : decode yB 29 = .ok (.aload_n 2, 1) := by decide +kernel
theorem d30 : decode yB 30 = .ok (.getfield 15, 3) := by decide +kernel
theorem d33 : decode yB 33 = .ok (.if_icmp (.ne) 21, 3) := by decide +kernel
theorem d36 : decode yB 36 = .ok (.aload_n 0, 1) := by decide +kernel
theorem d37 : decode yB 37 = .ok (.getfield 9, 3) := by decide +kernel
theorem d40 : decode yB 40 = .ok (.aload_n 2, 1) := by decide +kernel
theorem d41 : decode yB 41 = .ok (.getfield 9, 3) := by decide +kernel
theorem d44 : decode yB 44 = .ok (.invokestatic 541, 3) := by decide +kernel
theorem d47 : decode yB 47 = .ok (.ifCond (.eq) 7, 3) := by decide +kernel
theorem d50 : decode yB 50 = .ok (.iconst 1, 1) := by decide +kernel
theorem d51 : decode yB 51 = .ok (.goto 4, 3) := by decide +kernel
theorem d54 : decode yB 54 = .ok (.iconst 0, 1) := by decide +kernel
theorem d55 : decode yB 55 = .ok (.ireturn, 1) := by decide +kernel
def site : List Cond := [.classLink "java/lang/String" 10 "java/lang/String", .fieldLink "java/lang/String" 38 "java/lang/String" "COMPACT_STRINGS" "Z", .fieldLink "java/lang/String" 15 "java/lang/String" "coder" "B", .fieldLink "java/lang/String" 9 "java/lang/String" "value" "[B", LEq.tab] ++ staticW "java/lang/String" 541 LEq.yN
def tab : Cond := tabOf yN yB 3 (some .boolean) site
def P (x t : Addr) (V : Cell) (cd : Int32) (n : Nat) (f : Nat → Int32) (y t' : Addr) (V' : Cell) (cd' : Int32) (k : Nat) (g : Nat → Int32) (z : Int32) (args : Array Value) (s : State) : Prop := args = #[.ref x, .ref y] ∧ Txt x t V cd n f s ∧ Txt y t' V' cd' k g s ∧ StaticIs s "java/lang/String" "COMPACT_STRINGS" "Z" (.int z) ∧ ¬ z = 0
/-- equals(Object) of two Strings: whether the texts are the same -/
theorem law (l : Launch) (x t : Addr) (V : Cell) (cd : Int32) (n : Nat) (f : Nat → Int32) (y t' : Addr) (V' : Cell) (cd' : Int32) (k : Nat) (g : Nat → Int32) (z : Int32) : Law l yN 2 1 1 14 yB 3 (some .boolean) site (P x t V cd n f y t' V' cd' k g z) (Says01 (SameT n f k g)) [] 0 0 := by
  refine Law.of_walk (plainFor_of_name (by decide +kernel)) (by decide +kernel) (by decide +kernel) (by decide) (fun _ _ h => by rw [h.1]; rfl) (fun _ U U' hal hh h => ⟨h.1, h.2.1.mv hal hh, h.2.2.1.mv hal hh, h.2.2.2.1.there hal hh, h.2.2.2.2⟩) (fun r U U' V V' h1 hal h2 h => Says01.mv r U U' V V' h1 hal h2 h) ?_
  intro p e s m args below meth c s₁ X0 hexec hbytes hml hret hlk hnm hown hh0 W hP
  obtain ⟨rfl, hx, hy, s1, hz⟩ := hP
  have c1 : Steps p.tables e below (s₁.setTop (entryFrame m #[.ref x, .ref y] 3)) (s₁.setTop (mkF m 2 #[.val (.ref x), .val (.ref y), .unset] [.ref y, .ref x])) := Steps.trans (entry rfl) (by
    show Steps p.tables e below (s₁.setTop (mkF m 0 #[.val (.ref x), .val (.ref y), .unset] [])) _
    refine XS.aloadN X0.here hexec rfl (hb hbytes d0) rfl rfl ?_
    refine XS.aloadN X0.here hexec rfl (hb hbytes d1) rfl rfl ?_
    exact Steps.refl _)
  by_cases hxy : x = y
  · have c2 : Steps p.tables e below (s₁.setTop (entryFrame m #[.ref x, .ref y] 3)) (s₁.setTop (mkF m 6 #[.val (.ref x), .val (.ref y), .unset] [.int 1])) := c1.trans (by
      refine acmpNo X0.here hexec rfl (hb hbytes d2) rfl rfl rfl (by simp [acmp, hxy]) ?_
      refine iconstV X0.here hexec rfl 1 (hb hbytes d5) (by decide) ?_
      exact Steps.refl _)
    subst hxy
    have ec : cd = cd' := by
      obtain ⟨D, fd, a1, a2, a3⟩ := hx.2.2.1
      obtain ⟨D', fd', b1, b2, b3⟩ := hy.2.2.1
      cases a1.symm.trans b1
      obtain ⟨q1, q2, q3, q4⟩ := a2.1
      obtain ⟨r1, r2, r3, r4⟩ := b2.1
      cases q4.symm.trans r4
      cases a3.symm.trans b3; rfl
    have et : t = t' := by
      obtain ⟨D, fd, a1, a2, a3⟩ := hx.2.1
      obtain ⟨D', fd', b1, b2, b3⟩ := hy.2.1
      cases a1.symm.trans b1
      obtain ⟨q1, q2, q3, q4⟩ := a2.1
      obtain ⟨r1, r2, r3, r4⟩ := b2.1
      cases q4.symm.trans r4
      cases a3.symm.trans b3; rfl
    subst ec et
    have ev : V = V' := by cases hx.2.2.2.1.1.symm.trans hy.2.2.2.1.1; rfl
    subst ev
    have hs : SameT n f k g := (Cod.eqv hx.2.2.2.2.1 hy.2.2.2.2.1 hx.2.2.2.2.2 hy.2.2.2.2.2).mp ⟨rfl, fun _ _ => rfl⟩
    exact ⟨s₁, some (.int 1), _, _, _, X0, rfl, rfl, rfl, (fun h => by cases h), ⟨1, rfl, hh0, Or.inl ⟨rfl, hs⟩⟩, fun fs hl => c2.trans (X0.ireturnOut hexec hret rfl (Or.inr (Or.inl rfl)) (hb hbytes d6) hl)⟩
  · have c2 : Steps p.tables e below (s₁.setTop (entryFrame m #[.ref x, .ref y] 3)) (s₁.setTop (mkF m 8 #[.val (.ref x), .val (.ref y), .unset] [.ref y])) := c1.trans (by
      refine acmpYes X0.here hexec rfl (pc0 := 2) rfl (hb hbytes d2) rfl rfl rfl (by simp [acmp, hxy]) (by decide) rfl ?_
      refine XS.aloadN X0.here hexec rfl (hb hbytes d7) rfl rfl ?_
      exact Steps.refl _)
    obtain ⟨T3, X3, q3, st3⟩ := cinst X0 hexec hown (wk W (.classLink "java/lang/String" 10 "java/lang/String")) (hy.mv X0.warmed.alike hh0).1 (g := (mkF m 8 #[.val (.ref x), .val (.ref y), .unset] [.ref y])) rfl (rest := []) rfl (hb hbytes d8)
    have hh3 := q3.trans hh0
    have c4 : Steps p.tables e below (s₁.setTop (entryFrame m #[.ref x, .ref y] 3)) (T3.setTop (mkF m 15 #[.val (.ref x), .val (.ref y), .unset] [.ref y])) := (c2.trans (st3 _ (Steps.refl _))).trans (by
      refine XS.ifNo X3.here hexec rfl (hb hbytes d11) rfl (i0_eq_f (by decide)) ?_
      refine XS.aloadN X3.here hexec rfl (hb hbytes d14) rfl rfl ?_
      exact Steps.refl _)
    obtain ⟨T5, X5, q5, st5⟩ := cself X3 hexec hown (wk W (.classLink "java/lang/String" 10 "java/lang/String")) (hy.mv X3.warmed.alike hh3).1 (g := (mkF m 15 #[.val (.ref x), .val (.ref y), .unset] [.ref y])) rfl (rest := []) rfl (hb hbytes d15)
    have hh5 := q5.trans hh3
    have c6 : Steps p.tables e below (s₁.setTop (entryFrame m #[.ref x, .ref y] 3)) (T5.setTop (mkF m 19 #[.val (.ref x), .val (.ref y), .val (.ref y)] [])) := (c4.trans (st5 _ (Steps.refl _))).trans (by
      refine XS.astoreN X5.here hexec rfl (hb hbytes d18) rfl rfl rfl ?_
      exact Steps.refl _)
    obtain ⟨T7, X7, q7, st7⟩ := X5.sget hexec hown (wk W (.fieldLink "java/lang/String" 38 "java/lang/String" "COMPACT_STRINGS" "Z")) s1 (fun _ _ h => by rw [hh5]; exact h) (g := (mkF m 19 #[.val (.ref x), .val (.ref y), .val (.ref y)] [])) rfl (hb hbytes d19)
    have hh7 := q7.trans hh5
    have c8 : Steps p.tables e below (s₁.setTop (entryFrame m #[.ref x, .ref y] 3)) (T7.setTop (mkF m 26 #[.val (.ref x), .val (.ref y), .val (.ref y)] [.ref x])) := (c6.trans (st7 _ (Steps.refl _))).trans (by
      refine XS.ifNo X7.here hexec rfl (hb hbytes d22) rfl (i0_eq_f hz) ?_
      refine XS.aloadN X7.here hexec rfl (hb hbytes d25) rfl rfl ?_
      exact Steps.refl _)
    obtain ⟨T9, X9, q9, st9⟩ := X7.hget hexec hown (wk W (.fieldLink "java/lang/String" 15 "java/lang/String" "coder" "B")) (hx.mv X7.warmed.alike hh7).2.2.1 (g := (mkF m 26 #[.val (.ref x), .val (.ref y), .val (.ref y)] [.ref x])) rfl (rest := []) rfl (hb hbytes d26)
    have hh9 := q9.trans hh7
    have c10 : Steps p.tables e below (s₁.setTop (entryFrame m #[.ref x, .ref y] 3)) (T9.setTop (mkF m 30 #[.val (.ref x), .val (.ref y), .val (.ref y)] [.ref y, .int cd])) := (c8.trans (st9 _ (Steps.refl _))).trans (by
      refine XS.aloadN X9.here hexec rfl (hb hbytes d29) rfl rfl ?_
      exact Steps.refl _)
    obtain ⟨T11, X11, q11, st11⟩ := X9.hget hexec hown (wk W (.fieldLink "java/lang/String" 15 "java/lang/String" "coder" "B")) (hy.mv X9.warmed.alike hh9).2.2.1 (g := (mkF m 30 #[.val (.ref x), .val (.ref y), .val (.ref y)] [.ref y, .int cd])) rfl (rest := [.int cd]) rfl (hb hbytes d30)
    have hh11 := q11.trans hh9
    have c12 : Steps p.tables e below (s₁.setTop (entryFrame m #[.ref x, .ref y] 3)) (T11.setTop (mkF m 33 #[.val (.ref x), .val (.ref y), .val (.ref y)] [.int cd', .int cd])) := c10.trans (st11 _ (Steps.refl _))
    by_cases hcd : cd = cd'
    · subst hcd
      have c13 : Steps p.tables e below (s₁.setTop (entryFrame m #[.ref x, .ref y] 3)) (T11.setTop (mkF m 37 #[.val (.ref x), .val (.ref y), .val (.ref y)] [.ref x])) := c12.trans (by
        refine XS.icmpNo X11.here hexec rfl (hb hbytes d33) rfl (ii_ne_f rfl) ?_
        refine XS.aloadN X11.here hexec rfl (hb hbytes d36) rfl rfl ?_
        exact Steps.refl _)
      obtain ⟨T14, X14, q14, st14⟩ := X11.hget hexec hown (wk W (.fieldLink "java/lang/String" 9 "java/lang/String" "value" "[B")) (hx.mv X11.warmed.alike hh11).2.1 (g := (mkF m 37 #[.val (.ref x), .val (.ref y), .val (.ref y)] [.ref x])) rfl (rest := []) rfl (hb hbytes d37)
      have hh14 := q14.trans hh11
      have c15 : Steps p.tables e below (s₁.setTop (entryFrame m #[.ref x, .ref y] 3)) (T14.setTop (mkF m 41 #[.val (.ref x), .val (.ref y), .val (.ref y)] [.ref y, .ref t])) := (c13.trans (st14 _ (Steps.refl _))).trans (by
        refine XS.aloadN X14.here hexec rfl (hb hbytes d40) rfl rfl ?_
        exact Steps.refl _)
      obtain ⟨T16, X16, q16, st16⟩ := X14.hget hexec hown (wk W (.fieldLink "java/lang/String" 9 "java/lang/String" "value" "[B")) (hy.mv X14.warmed.alike hh14).2.1 (g := (mkF m 41 #[.val (.ref x), .val (.ref y), .val (.ref y)] [.ref y, .ref t])) rfl (rest := [.ref t]) rfl (hb hbytes d41)
      have hh16 := q16.trans hh14
      have c17 : Steps p.tables e below (s₁.setTop (entryFrame m #[.ref x, .ref y] 3)) (T16.setTop (mkF m 44 #[.val (.ref x), .val (.ref y), .val (.ref y)] [.ref t', .ref t])) := c15.trans (st16 _ (Steps.refl _))
      obtain ⟨v18, T18, X18, E18, g18⟩ := X16.callS hexec (LEq.law l t V t' V') hown (wks W (staticW "java/lang/String" 541 LEq.yN)) (wk W LEq.tab) (W := 0) (Nat.le_of_ble_eq_true rfl) (Nat.le_of_ble_eq_true rfl) (Nat.le_refl _) (Nat.le_refl _) (g := (mkF m 44 #[.val (.ref x), .val (.ref y), .val (.ref y)] [.ref t', .ref t])) rfl (by rw [hml]; rfl) c17 (argsL := [.ref t, .ref t']) (rest := []) rfl rfl (by show 2 * 0 + 0 ≤ _; decide) (hb hbytes d44) (⟨rfl, hx.2.2.2.1.mv X16.warmed.alike hh16, hx.2.2.2.2.1.ty, hy.2.2.2.1.mv X16.warmed.alike hh16, hy.2.2.2.2.1.ty⟩)
      obtain ⟨v, rfl, q18, hv⟩ := E18
      have iff := Cod.eqv hx.2.2.2.2.1 hy.2.2.2.2.1 hx.2.2.2.2.2 hy.2.2.2.2.2
      rcases hv with ⟨rfl, he⟩ | ⟨rfl, he⟩
      · have c19 : Steps p.tables e below (s₁.setTop (entryFrame m #[.ref x, .ref y] 3)) (T18.setTop (mkF m 55 #[.val (.ref x), .val (.ref y), .val (.ref y)] [.int 1])) := Steps.trans g18 (by
          refine XS.ifNo X18.here hexec rfl (hb hbytes d47) rfl (i0_eq_f (by decide)) ?_
          refine iconstV X18.here hexec rfl 1 (hb hbytes d50) (by decide) ?_
          refine XS.goto X18.here hexec rfl (pc0 := 51) rfl (hb hbytes d51) (by decide) rfl ?_
          exact Steps.refl _)
        exact ⟨T18, some (.int 1), _, _, _, X18, rfl, rfl, rfl, (fun h => by cases h), ⟨1, rfl, q18.trans hh16, Or.inl ⟨rfl, iff.mp he⟩⟩, fun fs hl => c19.trans (X18.ireturnOut hexec hret rfl (Or.inr (Or.inl rfl)) (hb hbytes d55) hl)⟩
      · have c19 : Steps p.tables e below (s₁.setTop (entryFrame m #[.ref x, .ref y] 3)) (T18.setTop (mkF m 55 #[.val (.ref x), .val (.ref y), .val (.ref y)] [.int 0])) := Steps.trans g18 (by
          refine XS.ifYes X18.here hexec rfl (pc0 := 47) rfl (hb hbytes d47) rfl (i0_eq_t rfl) (by decide) rfl ?_
          refine iconstV X18.here hexec rfl 0 (hb hbytes d54) (by decide) ?_
          exact Steps.refl _)
        exact ⟨T18, some (.int 0), _, _, _, X18, rfl, rfl, rfl, (fun h => by cases h), ⟨0, rfl, q18.trans hh16, Or.inr ⟨rfl, fun q => he (iff.mpr q)⟩⟩, fun fs hl => c19.trans (X18.ireturnOut hexec hret rfl (Or.inr (Or.inl rfl)) (hb hbytes d55) hl)⟩
    · have c13 : Steps p.tables e below (s₁.setTop (entryFrame m #[.ref x, .ref y] 3)) (T11.setTop (mkF m 55 #[.val (.ref x), .val (.ref y), .val (.ref y)] [.int 0])) := c12.trans (by
        refine XS.icmpYes X11.here hexec rfl (pc0 := 33) rfl (hb hbytes d33) rfl (ii_ne_t hcd) (by decide) rfl ?_
        refine iconstV X11.here hexec rfl 0 (hb hbytes d54) (by decide) ?_
        exact Steps.refl _)
      exact ⟨T11, some (.int 0), _, _, _, X11, rfl, rfl, rfl, (fun h => by cases h), ⟨0, rfl, hh11, Or.inr ⟨rfl, Cod.dif hx.2.2.2.2.1 hy.2.2.2.2.1 hcd⟩⟩, fun fs hl => c13.trans (X11.ireturnOut hexec hret rfl (Or.inr (Or.inl rfl)) (hb hbytes d55) hl)⟩
theorem pays {l : Launch} {R : Room} {p : Program} {e : Env} {below : List Frame} {s : State} {sargs : Array Value} {len W : Nat} (x t : Addr) (V : Cell) (cd : Int32) (n : Nat) (f : Nat → Int32) (y t' : Addr) (V' : Cell) (cd' : Int32) (k : Nat) (g : Nat → Int32) (z : Int32) (htab : tab.before sargs s = true) (hfr : 2 ≤ R.frames) (hlo : W + 28 ≤ R.locals) :
    Back l R p e below s sargs yN len W (fun A₁ a₁ => A₁.cells + 0 ≤ R.cells ∧ A₁.slots + 0 ≤ R.slots ∧ P x t V cd n f y t' V' cd' k g z a₁ A₁.U) (fun A₁ _ v₁ B₁ => Says01 (SameT n f k g) v₁ A₁.U B₁.U ∧ B₁.locs = A₁.locs ++ [] ∧ B₁.cells = A₁.cells + 0 ∧ B₁.slots = A₁.slots + 0) :=
  (law l x t V cd n f y t' V' cd' k g z).pays htab hfr (by omega)
end SEq
end StrChars
namespace StrChars.Road
open Jvm Sem ClassFile Op Lib Jvm.Stand Jvm.Free Jvm.Free.XT
open Jvm.Lib.Cold (StaticIs)
/-- the words of String.equals(Object) -/
abbrev wordsEq : List Jvm.Cond := [.code SEq.yN SEq.yB 3 (some .boolean), .initialized ST, .classLink ST 10 ST, .fieldLink ST 38 ST "COMPACT_STRINGS" "Z", .fieldLink ST 15 ST "coder" "B", .fieldLink ST 9 ST "value" "[B", .methodLink ST 541 LEq.yN, .static LEq.yN, .code LEq.yN LEq.yB 3 (some .boolean), .initialized "java/lang/StringLatin1"]
theorem tabEq_of {a : Array Value} {s : State} (h : ∀ w ∈ wordsEq, w.before a s = true) : SEq.tab.before a s = true := by
  have hl : LEq.tab.before a s = true := unparts (wk h (.code LEq.yN LEq.yB 3 (some .boolean))) (wks h (.initialized LEq.yN.cls :: LEq.site))
  have q := consq hl h
  exact unparts (wk q (.code SEq.yN SEq.yB 3 (some .boolean))) (wks q (.initialized SEq.yN.cls :: SEq.site))
theorem movedEq {Z s : State} {a0 args : Array Value} (hZ : Z.Warmed39 s.vm) (hw : ∀ d ∈ wordsEq, d.before a0 Z = true) : ∀ d ∈ wordsEq, d.before args s = true := fun d hd => by
  have t : ∀ d ∈ wordsEq, (d.onTables && d.keepsFace) = true := by decide +kernel
  exact RoadKit.mv hZ (hw d hd) (t d hd)
/-- the road's facts of a String, as the laws ask it -/
theorem txt_of {Z U : State} {a0 : Array Value} {kI : Nat} (wi : (Jvm.Cond.instantiable ST kI).before a0 Z = true) (al : Z.vm.Alike U.vm) {x t : Addr} {kb : ClassId} {cs : List Int32} {cd N2 : Int32} {vs : List Value} (E : RoadKit.Exa Z U.heap x ST) (V : RoadKit.Fld Z U.heap x ST "value" "[B" (.ref t)) (C : RoadKit.Fld Z U.heap x ST "coder" "B" (.int cd)) (K : RoadKit.Arv Z U.heap t kb .byte N2 vs (.int 0)) (hc : CodA cs cd N2 vs) (hb : ∀ c ∈ cs, ¬ c < 0 ∧ ¬ (65535 : Int32) < c) (l2 : cs.length ≤ 4000) :
    ∃ A, Txt x t A cd cs.length (fun j => cs.getD j 0) U := by
  obtain ⟨A, K1, K2, K3, K4, K5, K6⟩ := K
  have hcod := hc.cod (by omega) K3 K5
  obtain ⟨D, fV, fC, hB, F1, F2, g1, g2, -, -⟩ := strObj wi al E V C
  exact ⟨A, ⟨_, hB.2.2.1, D, hB.1, rfl, by cases q : D.vm <;> first | rfl | exact absurd q (hB.2.1.2 _)⟩, Has.of hB F1 g1, Has.of hB F2 g2, ⟨K1.1, State.isArrayOf_alike al K1.2.1, K1.2.2, by rcases hcod with ⟨-, q, -⟩ | ⟨-, q, -⟩ <;> omega⟩, hcod, fun j hj => by
    have e : cs.getD j 0 = cs[j] := by simp [List.getD_eq_getElem?_getD, hj]
    show ¬ cs.getD j 0 < 0 ∧ ¬ 65535 < cs.getD j 0
    rw [e]; exact hb _ (List.getElem_mem _)⟩
theorem same_list (cs ds : List Int32) : SameT cs.length (fun j => cs.getD j 0) ds.length (fun j => ds.getD j 0) ↔ cs = ds := by
  constructor
  · rintro ⟨e, q⟩
    refine List.ext_getElem e fun j h1 h2 => ?_
    have := q j h1
    simpa [List.getD_eq_getElem?_getD, h1, h2] using this
  · rintro rfl
    exact ⟨rfl, fun _ _ => rfl⟩
/-- **equals(Object) OF TWO SUCH STRINGS**: 1 just where the chars are the same -/
theorem eqW {p : Program} {l : Launch} {e : Env} {R : Room} {s : State} {args : Array Value} {below : List Frame} {len W : Nat} {Z : State} {a0 : Array Value} {h : Heap} (hZ : Z.Warmed39 s.vm) (hw : ∀ d ∈ wordsEq, d.before a0 Z = true) {kI : Nat} (wi : (Jvm.Cond.instantiable ST kI).before a0 Z = true)
    {x t : Addr} {kb : ClassId} {cs : List Int32} {cd N2 : Int32} {vs : List Value} (E : RoadKit.Exa Z h x ST) (V : RoadKit.Fld Z h x ST "value" "[B" (.ref t)) (C : RoadKit.Fld Z h x ST "coder" "B" (.int cd)) (K : RoadKit.Arv Z h t kb .byte N2 vs (.int 0)) (hc : CodA cs cd N2 vs) (hb : ∀ c ∈ cs, ¬ c < 0 ∧ ¬ (65535 : Int32) < c) (l2 : cs.length ≤ 4000)
    {y t' : Addr} {kb' : ClassId} {ds : List Int32} {cd' N2' : Int32} {vs' : List Value} (E' : RoadKit.Exa Z h y ST) (V' : RoadKit.Fld Z h y ST "value" "[B" (.ref t')) (C' : RoadKit.Fld Z h y ST "coder" "B" (.int cd')) (K' : RoadKit.Arv Z h t' kb' .byte N2' vs' (.int 0)) (hc' : CodA ds cd' N2' vs') (hb' : ∀ c ∈ ds, ¬ c < 0 ∧ ¬ (65535 : Int32) < c) (l2' : ds.length ≤ 4000)
    {z : Int32} (S : RoadKit.Sta Z h ST "COMPACT_STRINGS" "Z" (.int z)) (hz : ¬ z = 0) (hfr : 2 ≤ R.frames) (hlo : W + 28 ≤ R.locals) :
    Back l R p e below s args (⟨"java/lang/String", "equals", "(Ljava/lang/Object;)Z"⟩ : MethodName) len W (fun P a => a = #[.ref x, .ref y] ∧ P.U.heap = h ∧ P.cells + 0 ≤ R.cells ∧ P.slots + 0 ≤ R.slots)
      (fun P _ v B => ∃ L, (((v = some (.int 1) ∧ cs = ds) ∨ (v = some (.int 0) ∧ ¬ cs = ds)) ∧ L = [] ∧ B.U.heap = h) ∧ B.locs = P.locs ++ L ∧ B.cells = P.cells + 0 ∧ B.slots = P.slots + 0) := by
  intro m meth c P g ig mk a X hg hsize hdg hW hn hp'
  obtain ⟨rfl, rfl, r1, r2⟩ := hp'
  have al : Z.vm.Alike P.U.vm := hZ.alike.trans X.warmed.alike
  obtain ⟨A, hx⟩ := txt_of wi al E V C K hc hb l2
  obtain ⟨A', hy⟩ := txt_of wi al E' V' C' K' hc' hb' l2'
  obtain ⟨v, B, X', ⟨⟨w, hv, hh, hq⟩, hl, hk, hs⟩, st⟩ := SEq.pays x t A cd cs.length (fun j => cs.getD j 0) y t' A' cd' ds.length (fun j => ds.getD j 0) z (tabEq_of (movedEq hZ hw)) hfr hlo m meth c P g ig mk _ X hg hsize hdg hW hn ⟨r1, r2, rfl, hx, hy, sta_is al S, hz⟩
  refine ⟨v, B, X', ⟨[], ⟨?_, rfl, hh⟩, hl, hk, hs⟩, st⟩
  rcases hq with ⟨rfl, q⟩ | ⟨rfl, q⟩
  · exact Or.inl ⟨hv, (same_list cs ds).mp q⟩
  · exact Or.inr ⟨hv, fun e => q ((same_list cs ds).mpr e)⟩
end StrChars.Road
namespace StrChars.Road
open Jvm Sem ClassFile Op Lib Jvm.Stand Jvm.Free Jvm.Free.XT
open Jvm.Lib.Cold (StaticIs)
/-- what backV says of its String, as the contracts of this text ask it: cs's low bytes, coder 0 -/
theorem codOf {cs : List Int32} {n : Nat} (hn : cs.length = n) (hb : ∀ c ∈ cs, ¬ 255 < c) : CodA cs 0 (Int32.ofNat n) ((cs.map lo8).map Value.int) := Or.inl ⟨rfl, by rw [hn], by simp [List.map_map, Function.comp_def], hb⟩
end StrChars.Road
end Jvm.Pilot.@@N@@

namespace Jvm.Pilot.@@N@@
open Jvm Jvm.ClassFile Sem Op Lib Jvm.Free Jvm.Stand Jvm.LawKit Jvm.RoadKit Bundle Jvm.Pilot.@@N@@.Jvm.D
/-- what is left of a walk: from the frame f of T the run comes to its end, where Qe holds -/
def own_Rest (p : Program) (e : Env) (below : List Frame) (Qe : Outcome → State → Prop) (T : State) (f : JFrame) : Prop :=
  ∃ s₂ o, Steps p.tables e below (T.setTop f) s₂ ∧ s₂.status = .running ∧ Ended s₂ below o ∧ Qe o s₂
abbrev own_S (p : Program) (e : Env) (below : List Frame) (T : State) (f : JFrame) (t : State) : Prop := Steps p.tables e below (T.setTop f) t
theorem own_by {p : Program} {e : Env} {below : List Frame} {Qe : Outcome → State → Prop} {T T' : State} {f f' : JFrame}
    (h : ∀ t, Steps p.tables e below (T'.setTop f') t → Steps p.tables e below (T.setTop f) t) (k : own_Rest p e below Qe T' f') : own_Rest p e below Qe T f := by
  obtain ⟨s₂, o, h1, h2⟩ := k
  exact ⟨s₂, o, h _ h1, h2⟩
theorem own_at {p : Program} {e : Env} {below : List Frame} {Qe : Outcome → State → Prop} {T : State} {f f' : JFrame}
    (h : ∀ {t}, Steps p.tables e below (T.setTop f') t → Steps p.tables e below (T.setTop f) t) (k : own_Rest p e below Qe T f') :
    ∃ s₂ o, Steps p.tables e below (T.setTop f) s₂ ∧ s₂.status = .running ∧ Ended s₂ below o ∧ Qe o s₂ := by
  obtain ⟨s₂, o, h1, h2⟩ := k
  exact ⟨s₂, o, h h1, h2⟩
theorem own_c255 (x : Int32) : ¬ (x &&& (255 : Int32)).toUInt32.toUInt16.toUInt32.toInt32 < 0 ∧ ¬ (255 : Int32) < (x &&& (255 : Int32)).toUInt32.toUInt16.toUInt32.toInt32 := by
  have h1 := c_mask x 255 8 (by decide) (by decide)
  have h2 := c_i2c (x &&& (255 : Int32))
  simp only [Int32.lt_iff_toInt_lt, Int32.reduceToInt]
  omega
theorem own_narc {z : Int32} (h : ¬ z < 0 ∧ ¬ (255 : Int32) < z) : nar .char z = z := by
  have h2 := c_i2c z
  obtain ⟨h3, h4⟩ := h
  simp only [Int32.lt_iff_toInt_lt, Int32.reduceToInt] at h3 h4
  have e : (nar .char z).toInt = z.toInt := by
    show z.toUInt32.toUInt16.toUInt32.toInt32.toInt = z.toInt
    omega
  exact Int32.toInt_inj.mp e
theorem own_nrb {z : Int32} (h : z = 0 ∨ z = 1) : narrow .boolean (.int z) = .int z := by rcases h with rfl | rfl <;> rfl
theorem own_ftb {z : Int32} (h : z = 0 ∨ z = 1) : fits .boolean (.int z) = true := by rcases h with rfl | rfl <;> rfl
theorem own_eqi {t : Term} {n : Int32} {args : Array Value} {Z : State} (h : (Jvm.Cond.eq t (.int n)).value args Z none Z [] = some true) : t.eval args Z none [] Z = some (.int n) := by
  obtain ⟨x, y, h1, h2, h3, -⟩ := cmp_v (Or.inl h)
  have e : y = .int n := (Option.some.inj h2).symm
  subst e
  cases x <;> simp [Kin, Value.isRef] at h3
  rename_i z
  have : z = n := by simpa [Cond.value, h1, Term.eval] using h
  rw [h1, this]
theorem own_fld {t : Term} {n : Int32} {args : Array Value} {Z : State} {a : Addr} {C f d : String} (ev : t.eval args Z none [] Z = some (.ref a)) (h : (Jvm.Cond.eq (.field t C f d) (.int n)).value args Z none Z [] = some true) : Fld Z Z.heap a C f d (.int n) :=
  Fld.start ((fld_at ev).symm.trans (own_eqi h))
theorem own_nb {z : Int32} (h : z = 0 ∨ z = 1) : nar .boolean z = z := by rcases h with rfl | rfl <;> rfl
abbrev own_ARUUUU (x0 : Addr) : Array Slot := #[.val (.ref x0), .unset, .unset, .unset, .unset]
abbrev own_ARRUUU (x0 : Addr) (x1 : Addr) : Array Slot := #[.val (.ref x0), .val (.ref x1), .unset, .unset, .unset]
abbrev own_ARRIUU (x0 : Addr) (x1 : Addr) (x2 : Int32) : Array Slot := #[.val (.ref x0), .val (.ref x1), .val (.int x2), .unset, .unset]
abbrev own_ARRIIU (x0 : Addr) (x1 : Addr) (x2 : Int32) (x3 : Int32) : Array Slot := #[.val (.ref x0), .val (.ref x1), .val (.int x2), .val (.int x3), .unset]
abbrev own_ARRIIR (x0 : Addr) (x1 : Addr) (x2 : Int32) (x3 : Int32) (x4 : Addr) : Array Slot := #[.val (.ref x0), .val (.ref x1), .val (.int x2), .val (.int x3), .val (.ref x4)]
abbrev own_AIUUUUU (x0 : Int32) : Array Slot := #[.val (.int x0), .unset, .unset, .unset, .unset, .unset]
abbrev own_AIIUUUU (x0 : Int32) (x1 : Int32) : Array Slot := #[.val (.int x0), .val (.int x1), .unset, .unset, .unset, .unset]
abbrev own_AIIRUUU (x0 : Int32) (x1 : Int32) (x2 : Addr) : Array Slot := #[.val (.int x0), .val (.int x1), .val (.ref x2), .unset, .unset, .unset]
abbrev own_AIIRRUU (x0 : Int32) (x1 : Int32) (x2 : Addr) (x3 : Addr) : Array Slot := #[.val (.int x0), .val (.int x1), .val (.ref x2), .val (.ref x3), .unset, .unset]
abbrev own_AIIRRRU (x0 : Int32) (x1 : Int32) (x2 : Addr) (x3 : Addr) (x4 : Addr) : Array Slot := #[.val (.int x0), .val (.int x1), .val (.ref x2), .val (.ref x3), .val (.ref x4), .unset]
abbrev own_AIIRRRR (x0 : Int32) (x1 : Int32) (x2 : Addr) (x3 : Addr) (x4 : Addr) (x5 : Addr) : Array Slot := #[.val (.int x0), .val (.int x1), .val (.ref x2), .val (.ref x3), .val (.ref x4), .val (.ref x5)]
def own_Str (Z : State) (h : Heap) (a : Addr) (cs : List Int32) : Prop := ∃ (t : Addr) (kb : ClassId) (cd N : Int32) (vs : List Value), Exa Z h a "java/lang/String" ∧ Fld Z h a "java/lang/String" "value" "[B" (.ref t) ∧ Fld Z h a "java/lang/String" "coder" "B" (.int cd) ∧ Arv Z h t kb .byte N vs (.int 0) ∧ StrChars.Road.CodA cs cd N vs ∧ (∀ c ∈ cs, ¬ c < 0 ∧ ¬ (65535 : Int32) < c) ∧ cs.length ≤ 4000
theorem own_Str.ext {Z : State} {h h' : Heap} {a : Addr} {cs : List Int32} (F : own_Str Z h a cs) (E : Ext h h') : own_Str Z h' a cs := by
  obtain ⟨t, kb, cd, N, vs, h1, h2, h3, h4, r⟩ := F
  exact ⟨t, kb, cd, N, vs, h1.ext E, h2.ext E, h3.ext E, h4.ext E, r⟩
theorem own_Str.exa {Z : State} {h : Heap} {a : Addr} {cs : List Int32} (F : own_Str Z h a cs) : Exa Z h a "java/lang/String" := by obtain ⟨_, _, _, _, _, h1, -⟩ := F; exact h1
theorem own_Str.lt {Z : State} {h : Heap} {a : Addr} {cs : List Int32} (F : own_Str Z h a cs) : a < h.size := F.exa.lt
theorem own_kx {h h' : Heap} (K : Keep h h' []) : Ext h h' := ⟨K.1, fun x c q => K.2.1 x c q List.not_mem_nil⟩
theorem own_Str.keepX {Z : State} {h h' : Heap} {a x : Addr} {cs : List Int32} {C : String} {a0 : Array Value} {k : Nat} (F : own_Str Z h a cs) (K : Keep h h' [x]) (E : Exa Z h x C) (hC : C ≠ "java/lang/String") (wi : (Jvm.Cond.instantiable C k).before a0 Z = true) : own_Str Z h' a cs := by
  obtain ⟨t, kb, cd, N, vs, h1, h2, h3, h4, r⟩ := F
  have n1 : a ∉ [x] := fun q => (E.ne h1 hC) (List.mem_singleton.mp q).symm
  have n2 : t ∉ [x] := fun q => (E.neArv h4 wi) (List.mem_singleton.mp q).symm
  exact ⟨t, kb, cd, N, vs, h1.keep K, h2.keep K n1, h3.keep K n1, h4.keep K n2, r⟩
theorem own_Str.keepA {Z : State} {h h' : Heap} {a x : Addr} {cs : List Int32} {k : ClassId} {z : Int32} {us : List Value} {d : Value} {a0 : Array Value} {kI : Nat} (F : own_Str Z h a cs) (K : Keep h h' [x]) (A : Arv Z h x k .char z us d) (wi : (Jvm.Cond.instantiable "java/lang/String" kI).before a0 Z = true) : own_Str Z h' a cs := by
  obtain ⟨t, kb, cd, N, vs, h1, h2, h3, h4, r⟩ := F
  have n1 : a ∉ [x] := fun q => (h1.neArv A wi) (List.mem_singleton.mp q)
  have n2 : t ∉ [x] := fun q => by
    rw [List.mem_singleton.mp q] at h4
    obtain ⟨c, A1, -⟩ := A
    obtain ⟨c2, A2, -⟩ := h4
    cases A1.1.symm.trans A2.1
    obtain ⟨-, kA, hkA, comp, hkind⟩ := A1.2.1
    obtain ⟨-, kB, hkB, compB, hkindB⟩ := A2.2.1
    cases hkA.symm.trans hkB
    rw [hkind] at hkindB; cases hkindB
  exact ⟨t, kb, cd, N, vs, h1.keep K, h2.keep K n1, h3.keep K n1, h4.keep K n2, r⟩
theorem own_up (cs : List Int32) (h : ∀ c ∈ cs, ¬ c < 0 ∧ ¬ (255 : Int32) < c) : ∀ c ∈ cs, ¬ c < 0 ∧ ¬ (65535 : Int32) < c := fun c hc => ⟨(h c hc).1, fun q => (h c hc).2 (by rw [Int32.lt_iff_toInt_lt] at q ⊢; have e1 : (65535 : Int32).toInt = 65535 := rfl; have e2 : (255 : Int32).toInt = 255 := rfl; omega)⟩
theorem own_eqv {v : Option Value} {cs ds : List Int32} (h : (v = some (.int 1) ∧ cs = ds) ∨ (v = some (.int 0) ∧ ¬ cs = ds)) : v = some (.int (if cs = ds then (1 : Int32) else (0 : Int32))) := by
  rcases h with ⟨h, q⟩ | ⟨h, q⟩ <;> rw [h]
  · rw [if_pos q]
  · rw [if_neg q]
theorem own_if1 {P : Prop} [Decidable P] {c : Int32} (h : c = if P then (1 : Int32) else (0 : Int32)) (q : ¬ c = 0) : P := by
  by_cases p : P
  · exact p
  · rw [if_neg p] at h; exact absurd h q
theorem own_if0 {P : Prop} [Decidable P] {c : Int32} (h : c = if P then (1 : Int32) else (0 : Int32)) (q : c = 0) : ¬ P := by
  intro p; rw [if_pos p] at h; rw [h] at q; exact absurd q (by decide)
theorem own_len {t : Term} {n : Nat} {args : Array Value} {Z : State} {a : Addr} {cl : Cell} {ty : FieldType} (ev : t.eval args Z none [] Z = some (.ref a)) (A : Arr Z Z.heap a cl ty) (hn : n < 2 ^ 31) (h : (Term.length t).eval args Z none [] Z = some (.int n.toInt32)) : cl.slots.size = n := by
  obtain ⟨b, cell, e1, e2, e3, e4⟩ := Lib.length_spec h
  cases ev.symm.trans e1
  have q : cell = cl := Option.some.inj ((Lib.arrayAt_spec e2).1.symm.trans A.1)
  subst q
  have e5 := congrArg Int32.toInt (Value.int.inj e4)
  rw [len_toInt e3, len_toInt hn] at e5
  omega
theorem own_elr {t u : Term} {args : Array Value} {Z : State} {a b : Addr} {cl : Cell} {j : Int32} {i : Nat} (hj : j.toNatClampNeg = i) (ev : t.eval args Z none [] Z = some (.ref a)) (eu : u.eval args Z none [] Z = some (.ref b)) (hc : Z.heap[a]? = some cl) (h : (Jvm.Cond.eq (.elem t (.int j)) u).value args Z none Z [] = some true) : cl.slots[i]? = some (.ref b) := by
  subst hj
  obtain ⟨x, y, h1, h2, h3, h4⟩ := cmp_v (Or.inl h)
  cases eu.symm.trans h2
  have q := (elem_in h1 ev (Term.int_eval _) hc).2
  cases x <;> simp [Kin, Value.isRef] at h3 h4
  all_goals first | (simp [Cond.value, h1, eu] at h; done) | (simp [Cond.value, h1, eu] at h; rw [q, h])
theorem d8_0 : decode prog_15_method_1_code 0 = .ok (.getstatic 13, 3) := by decide +kernel
theorem d8_3 : decode prog_15_method_1_code 3 = .ok (.invokevirtual 17, 3) := by decide +kernel
theorem d8_6 : decode prog_15_method_1_code 6 = .ok (.checkcast 18, 3) := by decide +kernel
theorem d8_9 : decode prog_15_method_1_code 9 = .ok (.areturn, 1) := by decide +kernel
theorem pn_8 : plainFor (⟨"com/example/writd/writd/model/ClientSource", "values", "()[Lcom/example/writd/writd/model/ClientSource;"⟩ : MethodName) = true := by first | exact plainFor_of_name (by first | (simp [plainName, overriddenIn]; done) | decide +kernel) | decide +kernel | exact Jvm.Free.JP.mathPlain rfl (by decide +kernel)
theorem ef_8 (m : MethodId)  : entryFrame m #[] 0 = mkF m 0 #[] [] := by first | (simp [entryFrame, mkF, argsToLocals, Value.category]; done) | rfl
def Q8 (Z : State) (wV : Addr) (cl : Cell) (wSTATIC : Addr) (wADMIN : Addr) (wDYNAMIC : Addr) (h0 : Heap) (n0 : Nat) (v : Option Value) (h : Heap) (L : List Loc) : Prop := ∃ r, v = some (.ref r) ∧ h0.size ≤ r ∧ Fr n0 L ∧ Keep h0 h [] ∧ Arr Z h r (cloneOf cl) (.object "com/example/writd/writd/model/ClientSource")
set_option maxRecDepth 65536 in
set_option maxHeartbeats 40000000 in
theorem rm8 (l : Launch) (Z : State) (a0 : Array Value) (hw : ∀ d ∈ tables_1, d.before a0 Z = true) (ws : List Jvm.Cond) (wV : Addr) (cl : Cell) (wSTATIC : Addr) (wADMIN : Addr) (wDYNAMIC : Addr) (h0 : Heap) (n0 : Nat) (Z0 : n0 ≤ h0.size) (S_V : Sta Z h0 "com/example/writd/writd/model/ClientSource" "$VALUES" "[Lcom/example/writd/writd/model/ClientSource;" (.ref wV)) (Ar_V : Arr Z h0 wV cl (.object "com/example/writd/writd/model/ClientSource")) (E_V : Exa Z h0 wV "[Lcom/example/writd/writd/model/ClientSource;") (FC : FitC Z cl) (hsz : cl.slots.size = 3) (hat0 : cl.slots[0]? = some (.ref wSTATIC)) (hat1 : cl.slots[1]? = some (.ref wADMIN)) (hat2 : cl.slots[2]? = some (.ref wDYNAMIC)) :
    MetFree l (⟨"com/example/writd/writd/model/ClientSource", "values", "()[Lcom/example/writd/writd/model/ClientSource;"⟩ : MethodName) (head1 (Jvm.Cond.code (⟨"com/example/writd/writd/model/ClientSource", "values", "()[Lcom/example/writd/writd/model/ClientSource;"⟩ : MethodName) prog_15_method_1_code 0 (some (.array (.object "com/example/writd/writd/model/ClientSource"))) :: ws) ({ frames := 1, cells := 1, slots := 3, locals := 14 } : Room)) (fun a U => a = #[] ∧ Z.Warmed39 U.vm ∧ U.heap = h0) (fun _ _ _ _ _ => True) (fun _ U o U' => ∃ v L, o = .returned v ∧ Q8 Z wV cl wSTATIC wADMIN wDYNAMIC h0 n0 v U'.heap L ∧ FrameEnd U o U' L ({ frames := 1, cells := 1, slots := 3, locals := 14 } : Room).cells ({ frames := 1, cells := 1, slots := 3, locals := 14 } : Room).slots) := by
  refine MetFree.of_bodySF pn_8 hisR ?_
  intro p e s m args below meth c s₁ Bd hml0 hP hK
  obtain ⟨rfl, hZ, hh⟩ := hP
  have hx := Bd.exec
  have hby := Bd.bytes
  have hml : c.maxLocals = 0 := hml0
  have hown : s.vm.findClass "com/example/writd/writd/model/ClientSource" = some m.cls := findClass_of_methodNamed Bd.named
  have hnm := (name_of_methodNamed Bd.named Bd.method).1
  have X0 : Stand p l e ({ frames := 1, cells := 1, slots := 3, locals := 14 } : Room) s m #[] below meth c s₁ [] 0 0 := Stand.of_body Bd
  have e0 : s₁.heap = h0 := by rw [← hh, Bd.state]; rfl
  have N0 := Fr.nil n0
  refine own_at (castTop (ef_8 m )) ?_
  have K0 := Keep.refl h0 []
  obtain ⟨T00, X00, e00, st00⟩ := getS2 X0 hx hZ hown (host := "") (Or.inl (hw _ (List.mem_of_getElem? (i := 40) rfl))) Via.refl e0 S_V (g := (mkF m 0 #[] [])) rfl (hb hby d8_0)
  refine own_by st00 ?_
  obtain ⟨T3, h3, X3, e3, E3, Ar3, A3, st3⟩ := cloneA X00 hx hZ hown (hw _ (List.mem_of_getElem? (i := 42) rfl)) (hw _ (List.mem_of_getElem? (i := 43) rfl)) (hw _ (List.mem_of_getElem? (i := 47) rfl)) (hw _ (List.mem_of_getElem? (i := 45) rfl)) (hw _ (List.mem_of_getElem? (i := 46) rfl)) (hw _ (List.mem_of_getElem? (i := 48) rfl)) e00 Ar_V E_V FC (g := (mkF m 3 #[] [(.ref wV)])) rfl (by rw [hml]; rfl) rfl (hb hby d8_3) (by decide) (W := 0) (cap := 3) (by show 2 * 0 + _ ≤ _; exact Nat.le_of_eq rfl) (by decide) (by rw [hsz]; decide) (by decide) (by decide)
  obtain ⟨b3, g3⟩ : ∃ z, z = h0.size := ⟨_, rfl⟩
  rw [← g3] at Ar3 A3 st3
  have ne_wV_b3 : wV ≠ b3 := Nat.ne_of_lt (Nat.lt_of_lt_of_le E_V.lt (Nat.le_of_eq g3.symm))
  have g_b3 : n0 ≤ b3 := Nat.le_trans Z0 (Nat.le_of_eq g3.symm)
  have sz_b3 : h0.size ≤ b3 := Nat.le_trans K0.1 (Nat.le_of_eq g3.symm)
  have K3 := K0.ext E3
  have Z3 : n0 ≤ h3.size := Nat.le_trans Z0 E3.1
  refine own_by st3 ?_
  obtain ⟨T6, X6, e6, st6⟩ := castY X3 hx hZ hown (hw _ (List.mem_of_getElem? (i := 52) rfl)) e3 (Ins.self A3) (g := (mkF m 6 #[] [(.ref b3)])) rfl rfl (hb hby d8_6)
  refine own_by st6 ?_
  obtain ⟨fs, hr, hrun, hended, hW, hsame⟩ := X6.leave (v := some (.ref b3)) (fun h => by rw [Bd.returns] at h; cases h)
  refine ⟨_, _, ?_, hrun, hended, _, _, rfl, ?_, ⟨_, rfl⟩, hW, hsame.mono (by decide) (by decide)⟩
  · show Steps p.tables e below (T6.setTop (mkF m 9 #[] [(.ref b3)])) _
    jvm_step X6.here [X6.here.top, hx, (hb hby d8_9), X6.method', Bd.returns, Value.isRef, FieldType.isReference]
    first | (intro acts; rw [hr _ acts rfl rfl rfl]) | rw [hr _ _ rfl rfl rfl]
    exact Steps.refl _
  · show Q8 Z wV cl wSTATIC wADMIN wDYNAMIC h0 n0 _ T6.heap _
    rw [e6]
    exact ⟨_, rfl, sz_b3, N0, K3, Ar3⟩
theorem d7_0 : decode prog_15_method_5_code 0 = .ok (.invokestatic 36, 3) := by decide +kernel
theorem d7_3 : decode prog_15_method_5_code 3 = .ok (.astore_n 1, 1) := by decide +kernel
theorem d7_4 : decode prog_15_method_5_code 4 = .ok (.aload_n 1, 1) := by decide +kernel
theorem d7_5 : decode prog_15_method_5_code 5 = .ok (.arraylength, 1) := by decide +kernel
theorem d7_6 : decode prog_15_method_5_code 6 = .ok (.istore_n 2, 1) := by decide +kernel
theorem d7_7 : decode prog_15_method_5_code 7 = .ok (.iconst 0, 1) := by decide +kernel
theorem d7_8 : decode prog_15_method_5_code 8 = .ok (.istore_n 3, 1) := by decide +kernel
theorem d7_9 : decode prog_15_method_5_code 9 = .ok (.iload_n 3, 1) := by decide +kernel
theorem d7_10 : decode prog_15_method_5_code 10 = .ok (.iload_n 2, 1) := by decide +kernel
theorem d7_11 : decode prog_15_method_5_code 11 = .ok (.if_icmp .ge 29, 3) := by decide +kernel
theorem d7_14 : decode prog_15_method_5_code 14 = .ok (.aload_n 1, 1) := by decide +kernel
theorem d7_15 : decode prog_15_method_5_code 15 = .ok (.iload_n 3, 1) := by decide +kernel
theorem d7_16 : decode prog_15_method_5_code 16 = .ok (.aaload, 1) := by decide +kernel
theorem d7_17 : decode prog_15_method_5_code 17 = .ok (.astore 4, 2) := by decide +kernel
theorem d7_19 : decode prog_15_method_5_code 19 = .ok (.aload 4, 2) := by decide +kernel
theorem d7_21 : decode prog_15_method_5_code 21 = .ok (.getfield 32, 3) := by decide +kernel
theorem d7_24 : decode prog_15_method_5_code 24 = .ok (.aload_n 0, 1) := by decide +kernel
theorem d7_25 : decode prog_15_method_5_code 25 = .ok (.invokevirtual 40, 3) := by decide +kernel
theorem d7_28 : decode prog_15_method_5_code 28 = .ok (.ifCond .eq 6, 3) := by decide +kernel
theorem d7_31 : decode prog_15_method_5_code 31 = .ok (.aload 4, 2) := by decide +kernel
theorem d7_33 : decode prog_15_method_5_code 33 = .ok (.areturn, 1) := by decide +kernel
theorem d7_34 : decode prog_15_method_5_code 34 = .ok (.iinc 3 1, 3) := by decide +kernel
theorem d7_37 : decode prog_15_method_5_code 37 = .ok (.goto (-28), 3) := by decide +kernel
theorem pn_7 : plainFor (⟨"com/example/writd/writd/model/ClientSource", "parse", "(Ljava/lang/String;)Lcom/example/writd/writd/model/ClientSource;"⟩ : MethodName) = true := by first | exact plainFor_of_name (by first | (simp [plainName, overriddenIn]; done) | decide +kernel) | decide +kernel | exact Jvm.Free.JP.mathPlain rfl (by decide +kernel)
theorem pd_7_0 : parseMethodDescriptor "()[Lcom/example/writd/writd/model/ClientSource;" = some ⟨[], some (.array (.object "com/example/writd/writd/model/ClientSource"))⟩ := by decide +kernel
theorem pd_7_1 : parseMethodDescriptor "(Ljava/lang/Object;)Z" = some ⟨[(.object "java/lang/Object")], some .boolean⟩ := by decide +kernel
theorem ef_7 (m : MethodId) (a1 : Addr) : entryFrame m #[(.ref a1)] 5 = mkF m 0 #[.val (.ref a1), .unset, .unset, .unset, .unset] [] := by first | (simp [entryFrame, mkF, argsToLocals, Value.category]; done) | rfl
def Q7 (Z : State) (a1 : Addr) (cs : List Int32) (wV : Addr) (cl : Cell) (wSTATIC : Addr) (wADMIN : Addr) (wDYNAMIC : Addr) (sSTATIC : Addr) (sADMIN : Addr) (sDYNAMIC : Addr) (gz : Int32) (h0 : Heap) (n0 : Nat) (v : Option Value) (h : Heap) (L : List Loc) : Prop := v = some (.ref (if ([(115 : Int32), (116 : Int32), (97 : Int32), (116 : Int32), (105 : Int32), (99 : Int32)] : List Int32) = cs then wSTATIC else if ([(97 : Int32), (100 : Int32), (109 : Int32), (105 : Int32), (110 : Int32)] : List Int32) = cs then wADMIN else wDYNAMIC)) ∧ Fr n0 L ∧ Keep h0 h []
set_option maxRecDepth 65536 in
set_option maxHeartbeats 40000000 in
theorem rm7 (l : Launch) (Z : State) (a0 : Array Value) (hw : ∀ d ∈ tables_1, d.before a0 Z = true) (ws : List Jvm.Cond) (a1 : Addr) (cs : List Int32) (wV : Addr) (cl : Cell) (wSTATIC : Addr) (wADMIN : Addr) (wDYNAMIC : Addr) (sSTATIC : Addr) (sADMIN : Addr) (sDYNAMIC : Addr) (gz : Int32) (h0 : Heap) (n0 : Nat) (Z0 : n0 ≤ h0.size) (O : Old Z n0 h0) (O2 : Sta Z Z.heap "java/lang/String" "COMPACT_STRINGS" "Z" (.int gz)) (P5 : ¬ (gz = (0 : Int32))) (S_V : Sta Z Z.heap "com/example/writd/writd/model/ClientSource" "$VALUES" "[Lcom/example/writd/writd/model/ClientSource;" (.ref wV)) (Ar_V : Arr Z Z.heap wV cl (.object "com/example/writd/writd/model/ClientSource")) (E_V : Exa Z Z.heap wV "[Lcom/example/writd/writd/model/ClientSource;") (FC : FitC Z cl) (hsz : cl.slots.size = 3) (hat0 : cl.slots[0]? = some (.ref wSTATIC)) (hat1 : cl.slots[1]? = some (.ref wADMIN)) (hat2 : cl.slots[2]? = some (.ref wDYNAMIC)) (FV_STATIC : Fld Z Z.heap wSTATIC "com/example/writd/writd/model/ClientSource" "value" "Ljava/lang/String;" (.ref sSTATIC)) (FV_ADMIN : Fld Z Z.heap wADMIN "com/example/writd/writd/model/ClientSource" "value" "Ljava/lang/String;" (.ref sADMIN)) (FV_DYNAMIC : Fld Z Z.heap wDYNAMIC "com/example/writd/writd/model/ClientSource" "value" "Ljava/lang/String;" (.ref sDYNAMIC)) (EX_STATIC : Exa Z Z.heap sSTATIC "java/lang/String") (EX_ADMIN : Exa Z Z.heap sADMIN "java/lang/String") (EX_DYNAMIC : Exa Z Z.heap sDYNAMIC "java/lang/String") (Str_STATIC : own_Str Z Z.heap sSTATIC ([(115 : Int32), (116 : Int32), (97 : Int32), (116 : Int32), (105 : Int32), (99 : Int32)] : List Int32)) (Str_ADMIN : own_Str Z Z.heap sADMIN ([(97 : Int32), (100 : Int32), (109 : Int32), (105 : Int32), (110 : Int32)] : List Int32)) (Str_DYNAMIC : own_Str Z Z.heap sDYNAMIC ([(100 : Int32), (121 : Int32), (110 : Int32), (97 : Int32), (109 : Int32), (105 : Int32), (99 : Int32)] : List Int32)) (S1 : own_Str Z h0 a1 cs) (hcs : ([(115 : Int32), (116 : Int32), (97 : Int32), (116 : Int32), (105 : Int32), (99 : Int32)] : List Int32) = cs ∨ ([(97 : Int32), (100 : Int32), (109 : Int32), (105 : Int32), (110 : Int32)] : List Int32) = cs ∨ ([(100 : Int32), (121 : Int32), (110 : Int32), (97 : Int32), (109 : Int32), (105 : Int32), (99 : Int32)] : List Int32) = cs) :
    MetFree l (⟨"com/example/writd/writd/model/ClientSource", "parse", "(Ljava/lang/String;)Lcom/example/writd/writd/model/ClientSource;"⟩ : MethodName) (head1 (Jvm.Cond.code (⟨"com/example/writd/writd/model/ClientSource", "parse", "(Ljava/lang/String;)Lcom/example/writd/writd/model/ClientSource;"⟩ : MethodName) prog_15_method_5_code 5 (some (.object "com/example/writd/writd/model/ClientSource")) :: ws) ({ frames := 2, cells := 1, slots := 3, locals := 28 } : Room)) (fun a U => a = #[(.ref a1)] ∧ Z.Warmed39 U.vm ∧ U.heap = h0) (fun _ _ _ _ _ => True) (fun _ U o U' => ∃ v L, o = .returned v ∧ Q7 Z a1 cs wV cl wSTATIC wADMIN wDYNAMIC sSTATIC sADMIN sDYNAMIC gz h0 n0 v U'.heap L ∧ FrameEnd U o U' L ({ frames := 2, cells := 1, slots := 3, locals := 28 } : Room).cells ({ frames := 2, cells := 1, slots := 3, locals := 28 } : Room).slots) := by
  refine MetFree.of_bodySF pn_7 hisR ?_
  intro p e s m args below meth c s₁ Bd hml0 hP hK
  obtain ⟨rfl, hZ, hh⟩ := hP
  have hx := Bd.exec
  have hby := Bd.bytes
  have hml : c.maxLocals = 5 := hml0
  have hown : s.vm.findClass "com/example/writd/writd/model/ClientSource" = some m.cls := findClass_of_methodNamed Bd.named
  have hnm := (name_of_methodNamed Bd.named Bd.method).1
  have X0 : Stand p l e ({ frames := 2, cells := 1, slots := 3, locals := 28 } : Room) s m #[(.ref a1)] below meth c s₁ [] 0 0 := Stand.of_body Bd
  have e0 : s₁.heap = h0 := by rw [← hh, Bd.state]; rfl
  have N0 := Fr.nil n0
  refine own_at (castTop (ef_7 m a1)) ?_
  have K0 := Keep.refl h0 []
  have heq : ∀ d ∈ StrChars.Road.wordsEq, d.before a0 Z = true := fun d hd => hw d ((by decide +kernel : ∀ d ∈ StrChars.Road.wordsEq, d ∈ tables_1) d hd)
  obtain ⟨_, _, ⟨T00, L00, k00, n00⟩, -, X00, ⟨Lc00, hQ00, l00, y00, z00⟩, st00⟩ := Jvm.LawKit.callS X0 hx (y := (⟨"com/example/writd/writd/model/ClientSource", "values", "()[Lcom/example/writd/writd/model/ClientSource;"⟩ : MethodName)) hown (mvT hZ (hw _ (List.mem_of_getElem? (i := 37) rfl))) (mvT hZ (hw _ (List.mem_of_getElem? (i := 38) rfl))) (mvT hZ (hw _ (List.mem_of_getElem? (i := 3) rfl))) (mvT hZ (hw _ (List.mem_of_getElem? (i := 39) rfl))) (by decide) (backOf (W := 0) (rm8 l Z a0 hw [] wV cl wSTATIC wADMIN wDYNAMIC h0 n0 Z0 (S_V.ext O.2) (Ar_V.ext O.2) (E_V.ext O.2) FC hsz hat0 hat1 hat2) hZ (hw _ (List.mem_of_getElem? (i := 39) rfl)) (hw _ (List.mem_of_getElem? (i := 3) rfl)) (by decide) (by decide)) (g := (mkF m 0 (own_ARUUUU a1) [])) rfl (by rw [hml]; rfl) (argsL := []) (rest := []) (lenOf pd_7_0 rfl) rfl (by show 2 * 0 + _ ≤ _; exact Nat.le_of_eq rfl) (hb hby d7_0) (fun _ _ => ⟨rfl, e0, (by decide : 0 + 1 ≤ _), (by decide : 0 + 3 ≤ _)⟩)
  dsimp only [Pt.U, Pt.locs, Pt.cells, Pt.slots] at X00 l00 y00 z00 st00 hQ00
  subst l00 y00 z00
  obtain ⟨r00, rfl, ge00, N00q, Kq00, Ar00⟩ := hQ00
  have N00 := Fr.app N0 N00q
  have ne_a1_r00 : a1 ≠ r00 := Nat.ne_of_lt (Nat.lt_of_lt_of_le S1.lt ge00)
  have g_r00 : n0 ≤ r00 := Nat.le_trans Z0 ge00
  have sz_r00 : h0.size ≤ r00 := Nat.le_trans K0.1 ge00
  have K00 : Keep h0 T00.heap [] := K0.trans Kq00 (fun x hx => nomatch hx)
  have Z00 : n0 ≤ T00.heap.size := Nat.le_trans Z0 Kq00.1
  refine own_by st00 ?_
  have sg21 : ∀ t, own_S p e below T00 (mkF m 21 (own_ARRIIR a1 r00 (3 : Int32) (0 : Int32) wSTATIC) [(.ref wSTATIC)]) t → own_S p e below T00 (mkF m 3 (own_ARUUUU a1) [(.ref r00)]) t := by
    intro t k
    show own_S p e below T00 (mkF m 3 (own_ARUUUU a1) [(.ref r00)]) _
    refine XS.astoreN X00.here hx rfl (hb hby d7_3) rfl rfl (l' := (own_ARRUUU a1 r00)) rfl ?_
    show own_S p e below T00 (mkF m 4 (own_ARRUUU a1 r00) []) _
    refine XS.aloadN X00.here hx rfl (hb hby d7_4) rfl rfl ?_
    show own_S p e below T00 (mkF m 5 (own_ARRUUU a1 r00) [(.ref r00)]) _
    refine X00.arraylength hx (by exact Ar00.1) (State.isArrayOf_alike hZ.alike Ar00.2.1) (g := (mkF m 5 (own_ARRUUU a1 r00) [(.ref r00)])) rfl rfl (hb hby d7_5) _ ?_
    rw [hsz]
    show own_S p e below T00 (mkF m 6 (own_ARRUUU a1 r00) [(.int (3 : Int32))]) _
    refine XS.istoreN X00.here hx rfl (hb hby d7_6) rfl (l' := (own_ARRIUU a1 r00 (3 : Int32))) rfl ?_
    show own_S p e below T00 (mkF m 7 (own_ARRIUU a1 r00 (3 : Int32)) []) _
    refine XS.iconst X00.here hx rfl (hb hby d7_7) ?_
    show own_S p e below T00 (mkF m 8 (own_ARRIUU a1 r00 (3 : Int32)) [(.int (0 : Int32))]) _
    refine XS.istoreN X00.here hx rfl (hb hby d7_8) rfl (l' := (own_ARRIIU a1 r00 (3 : Int32) (0 : Int32))) rfl ?_
    show own_S p e below T00 (mkF m 9 (own_ARRIIU a1 r00 (3 : Int32) (0 : Int32)) []) _
    refine XS.iloadN X00.here hx rfl (hb hby d7_9) rfl ?_
    show own_S p e below T00 (mkF m 10 (own_ARRIIU a1 r00 (3 : Int32) (0 : Int32)) [(.int (0 : Int32))]) _
    refine XS.iloadN X00.here hx rfl (hb hby d7_10) rfl ?_
    show own_S p e below T00 (mkF m 11 (own_ARRIIU a1 r00 (3 : Int32) (0 : Int32)) [(.int (3 : Int32)), (.int (0 : Int32))]) _
    refine XS.icmpNo X00.here hx rfl (hb hby d7_11) rfl (tlt (by decide : (0 : Int32) < (3 : Int32))).2.1 ?_
    show own_S p e below T00 (mkF m 14 (own_ARRIIU a1 r00 (3 : Int32) (0 : Int32)) []) _
    refine XS.aloadN X00.here hx rfl (hb hby d7_14) rfl rfl ?_
    show own_S p e below T00 (mkF m 15 (own_ARRIIU a1 r00 (3 : Int32) (0 : Int32)) [(.ref r00)]) _
    refine XS.iloadN X00.here hx rfl (hb hby d7_15) rfl ?_
    show own_S p e below T00 (mkF m 16 (own_ARRIIU a1 r00 (3 : Int32) (0 : Int32)) [(.int (0 : Int32)), (.ref r00)]) _
    refine X00.aaload hx (j := (0 : Int32)) (v := (.ref wSTATIC)) (by exact Ar00.1) (State.isArrayOf_alike hZ.alike Ar00.2.1) rfl Ar00.2.2 (by rw [hsz]; decide) hat0 (g := (mkF m 16 (own_ARRIIU a1 r00 (3 : Int32) (0 : Int32)) [(.int (0 : Int32)), (.ref r00)])) rfl rfl (hb hby d7_16) _ ?_
    show own_S p e below T00 (mkF m 17 (own_ARRIIU a1 r00 (3 : Int32) (0 : Int32)) [(.ref wSTATIC)]) _
    refine XS.astore X00.here hx rfl (hb hby d7_17) rfl rfl (l' := (own_ARRIIR a1 r00 (3 : Int32) (0 : Int32) wSTATIC)) rfl ?_
    show own_S p e below T00 (mkF m 19 (own_ARRIIR a1 r00 (3 : Int32) (0 : Int32) wSTATIC) []) _
    refine XS.aload X00.here hx rfl (hb hby d7_19) rfl rfl ?_
    exact k
  refine own_by sg21 ?_
  obtain ⟨T21, X21, e21, st21⟩ := getF X00 hx hZ hown (host := "") (Or.inl (hw _ (List.mem_of_getElem? (i := 54) rfl))) Via.refl rfl (FV_STATIC.ext (O.keep Kq00 all0).2) (g := (mkF m 21 (own_ARRIIR a1 r00 (3 : Int32) (0 : Int32) wSTATIC) [(.ref wSTATIC)])) rfl rfl (hb hby d7_21)
  refine own_by st21 ?_
  have sg25 : ∀ t, own_S p e below T21 (mkF m 25 (own_ARRIIR a1 r00 (3 : Int32) (0 : Int32) wSTATIC) [(.ref a1), (.ref sSTATIC)]) t → own_S p e below T21 (mkF m 24 (own_ARRIIR a1 r00 (3 : Int32) (0 : Int32) wSTATIC) [(.ref sSTATIC)]) t := by
    intro t k
    show own_S p e below T21 (mkF m 24 (own_ARRIIR a1 r00 (3 : Int32) (0 : Int32) wSTATIC) [(.ref sSTATIC)]) _
    refine XS.aloadN X21.here hx rfl (hb hby d7_24) rfl rfl ?_
    exact k
  refine own_by sg25 ?_
  obtain ⟨tx25, kx25, dx25, nx25, vx25, xe25, xv25, xc25, xk25, xh25, xb25, xl25⟩ := id (Str_STATIC.ext (O.keep Kq00 all0).2)
  obtain ⟨ty25, ky25, dy25, ny25, vy25, ye25, yv25, yc25, yk25, yh25, yb25, yl25⟩ := id (S1.ext (own_kx Kq00))
  obtain ⟨cq25, kq25, q25a, q25b, q25c⟩ := isOf hZ e21 (EX_STATIC.ext (O.keep Kq00 all0).2)
  obtain ⟨_, _, ⟨T25, L25, k25, n25⟩, -, X25, ⟨Lc25, hQ25, l25, y25, z25⟩, st25⟩ := X21.virtualBack hx (y := (⟨"java/lang/String", "equals", "(Ljava/lang/Object;)Z"⟩ : MethodName)) (z := (⟨"java/lang/String", "equals", "(Ljava/lang/Object;)Z"⟩ : MethodName)) hown (mvT hZ (hw _ (List.mem_of_getElem? (i := 56) rfl))) (mvT hZ (hw _ (List.mem_of_getElem? (i := 57) rfl))) (notFace_of_selects (args := #[]) (mvT hZ (hw _ (List.mem_of_getElem? (i := 59) rfl)))) (mvT hZ (hw _ (List.mem_of_getElem? (i := 59) rfl))) (mvT hZ (hw _ (List.mem_of_getElem? (i := 58) rfl))) (by decide) (StrChars.Road.eqW (W := 0) hZ heq (kI := 4) (hw _ (List.mem_of_getElem? (i := 6) rfl)) xe25 xv25 xc25 xk25 xh25 xb25 xl25 ye25 yv25 yc25 yk25 yh25 yb25 yl25 (O2.ext (O.keep Kq00 all0).2) P5 (by decide) (by decide)) q25a q25c (g := (mkF m 25 (own_ARRIIR a1 r00 (3 : Int32) (0 : Int32) wSTATIC) [(.ref a1), (.ref sSTATIC)])) rfl (by rw [hml]; rfl) (Steps.refl _) (argsL := [(.ref a1)]) (rest := []) (lenOf pd_7_1 rfl) rfl (by show 2 * 0 + _ ≤ _; exact Nat.le_of_eq rfl) (hb hby d7_25) (fun _ _ => ⟨rfl, e21, (by decide : 1 + 0 ≤ _), (by decide : 3 + 0 ≤ _)⟩)
  dsimp only [Pt.U, Pt.locs, Pt.cells, Pt.slots] at X25 l25 y25 z25 st25 hQ25
  subst l25 y25 z25
  obtain ⟨hv25, rfl, hq25⟩ := hQ25
  obtain rfl := own_eqv hv25
  have N25 := Fr.app N00 (Fr.nil n0)
  obtain ⟨c25, hc25⟩ : ∃ z : Int32, z = (if ([(115 : Int32), (116 : Int32), (97 : Int32), (116 : Int32), (105 : Int32), (99 : Int32)] : List Int32) = cs then (1 : Int32) else (0 : Int32)) := ⟨_, rfl⟩
  rw [← hc25] at st25
  refine own_by (fun t k => st25.trans k) ?_
  by_cases hc28 : c25 = (0 : Int32)
  · have sg21_2 : ∀ t, own_S p e below T25 (mkF m 21 (own_ARRIIR a1 r00 (3 : Int32) (1 : Int32) wADMIN) [(.ref wADMIN)]) t → own_S p e below T25 (mkF m 28 (own_ARRIIR a1 r00 (3 : Int32) (0 : Int32) wSTATIC) [(.int c25)]) t := by
      intro t k
      show own_S p e below T25 (mkF m 28 (own_ARRIIR a1 r00 (3 : Int32) (0 : Int32) wSTATIC) [(.int c25)]) _
      refine XS.ifYes X25.here hx rfl (pc0 := 28) (pc' := 34) rfl (hb hby d7_28) rfl ((if0 _ _).trans (teq hc28).1) (by decide) (by decide) ?_
      show own_S p e below T25 (mkF m 34 (own_ARRIIR a1 r00 (3 : Int32) (0 : Int32) wSTATIC) []) _
      refine XS.iinc X25.here hx rfl (hb hby d7_34) rfl (l' := (own_ARRIIR a1 r00 (3 : Int32) (1 : Int32) wSTATIC)) rfl ?_
      show own_S p e below T25 (mkF m 37 (own_ARRIIR a1 r00 (3 : Int32) (1 : Int32) wSTATIC) []) _
      refine XS.goto X25.here hx rfl (pc0 := 37) (pc' := 9) rfl (hb hby d7_37) (by decide) (by decide) ?_
      show own_S p e below T25 (mkF m 9 (own_ARRIIR a1 r00 (3 : Int32) (1 : Int32) wSTATIC) []) _
      refine XS.iloadN X25.here hx rfl (hb hby d7_9) rfl ?_
      show own_S p e below T25 (mkF m 10 (own_ARRIIR a1 r00 (3 : Int32) (1 : Int32) wSTATIC) [(.int (1 : Int32))]) _
      refine XS.iloadN X25.here hx rfl (hb hby d7_10) rfl ?_
      show own_S p e below T25 (mkF m 11 (own_ARRIIR a1 r00 (3 : Int32) (1 : Int32) wSTATIC) [(.int (3 : Int32)), (.int (1 : Int32))]) _
      refine XS.icmpNo X25.here hx rfl (hb hby d7_11) rfl (tlt (by decide : (1 : Int32) < (3 : Int32))).2.1 ?_
      show own_S p e below T25 (mkF m 14 (own_ARRIIR a1 r00 (3 : Int32) (1 : Int32) wSTATIC) []) _
      refine XS.aloadN X25.here hx rfl (hb hby d7_14) rfl rfl ?_
      show own_S p e below T25 (mkF m 15 (own_ARRIIR a1 r00 (3 : Int32) (1 : Int32) wSTATIC) [(.ref r00)]) _
      refine XS.iloadN X25.here hx rfl (hb hby d7_15) rfl ?_
      show own_S p e below T25 (mkF m 16 (own_ARRIIR a1 r00 (3 : Int32) (1 : Int32) wSTATIC) [(.int (1 : Int32)), (.ref r00)]) _
      refine X25.aaload hx (j := (1 : Int32)) (v := (.ref wADMIN)) (by rw [hq25]; exact Ar00.1) (State.isArrayOf_alike hZ.alike Ar00.2.1) rfl Ar00.2.2 (by rw [hsz]; decide) hat1 (g := (mkF m 16 (own_ARRIIR a1 r00 (3 : Int32) (1 : Int32) wSTATIC) [(.int (1 : Int32)), (.ref r00)])) rfl rfl (hb hby d7_16) _ ?_
      show own_S p e below T25 (mkF m 17 (own_ARRIIR a1 r00 (3 : Int32) (1 : Int32) wSTATIC) [(.ref wADMIN)]) _
      refine XS.astore X25.here hx rfl (hb hby d7_17) rfl rfl (l' := (own_ARRIIR a1 r00 (3 : Int32) (1 : Int32) wADMIN)) rfl ?_
      show own_S p e below T25 (mkF m 19 (own_ARRIIR a1 r00 (3 : Int32) (1 : Int32) wADMIN) []) _
      refine XS.aload X25.here hx rfl (hb hby d7_19) rfl rfl ?_
      exact k
    refine own_by sg21_2 ?_
    obtain ⟨T21_2, X21_2, e21_2, st21_2⟩ := getF X25 hx hZ hown (host := "") (Or.inl (hw _ (List.mem_of_getElem? (i := 54) rfl))) Via.refl hq25 (FV_ADMIN.ext (O.keep Kq00 all0).2) (g := (mkF m 21 (own_ARRIIR a1 r00 (3 : Int32) (1 : Int32) wADMIN) [(.ref wADMIN)])) rfl rfl (hb hby d7_21)
    refine own_by st21_2 ?_
    have sg25_2 : ∀ t, own_S p e below T21_2 (mkF m 25 (own_ARRIIR a1 r00 (3 : Int32) (1 : Int32) wADMIN) [(.ref a1), (.ref sADMIN)]) t → own_S p e below T21_2 (mkF m 24 (own_ARRIIR a1 r00 (3 : Int32) (1 : Int32) wADMIN) [(.ref sADMIN)]) t := by
      intro t k
      show own_S p e below T21_2 (mkF m 24 (own_ARRIIR a1 r00 (3 : Int32) (1 : Int32) wADMIN) [(.ref sADMIN)]) _
      refine XS.aloadN X21_2.here hx rfl (hb hby d7_24) rfl rfl ?_
      exact k
    refine own_by sg25_2 ?_
    obtain ⟨tx25_2, kx25_2, dx25_2, nx25_2, vx25_2, xe25_2, xv25_2, xc25_2, xk25_2, xh25_2, xb25_2, xl25_2⟩ := id (Str_ADMIN.ext (O.keep Kq00 all0).2)
    obtain ⟨ty25_2, ky25_2, dy25_2, ny25_2, vy25_2, ye25_2, yv25_2, yc25_2, yk25_2, yh25_2, yb25_2, yl25_2⟩ := id (S1.ext (own_kx Kq00))
    obtain ⟨cq25_2, kq25_2, q25_2a, q25_2b, q25_2c⟩ := isOf hZ e21_2 (EX_ADMIN.ext (O.keep Kq00 all0).2)
    obtain ⟨_, _, ⟨T25_2, L25_2, k25_2, n25_2⟩, -, X25_2, ⟨Lc25_2, hQ25_2, l25_2, y25_2, z25_2⟩, st25_2⟩ := X21_2.virtualBack hx (y := (⟨"java/lang/String", "equals", "(Ljava/lang/Object;)Z"⟩ : MethodName)) (z := (⟨"java/lang/String", "equals", "(Ljava/lang/Object;)Z"⟩ : MethodName)) hown (mvT hZ (hw _ (List.mem_of_getElem? (i := 56) rfl))) (mvT hZ (hw _ (List.mem_of_getElem? (i := 57) rfl))) (notFace_of_selects (args := #[]) (mvT hZ (hw _ (List.mem_of_getElem? (i := 59) rfl)))) (mvT hZ (hw _ (List.mem_of_getElem? (i := 59) rfl))) (mvT hZ (hw _ (List.mem_of_getElem? (i := 58) rfl))) (by decide) (StrChars.Road.eqW (W := 0) hZ heq (kI := 4) (hw _ (List.mem_of_getElem? (i := 6) rfl)) xe25_2 xv25_2 xc25_2 xk25_2 xh25_2 xb25_2 xl25_2 ye25_2 yv25_2 yc25_2 yk25_2 yh25_2 yb25_2 yl25_2 (O2.ext (O.keep Kq00 all0).2) P5 (by decide) (by decide)) q25_2a q25_2c (g := (mkF m 25 (own_ARRIIR a1 r00 (3 : Int32) (1 : Int32) wADMIN) [(.ref a1), (.ref sADMIN)])) rfl (by rw [hml]; rfl) (Steps.refl _) (argsL := [(.ref a1)]) (rest := []) (lenOf pd_7_1 rfl) rfl (by show 2 * 0 + _ ≤ _; exact Nat.le_of_eq rfl) (hb hby d7_25) (fun _ _ => ⟨rfl, e21_2, (by decide : 1 + 0 ≤ _), (by decide : 3 + 0 ≤ _)⟩)
    dsimp only [Pt.U, Pt.locs, Pt.cells, Pt.slots] at X25_2 l25_2 y25_2 z25_2 st25_2 hQ25_2
    subst l25_2 y25_2 z25_2
    obtain ⟨hv25_2, rfl, hq25_2⟩ := hQ25_2
    obtain rfl := own_eqv hv25_2
    have N25_2 := Fr.app N25 (Fr.nil n0)
    obtain ⟨c25_2, hc25_2⟩ : ∃ z : Int32, z = (if ([(97 : Int32), (100 : Int32), (109 : Int32), (105 : Int32), (110 : Int32)] : List Int32) = cs then (1 : Int32) else (0 : Int32)) := ⟨_, rfl⟩
    rw [← hc25_2] at st25_2
    refine own_by (fun t k => st25_2.trans k) ?_
    by_cases hc28_2 : c25_2 = (0 : Int32)
    · have sg21_3 : ∀ t, own_S p e below T25_2 (mkF m 21 (own_ARRIIR a1 r00 (3 : Int32) (2 : Int32) wDYNAMIC) [(.ref wDYNAMIC)]) t → own_S p e below T25_2 (mkF m 28 (own_ARRIIR a1 r00 (3 : Int32) (1 : Int32) wADMIN) [(.int c25_2)]) t := by
        intro t k
        show own_S p e below T25_2 (mkF m 28 (own_ARRIIR a1 r00 (3 : Int32) (1 : Int32) wADMIN) [(.int c25_2)]) _
        refine XS.ifYes X25_2.here hx rfl (pc0 := 28) (pc' := 34) rfl (hb hby d7_28) rfl ((if0 _ _).trans (teq hc28_2).1) (by decide) (by decide) ?_
        show own_S p e below T25_2 (mkF m 34 (own_ARRIIR a1 r00 (3 : Int32) (1 : Int32) wADMIN) []) _
        refine XS.iinc X25_2.here hx rfl (hb hby d7_34) rfl (l' := (own_ARRIIR a1 r00 (3 : Int32) (2 : Int32) wADMIN)) rfl ?_
        show own_S p e below T25_2 (mkF m 37 (own_ARRIIR a1 r00 (3 : Int32) (2 : Int32) wADMIN) []) _
        refine XS.goto X25_2.here hx rfl (pc0 := 37) (pc' := 9) rfl (hb hby d7_37) (by decide) (by decide) ?_
        show own_S p e below T25_2 (mkF m 9 (own_ARRIIR a1 r00 (3 : Int32) (2 : Int32) wADMIN) []) _
        refine XS.iloadN X25_2.here hx rfl (hb hby d7_9) rfl ?_
        show own_S p e below T25_2 (mkF m 10 (own_ARRIIR a1 r00 (3 : Int32) (2 : Int32) wADMIN) [(.int (2 : Int32))]) _
        refine XS.iloadN X25_2.here hx rfl (hb hby d7_10) rfl ?_
        show own_S p e below T25_2 (mkF m 11 (own_ARRIIR a1 r00 (3 : Int32) (2 : Int32) wADMIN) [(.int (3 : Int32)), (.int (2 : Int32))]) _
        refine XS.icmpNo X25_2.here hx rfl (hb hby d7_11) rfl (tlt (by decide : (2 : Int32) < (3 : Int32))).2.1 ?_
        show own_S p e below T25_2 (mkF m 14 (own_ARRIIR a1 r00 (3 : Int32) (2 : Int32) wADMIN) []) _
        refine XS.aloadN X25_2.here hx rfl (hb hby d7_14) rfl rfl ?_
        show own_S p e below T25_2 (mkF m 15 (own_ARRIIR a1 r00 (3 : Int32) (2 : Int32) wADMIN) [(.ref r00)]) _
        refine XS.iloadN X25_2.here hx rfl (hb hby d7_15) rfl ?_
        show own_S p e below T25_2 (mkF m 16 (own_ARRIIR a1 r00 (3 : Int32) (2 : Int32) wADMIN) [(.int (2 : Int32)), (.ref r00)]) _
        refine X25_2.aaload hx (j := (2 : Int32)) (v := (.ref wDYNAMIC)) (by rw [hq25_2]; exact Ar00.1) (State.isArrayOf_alike hZ.alike Ar00.2.1) rfl Ar00.2.2 (by rw [hsz]; decide) hat2 (g := (mkF m 16 (own_ARRIIR a1 r00 (3 : Int32) (2 : Int32) wADMIN) [(.int (2 : Int32)), (.ref r00)])) rfl rfl (hb hby d7_16) _ ?_
        show own_S p e below T25_2 (mkF m 17 (own_ARRIIR a1 r00 (3 : Int32) (2 : Int32) wADMIN) [(.ref wDYNAMIC)]) _
        refine XS.astore X25_2.here hx rfl (hb hby d7_17) rfl rfl (l' := (own_ARRIIR a1 r00 (3 : Int32) (2 : Int32) wDYNAMIC)) rfl ?_
        show own_S p e below T25_2 (mkF m 19 (own_ARRIIR a1 r00 (3 : Int32) (2 : Int32) wDYNAMIC) []) _
        refine XS.aload X25_2.here hx rfl (hb hby d7_19) rfl rfl ?_
        exact k
      refine own_by sg21_3 ?_
      obtain ⟨T21_3, X21_3, e21_3, st21_3⟩ := getF X25_2 hx hZ hown (host := "") (Or.inl (hw _ (List.mem_of_getElem? (i := 54) rfl))) Via.refl hq25_2 (FV_DYNAMIC.ext (O.keep Kq00 all0).2) (g := (mkF m 21 (own_ARRIIR a1 r00 (3 : Int32) (2 : Int32) wDYNAMIC) [(.ref wDYNAMIC)])) rfl rfl (hb hby d7_21)
      refine own_by st21_3 ?_
      have sg25_3 : ∀ t, own_S p e below T21_3 (mkF m 25 (own_ARRIIR a1 r00 (3 : Int32) (2 : Int32) wDYNAMIC) [(.ref a1), (.ref sDYNAMIC)]) t → own_S p e below T21_3 (mkF m 24 (own_ARRIIR a1 r00 (3 : Int32) (2 : Int32) wDYNAMIC) [(.ref sDYNAMIC)]) t := by
        intro t k
        show own_S p e below T21_3 (mkF m 24 (own_ARRIIR a1 r00 (3 : Int32) (2 : Int32) wDYNAMIC) [(.ref sDYNAMIC)]) _
        refine XS.aloadN X21_3.here hx rfl (hb hby d7_24) rfl rfl ?_
        exact k
      refine own_by sg25_3 ?_
      obtain ⟨tx25_3, kx25_3, dx25_3, nx25_3, vx25_3, xe25_3, xv25_3, xc25_3, xk25_3, xh25_3, xb25_3, xl25_3⟩ := id (Str_DYNAMIC.ext (O.keep Kq00 all0).2)
      obtain ⟨ty25_3, ky25_3, dy25_3, ny25_3, vy25_3, ye25_3, yv25_3, yc25_3, yk25_3, yh25_3, yb25_3, yl25_3⟩ := id (S1.ext (own_kx Kq00))
      obtain ⟨cq25_3, kq25_3, q25_3a, q25_3b, q25_3c⟩ := isOf hZ e21_3 (EX_DYNAMIC.ext (O.keep Kq00 all0).2)
      obtain ⟨_, _, ⟨T25_3, L25_3, k25_3, n25_3⟩, -, X25_3, ⟨Lc25_3, hQ25_3, l25_3, y25_3, z25_3⟩, st25_3⟩ := X21_3.virtualBack hx (y := (⟨"java/lang/String", "equals", "(Ljava/lang/Object;)Z"⟩ : MethodName)) (z := (⟨"java/lang/String", "equals", "(Ljava/lang/Object;)Z"⟩ : MethodName)) hown (mvT hZ (hw _ (List.mem_of_getElem? (i := 56) rfl))) (mvT hZ (hw _ (List.mem_of_getElem? (i := 57) rfl))) (notFace_of_selects (args := #[]) (mvT hZ (hw _ (List.mem_of_getElem? (i := 59) rfl)))) (mvT hZ (hw _ (List.mem_of_getElem? (i := 59) rfl))) (mvT hZ (hw _ (List.mem_of_getElem? (i := 58) rfl))) (by decide) (StrChars.Road.eqW (W := 0) hZ heq (kI := 4) (hw _ (List.mem_of_getElem? (i := 6) rfl)) xe25_3 xv25_3 xc25_3 xk25_3 xh25_3 xb25_3 xl25_3 ye25_3 yv25_3 yc25_3 yk25_3 yh25_3 yb25_3 yl25_3 (O2.ext (O.keep Kq00 all0).2) P5 (by decide) (by decide)) q25_3a q25_3c (g := (mkF m 25 (own_ARRIIR a1 r00 (3 : Int32) (2 : Int32) wDYNAMIC) [(.ref a1), (.ref sDYNAMIC)])) rfl (by rw [hml]; rfl) (Steps.refl _) (argsL := [(.ref a1)]) (rest := []) (lenOf pd_7_1 rfl) rfl (by show 2 * 0 + _ ≤ _; exact Nat.le_of_eq rfl) (hb hby d7_25) (fun _ _ => ⟨rfl, e21_3, (by decide : 1 + 0 ≤ _), (by decide : 3 + 0 ≤ _)⟩)
      dsimp only [Pt.U, Pt.locs, Pt.cells, Pt.slots] at X25_3 l25_3 y25_3 z25_3 st25_3 hQ25_3
      subst l25_3 y25_3 z25_3
      obtain ⟨hv25_3, rfl, hq25_3⟩ := hQ25_3
      obtain rfl := own_eqv hv25_3
      have N25_3 := Fr.app N25_2 (Fr.nil n0)
      obtain ⟨c25_3, hc25_3⟩ : ∃ z : Int32, z = (if ([(100 : Int32), (121 : Int32), (110 : Int32), (97 : Int32), (109 : Int32), (105 : Int32), (99 : Int32)] : List Int32) = cs then (1 : Int32) else (0 : Int32)) := ⟨_, rfl⟩
      rw [← hc25_3] at st25_3
      refine own_by (fun t k => st25_3.trans k) ?_
      by_cases hc28_3 : c25_3 = (0 : Int32)
      · exfalso
        rcases hcs with h | h | h
        · exact own_if0 hc25 hc28 h
        · exact own_if0 hc25_2 hc28_2 h
        · exact own_if0 hc25_3 hc28_3 h
      · have sg33 : ∀ t, own_S p e below T25_3 (mkF m 33 (own_ARRIIR a1 r00 (3 : Int32) (2 : Int32) wDYNAMIC) [(.ref wDYNAMIC)]) t → own_S p e below T25_3 (mkF m 28 (own_ARRIIR a1 r00 (3 : Int32) (2 : Int32) wDYNAMIC) [(.int c25_3)]) t := by
          intro t k
          show own_S p e below T25_3 (mkF m 28 (own_ARRIIR a1 r00 (3 : Int32) (2 : Int32) wDYNAMIC) [(.int c25_3)]) _
          refine XS.ifNo X25_3.here hx rfl (hb hby d7_28) rfl ((if0 _ _).trans (feq hc28_3).1) ?_
          show own_S p e below T25_3 (mkF m 31 (own_ARRIIR a1 r00 (3 : Int32) (2 : Int32) wDYNAMIC) []) _
          refine XS.aload X25_3.here hx rfl (hb hby d7_31) rfl rfl ?_
          exact k
        refine own_by sg33 ?_
        obtain ⟨fs, hr, hrun, hended, hW, hsame⟩ := X25_3.leave (v := some (.ref wDYNAMIC)) (fun h => by rw [Bd.returns] at h; cases h)
        refine ⟨_, _, ?_, hrun, hended, _, _, rfl, ?_, ⟨_, rfl⟩, hW, hsame.mono (by decide) (by decide)⟩
        · show Steps p.tables e below (T25_3.setTop (mkF m 33 (own_ARRIIR a1 r00 (3 : Int32) (2 : Int32) wDYNAMIC) [(.ref wDYNAMIC)])) _
          jvm_step X25_3.here [X25_3.here.top, hx, (hb hby d7_33), X25_3.method', Bd.returns, Value.isRef, FieldType.isReference]
          first | (intro acts; rw [hr _ acts rfl rfl rfl]) | rw [hr _ _ rfl rfl rfl]
          exact Steps.refl _
        · show Q7 Z a1 cs wV cl wSTATIC wADMIN wDYNAMIC sSTATIC sADMIN sDYNAMIC gz h0 n0 _ T25_3.heap _
          rw [hq25_3]
          exact ⟨by rw [if_neg (own_if0 hc25 hc28), if_neg (own_if0 hc25_2 hc28_2)], N25_3, K00⟩
    · have sg33 : ∀ t, own_S p e below T25_2 (mkF m 33 (own_ARRIIR a1 r00 (3 : Int32) (1 : Int32) wADMIN) [(.ref wADMIN)]) t → own_S p e below T25_2 (mkF m 28 (own_ARRIIR a1 r00 (3 : Int32) (1 : Int32) wADMIN) [(.int c25_2)]) t := by
        intro t k
        show own_S p e below T25_2 (mkF m 28 (own_ARRIIR a1 r00 (3 : Int32) (1 : Int32) wADMIN) [(.int c25_2)]) _
        refine XS.ifNo X25_2.here hx rfl (hb hby d7_28) rfl ((if0 _ _).trans (feq hc28_2).1) ?_
        show own_S p e below T25_2 (mkF m 31 (own_ARRIIR a1 r00 (3 : Int32) (1 : Int32) wADMIN) []) _
        refine XS.aload X25_2.here hx rfl (hb hby d7_31) rfl rfl ?_
        exact k
      refine own_by sg33 ?_
      obtain ⟨fs, hr, hrun, hended, hW, hsame⟩ := X25_2.leave (v := some (.ref wADMIN)) (fun h => by rw [Bd.returns] at h; cases h)
      refine ⟨_, _, ?_, hrun, hended, _, _, rfl, ?_, ⟨_, rfl⟩, hW, hsame.mono (by decide) (by decide)⟩
      · show Steps p.tables e below (T25_2.setTop (mkF m 33 (own_ARRIIR a1 r00 (3 : Int32) (1 : Int32) wADMIN) [(.ref wADMIN)])) _
        jvm_step X25_2.here [X25_2.here.top, hx, (hb hby d7_33), X25_2.method', Bd.returns, Value.isRef, FieldType.isReference]
        first | (intro acts; rw [hr _ acts rfl rfl rfl]) | rw [hr _ _ rfl rfl rfl]
        exact Steps.refl _
      · show Q7 Z a1 cs wV cl wSTATIC wADMIN wDYNAMIC sSTATIC sADMIN sDYNAMIC gz h0 n0 _ T25_2.heap _
        rw [hq25_2]
        exact ⟨by rw [if_neg (own_if0 hc25 hc28), if_pos (own_if1 hc25_2 hc28_2)], N25_2, K00⟩
  · have sg33 : ∀ t, own_S p e below T25 (mkF m 33 (own_ARRIIR a1 r00 (3 : Int32) (0 : Int32) wSTATIC) [(.ref wSTATIC)]) t → own_S p e below T25 (mkF m 28 (own_ARRIIR a1 r00 (3 : Int32) (0 : Int32) wSTATIC) [(.int c25)]) t := by
      intro t k
      show own_S p e below T25 (mkF m 28 (own_ARRIIR a1 r00 (3 : Int32) (0 : Int32) wSTATIC) [(.int c25)]) _
      refine XS.ifNo X25.here hx rfl (hb hby d7_28) rfl ((if0 _ _).trans (feq hc28).1) ?_
      show own_S p e below T25 (mkF m 31 (own_ARRIIR a1 r00 (3 : Int32) (0 : Int32) wSTATIC) []) _
      refine XS.aload X25.here hx rfl (hb hby d7_31) rfl rfl ?_
      exact k
    refine own_by sg33 ?_
    obtain ⟨fs, hr, hrun, hended, hW, hsame⟩ := X25.leave (v := some (.ref wSTATIC)) (fun h => by rw [Bd.returns] at h; cases h)
    refine ⟨_, _, ?_, hrun, hended, _, _, rfl, ?_, ⟨_, rfl⟩, hW, hsame.mono (by decide) (by decide)⟩
    · show Steps p.tables e below (T25.setTop (mkF m 33 (own_ARRIIR a1 r00 (3 : Int32) (0 : Int32) wSTATIC) [(.ref wSTATIC)])) _
      jvm_step X25.here [X25.here.top, hx, (hb hby d7_33), X25.method', Bd.returns, Value.isRef, FieldType.isReference]
      first | (intro acts; rw [hr _ acts rfl rfl rfl]) | rw [hr _ _ rfl rfl rfl]
      exact Steps.refl _
    · show Q7 Z a1 cs wV cl wSTATIC wADMIN wDYNAMIC sSTATIC sADMIN sDYNAMIC gz h0 n0 _ T25.heap _
      rw [hq25]
      exact ⟨by rw [if_pos (own_if1 hc25 hc28)], N25, K00⟩
theorem d11_0 : decode prog_15_method_4_code 0 = .ok (.aload_n 0, 1) := by decide +kernel
theorem d11_1 : decode prog_15_method_4_code 1 = .ok (.getfield 32, 3) := by decide +kernel
theorem d11_4 : decode prog_15_method_4_code 4 = .ok (.areturn, 1) := by decide +kernel
theorem pn_11 : plainFor (⟨"com/example/writd/writd/model/ClientSource", "value", "()Ljava/lang/String;"⟩ : MethodName) = true := by first | exact plainFor_of_name (by first | (simp [plainName, overriddenIn]; done) | decide +kernel) | decide +kernel | exact Jvm.Free.JP.mathPlain rfl (by decide +kernel)
theorem ef_11 (m : MethodId) (a1 : Addr) : entryFrame m #[(.ref a1)] 1 = mkF m 0 #[.val (.ref a1)] [] := by first | (simp [entryFrame, mkF, argsToLocals, Value.category]; done) | rfl
def Q11 (Z : State) (a1 : Addr) (z : Addr) (h0 : Heap) (n0 : Nat) (v : Option Value) (h : Heap) (L : List Loc) : Prop := v = some (.ref z) ∧ Fr n0 L ∧ h = h0
set_option maxRecDepth 65536 in
set_option maxHeartbeats 40000000 in
theorem rm11 (l : Launch) (Z : State) (a0 : Array Value) (hw : ∀ d ∈ tables_1, d.before a0 Z = true) (ws : List Jvm.Cond) (a1 : Addr) (z : Addr) (h0 : Heap) (n0 : Nat) (Z0 : n0 ≤ h0.size) (F : Fld Z h0 a1 "com/example/writd/writd/model/ClientSource" "value" "Ljava/lang/String;" (.ref z)) :
    MetFree l (⟨"com/example/writd/writd/model/ClientSource", "value", "()Ljava/lang/String;"⟩ : MethodName) (head1 (Jvm.Cond.code (⟨"com/example/writd/writd/model/ClientSource", "value", "()Ljava/lang/String;"⟩ : MethodName) prog_15_method_4_code 1 (some (.object "java/lang/String")) :: ws) ({ frames := 0, cells := 0, slots := 0, locals := 0 } : Room)) (fun a U => a = #[(.ref a1)] ∧ Z.Warmed39 U.vm ∧ U.heap = h0) (fun _ _ _ _ _ => True) (fun _ U o U' => ∃ v L, o = .returned v ∧ Q11 Z a1 z h0 n0 v U'.heap L ∧ FrameEnd U o U' L ({ frames := 0, cells := 0, slots := 0, locals := 0 } : Room).cells ({ frames := 0, cells := 0, slots := 0, locals := 0 } : Room).slots) := by
  refine MetFree.of_bodySF pn_11 hisR ?_
  intro p e s m args below meth c s₁ Bd hml0 hP hK
  obtain ⟨rfl, hZ, hh⟩ := hP
  have hx := Bd.exec
  have hby := Bd.bytes
  have hml : c.maxLocals = 1 := hml0
  have hown : s.vm.findClass "com/example/writd/writd/model/ClientSource" = some m.cls := findClass_of_methodNamed Bd.named
  have hnm := (name_of_methodNamed Bd.named Bd.method).1
  have X0 : Stand p l e ({ frames := 0, cells := 0, slots := 0, locals := 0 } : Room) s m #[(.ref a1)] below meth c s₁ [] 0 0 := Stand.of_body Bd
  have e0 : s₁.heap = h0 := by rw [← hh, Bd.state]; rfl
  have N0 := Fr.nil n0
  refine own_at (castTop (ef_11 m a1)) ?_
  have sg1 : ∀ t, own_S p e below s₁ (mkF m 1 #[.val (.ref a1)] [(.ref a1)]) t → own_S p e below s₁ (mkF m 0 #[.val (.ref a1)] []) t := by
    intro t k
    show own_S p e below s₁ (mkF m 0 #[.val (.ref a1)] []) _
    refine XS.aloadN X0.here hx rfl (hb hby d11_0) rfl rfl ?_
    exact k
  refine own_by sg1 ?_
  obtain ⟨T1, X1, e1, st1⟩ := getF X0 hx hZ hown (host := "") (Or.inl (hw _ (List.mem_of_getElem? (i := 54) rfl))) Via.refl e0 F (g := (mkF m 1 #[.val (.ref a1)] [(.ref a1)])) rfl rfl (hb hby d11_1)
  refine own_by st1 ?_
  obtain ⟨fs, hr, hrun, hended, hW, hsame⟩ := X1.leave (v := some (.ref z)) (fun h => by rw [Bd.returns] at h; cases h)
  refine ⟨_, _, ?_, hrun, hended, _, _, rfl, ?_, ⟨_, rfl⟩, hW, hsame.mono (by decide) (by decide)⟩
  · show Steps p.tables e below (T1.setTop (mkF m 4 #[.val (.ref a1)] [(.ref z)])) _
    jvm_step X1.here [X1.here.top, hx, (hb hby d11_4), X1.method', Bd.returns, Value.isRef, FieldType.isReference]
    first | (intro acts; rw [hr _ acts rfl rfl rfl]) | rw [hr _ _ rfl rfl rfl]
    exact Steps.refl _
  · show Q11 Z a1 z h0 n0 _ T1.heap _
    rw [e1]
    exact ⟨rfl, N0, rfl⟩
theorem pn_0 : plainFor x = true := by first | exact plainFor_of_name (by first | (simp [plainName, overriddenIn]; done) | decide +kernel) | decide +kernel | exact Jvm.Free.JP.mathPlain rfl (by decide +kernel)
theorem pd_0_0 : parseMethodDescriptor "([C)V" = some ⟨[(.array .char)], none⟩ := by decide +kernel
theorem pd_0_1 : parseMethodDescriptor "(Ljava/lang/String;)Lcom/example/writd/writd/model/ClientSource;" = some ⟨[(.object "java/lang/String")], some (.object "com/example/writd/writd/model/ClientSource")⟩ := by decide +kernel
theorem pd_0_2 : parseMethodDescriptor "()Ljava/lang/String;" = some ⟨[], some (.object "java/lang/String")⟩ := by decide +kernel
theorem pd_0_3 : parseMethodDescriptor "(Ljava/lang/Object;)Z" = some ⟨[(.object "java/lang/Object")], some .boolean⟩ := by decide +kernel
theorem ef_0 (m : MethodId) (p0 : Int32) : entryFrame m #[(.int p0)] maxLocals = mkF m 0 #[.val (.int p0), .unset, .unset, .unset, .unset, .unset] [] := by first | (simp [entryFrame, mkF, argsToLocals, Value.category, maxLocals]; done) | rfl
def Q0 (Z : State) (p0 : Int32) (wV : Addr) (cl : Cell) (wSTATIC : Addr) (wADMIN : Addr) (wDYNAMIC : Addr) (sSTATIC : Addr) (sADMIN : Addr) (sDYNAMIC : Addr) (gz : Int32) (h0 : Heap) (n0 : Nat) (v : Option Value) (h : Heap) (L : List Loc) : Prop := v = some (.int 1) ∧ Fr n0 L
set_option maxRecDepth 65536 in
set_option maxHeartbeats 40000000 in
theorem rm0 (l : Launch) (Z : State) (a0 : Array Value) (hw : ∀ d ∈ tables_1, d.before a0 Z = true) (ws : List Jvm.Cond) (p0 : Int32) (wV : Addr) (cl : Cell) (wSTATIC : Addr) (wADMIN : Addr) (wDYNAMIC : Addr) (sSTATIC : Addr) (sADMIN : Addr) (sDYNAMIC : Addr) (gz : Int32) (h0 : Heap) (n0 : Nat) (Z0 : n0 ≤ h0.size) (O : Old Z n0 h0) (O2 : Sta Z Z.heap "java/lang/String" "COMPACT_STRINGS" "Z" (.int gz)) (P5 : ¬ (gz = (0 : Int32))) (S_V : Sta Z Z.heap "com/example/writd/writd/model/ClientSource" "$VALUES" "[Lcom/example/writd/writd/model/ClientSource;" (.ref wV)) (Ar_V : Arr Z Z.heap wV cl (.object "com/example/writd/writd/model/ClientSource")) (E_V : Exa Z Z.heap wV "[Lcom/example/writd/writd/model/ClientSource;") (FC : FitC Z cl) (hsz : cl.slots.size = 3) (hat0 : cl.slots[0]? = some (.ref wSTATIC)) (hat1 : cl.slots[1]? = some (.ref wADMIN)) (hat2 : cl.slots[2]? = some (.ref wDYNAMIC)) (FV_STATIC : Fld Z Z.heap wSTATIC "com/example/writd/writd/model/ClientSource" "value" "Ljava/lang/String;" (.ref sSTATIC)) (FV_ADMIN : Fld Z Z.heap wADMIN "com/example/writd/writd/model/ClientSource" "value" "Ljava/lang/String;" (.ref sADMIN)) (FV_DYNAMIC : Fld Z Z.heap wDYNAMIC "com/example/writd/writd/model/ClientSource" "value" "Ljava/lang/String;" (.ref sDYNAMIC)) (EX_STATIC : Exa Z Z.heap sSTATIC "java/lang/String") (EX_ADMIN : Exa Z Z.heap sADMIN "java/lang/String") (EX_DYNAMIC : Exa Z Z.heap sDYNAMIC "java/lang/String") (Str_STATIC : own_Str Z Z.heap sSTATIC ([(115 : Int32), (116 : Int32), (97 : Int32), (116 : Int32), (105 : Int32), (99 : Int32)] : List Int32)) (Str_ADMIN : own_Str Z Z.heap sADMIN ([(97 : Int32), (100 : Int32), (109 : Int32), (105 : Int32), (110 : Int32)] : List Int32)) (Str_DYNAMIC : own_Str Z Z.heap sDYNAMIC ([(100 : Int32), (121 : Int32), (110 : Int32), (97 : Int32), (109 : Int32), (105 : Int32), (99 : Int32)] : List Int32)) (S_STATIC : Sta Z Z.heap "com/example/writd/writd/model/ClientSource" "STATIC" "Lcom/example/writd/writd/model/ClientSource;" (.ref wSTATIC)) (S_ADMIN : Sta Z Z.heap "com/example/writd/writd/model/ClientSource" "ADMIN" "Lcom/example/writd/writd/model/ClientSource;" (.ref wADMIN)) (S_DYNAMIC : Sta Z Z.heap "com/example/writd/writd/model/ClientSource" "DYNAMIC" "Lcom/example/writd/writd/model/ClientSource;" (.ref wDYNAMIC)) (E_STATIC : Exa Z Z.heap wSTATIC "com/example/writd/writd/model/ClientSource") (E_ADMIN : Exa Z Z.heap wADMIN "com/example/writd/writd/model/ClientSource") (E_DYNAMIC : Exa Z Z.heap wDYNAMIC "com/example/writd/writd/model/ClientSource") :
    MetFree l x (head1 (Jvm.Cond.code x code maxLocals ret :: ws) room_1) (fun a U => a = #[(.int p0)] ∧ Z.Warmed39 U.vm ∧ U.heap = h0) (fun _ _ _ _ _ => True) (fun _ U o U' => ∃ v L, o = .returned v ∧ Q0 Z p0 wV cl wSTATIC wADMIN wDYNAMIC sSTATIC sADMIN sDYNAMIC gz h0 n0 v U'.heap L ∧ FrameEnd U o U' L room_1.cells room_1.slots) := by
  refine MetFree.of_bodySF pn_0 hisR ?_
  intro p e s m args below meth c s₁ Bd hml0 hP hK
  obtain ⟨rfl, hZ, hh⟩ := hP
  have hx := Bd.exec
  have hby := Bd.bytes
  have hml : c.maxLocals = 6 := hml0
  have hown : s.vm.findClass "com/example/writd/writd/model/ClientSourceParsePinLaw" = some m.cls := findClass_of_methodNamed Bd.named
  have hnm := (name_of_methodNamed Bd.named Bd.method).1
  have X0 : Stand p l e room_1 s m #[(.int p0)] below meth c s₁ [] 0 0 := Stand.of_body Bd
  have e0 : s₁.heap = h0 := by rw [← hh, Bd.state]; rfl
  have N0 := Fr.nil n0
  refine own_at (castTop (ef_0 m p0)) ?_
  have K0 := Keep.refl h0 []
  have hws : ∀ d ∈ StrChars.Road.words, d.before a0 Z = true := fun d hd => hw d ((by decide +kernel : ∀ d ∈ StrChars.Road.words, d ∈ tables_1) d hd)
  have heq : ∀ d ∈ StrChars.Road.wordsEq, d.before a0 Z = true := fun d hd => hw d ((by decide +kernel : ∀ d ∈ StrChars.Road.wordsEq, d ∈ tables_1) d hd)
  obtain ⟨v6, hv6⟩ : ∃ z : Int32, z = ((p0 &&& (2147483647 : Int32)) % (3 : Int32)) := ⟨_, rfl⟩
  have sg6 : ∀ t, own_S p e below s₁ (mkF m 6 (own_AIUUUUU p0) [(.int v6)]) t → own_S p e below s₁ (mkF m 0 (own_AIUUUUU p0) []) t := by
    intro t k
    rw [hv6] at k
    show own_S p e below s₁ (mkF m 0 (own_AIUUUUU p0) []) _
    refine XS.iloadN X0.here hx rfl (hb hby at_0) rfl ?_
    show own_S p e below s₁ (mkF m 1 (own_AIUUUUU p0) [(.int p0)]) _
    refine X0.ldcInt hx hown (mvT hZ (hw _ (List.mem_of_getElem? (i := 0) rfl))) (g := (mkF m 1 (own_AIUUUUU p0) [(.int p0)])) rfl (hb hby at_1) _ ?_
    show own_S p e below s₁ (mkF m 3 (own_AIUUUUU p0) [(.int (2147483647 : Int32)), (.int p0)]) _
    refine XS.iand X0.here hx rfl (hb hby at_3) rfl ?_
    show own_S p e below s₁ (mkF m 4 (own_AIUUUUU p0) [(.int (p0 &&& (2147483647 : Int32)))]) _
    refine XS.iconst X0.here hx rfl (hb hby at_4) ?_
    show own_S p e below s₁ (mkF m 5 (own_AIUUUUU p0) [(.int (3 : Int32)), (.int (p0 &&& (2147483647 : Int32)))]) _
    refine iremM X0 hx rfl (hb hby at_5) rfl (by decide) ?_
    exact k
  refine own_by sg6 ?_
  have sg8 : ∀ t, own_S p e below s₁ (mkF m 8 (own_AIIUUUU p0 v6) [(.int v6)]) t → own_S p e below s₁ (mkF m 6 (own_AIUUUUU p0) [(.int v6)]) t := by
    intro t k
    show own_S p e below s₁ (mkF m 6 (own_AIUUUUU p0) [(.int v6)]) _
    refine XS.istoreN X0.here hx rfl (hb hby at_6) rfl (l' := (own_AIIUUUU p0 v6)) rfl ?_
    show own_S p e below s₁ (mkF m 7 (own_AIIUUUU p0 v6) []) _
    refine XS.iloadN X0.here hx rfl (hb hby at_7) rfl ?_
    exact k
  refine own_by sg8 ?_
  by_cases hc8 : v6 = (0 : Int32)
  · have sg13 : ∀ t, own_S p e below s₁ (mkF m 13 (own_AIIUUUU p0 v6) [(.int (6 : Int32))]) t → own_S p e below s₁ (mkF m 8 (own_AIIUUUU p0 v6) [(.int v6)]) t := by
      intro t k
      show own_S p e below s₁ (mkF m 8 (own_AIIUUUU p0 v6) [(.int v6)]) _
      refine XS.ifNo X0.here hx rfl (hb hby at_8) rfl ((if0 _ _).trans (teq hc8).2) ?_
      show own_S p e below s₁ (mkF m 11 (own_AIIUUUU p0 v6) []) _
      refine XS.bipush X0.here hx rfl (hb hby at_11) ?_
      exact k
    refine own_by sg13 ?_
    obtain ⟨T13, h13, kc13, X13, e13, E13, A13, st13⟩ := newP X0 hx hZ (hw _ (List.mem_of_getElem? (i := 1) rfl)) e0 (g := (mkF m 13 (own_AIIUUUU p0 v6) [(.int (6 : Int32))])) rfl (hb hby at_13) rfl (by decide) (cap := 6) (by decide) (by decide) (by decide) (by decide)
    obtain ⟨b13, g13⟩ : ∃ z, z = h0.size := ⟨_, rfl⟩
    rw [← g13] at A13 st13
    have g_b13 : n0 ≤ b13 := Nat.le_trans Z0 (Nat.le_of_eq g13.symm)
    have sz_b13 : h0.size ≤ b13 := Nat.le_trans K0.1 (Nat.le_of_eq g13.symm)
    have K13 := K0.ext E13
    have Z13 : n0 ≤ h13.size := Nat.le_trans Z0 E13.1
    have V13 : Arv Z h13 b13 kc13 .char (6 : Int32) [(.int (0 : Int32)), (.int (0 : Int32)), (.int (0 : Int32)), (.int (0 : Int32)), (.int (0 : Int32)), (.int (0 : Int32))] (.int (0 : Int32)) := (Arv.new A13 (by decide)).pad (pad_rep [] (.int (0 : Int32)) 6)
    refine own_by st13 ?_
    have sg19 : ∀ t, own_S p e below T13 (mkF m 19 (own_AIIUUUU p0 v6) [(.int (115 : Int32)), (.int (0 : Int32)), (.ref b13), (.ref b13)]) t → own_S p e below T13 (mkF m 15 (own_AIIUUUU p0 v6) [(.ref b13)]) t := by
      intro t k
      show own_S p e below T13 (mkF m 15 (own_AIIUUUU p0 v6) [(.ref b13)]) _
      refine XS.dup X13.here hx rfl (hb hby at_15) rfl rfl ?_
      show own_S p e below T13 (mkF m 16 (own_AIIUUUU p0 v6) [(.ref b13), (.ref b13)]) _
      refine XS.iconst X13.here hx rfl (hb hby at_16) ?_
      show own_S p e below T13 (mkF m 17 (own_AIIUUUU p0 v6) [(.int (0 : Int32)), (.ref b13), (.ref b13)]) _
      refine XS.bipush X13.here hx rfl (hb hby at_17) ?_
      exact k
    refine own_by sg19 ?_
    obtain ⟨cl19, Ar19, qa19, Sa19, Na19, Ha19, Ga19⟩ := id V13
    obtain ⟨T19, h19, X19, e19, W19, st19⟩ := stC X13 hx hZ e13 Ar19 (j := (0 : Int32)) (inb_of Sa19 ⟨by decide, by decide⟩) (g := (mkF m 19 (own_AIIUUUU p0 v6) [(.int (115 : Int32)), (.int (0 : Int32)), (.ref b13), (.ref b13)])) rfl rfl (hb hby at_19)
    have V19 : Arv Z h19 b13 kc13 .char (6 : Int32) [(.int (115 : Int32)), (.int (0 : Int32)), (.int (0 : Int32)), (.int (0 : Int32)), (.int (0 : Int32)), (.int (0 : Int32))] (.int (0 : Int32)) := by
      have q := Arv.set Ar19 qa19 Sa19 Na19 Ha19 Ga19 (fits_nar_char _) W19 0 rfl (Nat.le_of_ble_eq_true rfl)
      exact q
    have K19 : Keep h0 h19 [] := K13.wr W19 (Or.inr sz_b13)
    have Z19 : n0 ≤ h19.size := Nat.le_trans Z13 (Keep.of_wr W19).1
    have N19 := Fr.snoc X19 N0 g_b13
    refine own_by st19 ?_
    have sg24 : ∀ t, own_S p e below T19 (mkF m 24 (own_AIIUUUU p0 v6) [(.int (116 : Int32)), (.int (1 : Int32)), (.ref b13), (.ref b13)]) t → own_S p e below T19 (mkF m 20 (own_AIIUUUU p0 v6) [(.ref b13)]) t := by
      intro t k
      show own_S p e below T19 (mkF m 20 (own_AIIUUUU p0 v6) [(.ref b13)]) _
      refine XS.dup X19.here hx rfl (hb hby at_20) rfl rfl ?_
      show own_S p e below T19 (mkF m 21 (own_AIIUUUU p0 v6) [(.ref b13), (.ref b13)]) _
      refine XS.iconst X19.here hx rfl (hb hby at_21) ?_
      show own_S p e below T19 (mkF m 22 (own_AIIUUUU p0 v6) [(.int (1 : Int32)), (.ref b13), (.ref b13)]) _
      refine XS.bipush X19.here hx rfl (hb hby at_22) ?_
      exact k
    refine own_by sg24 ?_
    obtain ⟨cl24, Ar24, qa24, Sa24, Na24, Ha24, Ga24⟩ := id V19
    obtain ⟨T24, h24, X24, e24, W24, st24⟩ := stC X19 hx hZ e19 Ar24 (j := (1 : Int32)) (inb_of Sa24 ⟨by decide, by decide⟩) (g := (mkF m 24 (own_AIIUUUU p0 v6) [(.int (116 : Int32)), (.int (1 : Int32)), (.ref b13), (.ref b13)])) rfl rfl (hb hby at_24)
    have V24 : Arv Z h24 b13 kc13 .char (6 : Int32) [(.int (115 : Int32)), (.int (116 : Int32)), (.int (0 : Int32)), (.int (0 : Int32)), (.int (0 : Int32)), (.int (0 : Int32))] (.int (0 : Int32)) := by
      have q := Arv.set Ar24 qa24 Sa24 Na24 Ha24 Ga24 (fits_nar_char _) W24 1 rfl (Nat.le_of_ble_eq_true rfl)
      exact q
    have K24 : Keep h0 h24 [] := K19.wr W24 (Or.inr sz_b13)
    have Z24 : n0 ≤ h24.size := Nat.le_trans Z19 (Keep.of_wr W24).1
    have N24 := Fr.snoc X24 N19 g_b13
    refine own_by st24 ?_
    have sg29 : ∀ t, own_S p e below T24 (mkF m 29 (own_AIIUUUU p0 v6) [(.int (97 : Int32)), (.int (2 : Int32)), (.ref b13), (.ref b13)]) t → own_S p e below T24 (mkF m 25 (own_AIIUUUU p0 v6) [(.ref b13)]) t := by
      intro t k
      show own_S p e below T24 (mkF m 25 (own_AIIUUUU p0 v6) [(.ref b13)]) _
      refine XS.dup X24.here hx rfl (hb hby at_25) rfl rfl ?_
      show own_S p e below T24 (mkF m 26 (own_AIIUUUU p0 v6) [(.ref b13), (.ref b13)]) _
      refine XS.iconst X24.here hx rfl (hb hby at_26) ?_
      show own_S p e below T24 (mkF m 27 (own_AIIUUUU p0 v6) [(.int (2 : Int32)), (.ref b13), (.ref b13)]) _
      refine XS.bipush X24.here hx rfl (hb hby at_27) ?_
      exact k
    refine own_by sg29 ?_
    obtain ⟨cl29, Ar29, qa29, Sa29, Na29, Ha29, Ga29⟩ := id V24
    obtain ⟨T29, h29, X29, e29, W29, st29⟩ := stC X24 hx hZ e24 Ar29 (j := (2 : Int32)) (inb_of Sa29 ⟨by decide, by decide⟩) (g := (mkF m 29 (own_AIIUUUU p0 v6) [(.int (97 : Int32)), (.int (2 : Int32)), (.ref b13), (.ref b13)])) rfl rfl (hb hby at_29)
    have V29 : Arv Z h29 b13 kc13 .char (6 : Int32) [(.int (115 : Int32)), (.int (116 : Int32)), (.int (97 : Int32)), (.int (0 : Int32)), (.int (0 : Int32)), (.int (0 : Int32))] (.int (0 : Int32)) := by
      have q := Arv.set Ar29 qa29 Sa29 Na29 Ha29 Ga29 (fits_nar_char _) W29 2 rfl (Nat.le_of_ble_eq_true rfl)
      exact q
    have K29 : Keep h0 h29 [] := K24.wr W29 (Or.inr sz_b13)
    have Z29 : n0 ≤ h29.size := Nat.le_trans Z24 (Keep.of_wr W29).1
    have N29 := Fr.snoc X29 N24 g_b13
    refine own_by st29 ?_
    have sg34 : ∀ t, own_S p e below T29 (mkF m 34 (own_AIIUUUU p0 v6) [(.int (116 : Int32)), (.int (3 : Int32)), (.ref b13), (.ref b13)]) t → own_S p e below T29 (mkF m 30 (own_AIIUUUU p0 v6) [(.ref b13)]) t := by
      intro t k
      show own_S p e below T29 (mkF m 30 (own_AIIUUUU p0 v6) [(.ref b13)]) _
      refine XS.dup X29.here hx rfl (hb hby at_30) rfl rfl ?_
      show own_S p e below T29 (mkF m 31 (own_AIIUUUU p0 v6) [(.ref b13), (.ref b13)]) _
      refine XS.iconst X29.here hx rfl (hb hby at_31) ?_
      show own_S p e below T29 (mkF m 32 (own_AIIUUUU p0 v6) [(.int (3 : Int32)), (.ref b13), (.ref b13)]) _
      refine XS.bipush X29.here hx rfl (hb hby at_32) ?_
      exact k
    refine own_by sg34 ?_
    obtain ⟨cl34, Ar34, qa34, Sa34, Na34, Ha34, Ga34⟩ := id V29
    obtain ⟨T34, h34, X34, e34, W34, st34⟩ := stC X29 hx hZ e29 Ar34 (j := (3 : Int32)) (inb_of Sa34 ⟨by decide, by decide⟩) (g := (mkF m 34 (own_AIIUUUU p0 v6) [(.int (116 : Int32)), (.int (3 : Int32)), (.ref b13), (.ref b13)])) rfl rfl (hb hby at_34)
    have V34 : Arv Z h34 b13 kc13 .char (6 : Int32) [(.int (115 : Int32)), (.int (116 : Int32)), (.int (97 : Int32)), (.int (116 : Int32)), (.int (0 : Int32)), (.int (0 : Int32))] (.int (0 : Int32)) := by
      have q := Arv.set Ar34 qa34 Sa34 Na34 Ha34 Ga34 (fits_nar_char _) W34 3 rfl (Nat.le_of_ble_eq_true rfl)
      exact q
    have K34 : Keep h0 h34 [] := K29.wr W34 (Or.inr sz_b13)
    have Z34 : n0 ≤ h34.size := Nat.le_trans Z29 (Keep.of_wr W34).1
    have N34 := Fr.snoc X34 N29 g_b13
    refine own_by st34 ?_
    have sg39 : ∀ t, own_S p e below T34 (mkF m 39 (own_AIIUUUU p0 v6) [(.int (105 : Int32)), (.int (4 : Int32)), (.ref b13), (.ref b13)]) t → own_S p e below T34 (mkF m 35 (own_AIIUUUU p0 v6) [(.ref b13)]) t := by
      intro t k
      show own_S p e below T34 (mkF m 35 (own_AIIUUUU p0 v6) [(.ref b13)]) _
      refine XS.dup X34.here hx rfl (hb hby at_35) rfl rfl ?_
      show own_S p e below T34 (mkF m 36 (own_AIIUUUU p0 v6) [(.ref b13), (.ref b13)]) _
      refine XS.iconst X34.here hx rfl (hb hby at_36) ?_
      show own_S p e below T34 (mkF m 37 (own_AIIUUUU p0 v6) [(.int (4 : Int32)), (.ref b13), (.ref b13)]) _
      refine XS.bipush X34.here hx rfl (hb hby at_37) ?_
      exact k
    refine own_by sg39 ?_
    obtain ⟨cl39, Ar39, qa39, Sa39, Na39, Ha39, Ga39⟩ := id V34
    obtain ⟨T39, h39, X39, e39, W39, st39⟩ := stC X34 hx hZ e34 Ar39 (j := (4 : Int32)) (inb_of Sa39 ⟨by decide, by decide⟩) (g := (mkF m 39 (own_AIIUUUU p0 v6) [(.int (105 : Int32)), (.int (4 : Int32)), (.ref b13), (.ref b13)])) rfl rfl (hb hby at_39)
    have V39 : Arv Z h39 b13 kc13 .char (6 : Int32) [(.int (115 : Int32)), (.int (116 : Int32)), (.int (97 : Int32)), (.int (116 : Int32)), (.int (105 : Int32)), (.int (0 : Int32))] (.int (0 : Int32)) := by
      have q := Arv.set Ar39 qa39 Sa39 Na39 Ha39 Ga39 (fits_nar_char _) W39 4 rfl (Nat.le_of_ble_eq_true rfl)
      exact q
    have K39 : Keep h0 h39 [] := K34.wr W39 (Or.inr sz_b13)
    have Z39 : n0 ≤ h39.size := Nat.le_trans Z34 (Keep.of_wr W39).1
    have N39 := Fr.snoc X39 N34 g_b13
    refine own_by st39 ?_
    have sg44 : ∀ t, own_S p e below T39 (mkF m 44 (own_AIIUUUU p0 v6) [(.int (99 : Int32)), (.int (5 : Int32)), (.ref b13), (.ref b13)]) t → own_S p e below T39 (mkF m 40 (own_AIIUUUU p0 v6) [(.ref b13)]) t := by
      intro t k
      show own_S p e below T39 (mkF m 40 (own_AIIUUUU p0 v6) [(.ref b13)]) _
      refine XS.dup X39.here hx rfl (hb hby at_40) rfl rfl ?_
      show own_S p e below T39 (mkF m 41 (own_AIIUUUU p0 v6) [(.ref b13), (.ref b13)]) _
      refine XS.iconst X39.here hx rfl (hb hby at_41) ?_
      show own_S p e below T39 (mkF m 42 (own_AIIUUUU p0 v6) [(.int (5 : Int32)), (.ref b13), (.ref b13)]) _
      refine XS.bipush X39.here hx rfl (hb hby at_42) ?_
      exact k
    refine own_by sg44 ?_
    obtain ⟨cl44, Ar44, qa44, Sa44, Na44, Ha44, Ga44⟩ := id V39
    obtain ⟨T44, h44, X44, e44, W44, st44⟩ := stC X39 hx hZ e39 Ar44 (j := (5 : Int32)) (inb_of Sa44 ⟨by decide, by decide⟩) (g := (mkF m 44 (own_AIIUUUU p0 v6) [(.int (99 : Int32)), (.int (5 : Int32)), (.ref b13), (.ref b13)])) rfl rfl (hb hby at_44)
    have V44 : Arv Z h44 b13 kc13 .char (6 : Int32) [(.int (115 : Int32)), (.int (116 : Int32)), (.int (97 : Int32)), (.int (116 : Int32)), (.int (105 : Int32)), (.int (99 : Int32))] (.int (0 : Int32)) := by
      have q := Arv.set Ar44 qa44 Sa44 Na44 Ha44 Ga44 (fits_nar_char _) W44 5 rfl (Nat.le_of_ble_eq_true rfl)
      exact q
    have K44 : Keep h0 h44 [] := K39.wr W44 (Or.inr sz_b13)
    have Z44 : n0 ≤ h44.size := Nat.le_trans Z39 (Keep.of_wr W44).1
    have N44 := Fr.snoc X44 N39 g_b13
    refine own_by st44 ?_
    have sg46 : ∀ t, own_S p e below T44 (mkF m 46 (own_AIIRUUU p0 v6 b13) []) t → own_S p e below T44 (mkF m 45 (own_AIIUUUU p0 v6) [(.ref b13)]) t := by
      intro t k
      show own_S p e below T44 (mkF m 45 (own_AIIUUUU p0 v6) [(.ref b13)]) _
      refine XS.astoreN X44.here hx rfl (hb hby at_45) rfl rfl (l' := (own_AIIRUUU p0 v6 b13)) rfl ?_
      exact k
    refine own_by sg46 ?_
    obtain ⟨T46, X46, e46, st46⟩ := getS2 X44 hx hZ hown (host := "") (Or.inl (hw _ (List.mem_of_getElem? (i := 2) rfl))) Via.refl e44 (S_STATIC.ext (((((((O.ext E13).wr W19 g_b13).wr W24 g_b13).wr W29 g_b13).wr W34 g_b13).wr W39 g_b13).wr W44 g_b13).2) (g := (mkF m 46 (own_AIIRUUU p0 v6 b13) [])) rfl (hb hby at_46)
    refine own_by st46 ?_
    have sg139 : ∀ t, own_S p e below T46 (mkF m 139 (own_AIIRRUU p0 v6 b13 wSTATIC) []) t → own_S p e below T46 (mkF m 49 (own_AIIRUUU p0 v6 b13) [(.ref wSTATIC)]) t := by
      intro t k
      show own_S p e below T46 (mkF m 49 (own_AIIRUUU p0 v6 b13) [(.ref wSTATIC)]) _
      refine XS.astoreN X46.here hx rfl (hb hby at_49) rfl rfl (l' := (own_AIIRRUU p0 v6 b13 wSTATIC)) rfl ?_
      show own_S p e below T46 (mkF m 50 (own_AIIRRUU p0 v6 b13 wSTATIC) []) _
      refine XS.goto X46.here hx rfl (pc0 := 50) (pc' := 139) rfl (hb hby at_50) (by decide) (by decide) ?_
      exact k
    refine own_by sg139 ?_
    obtain ⟨T139, h139, X139, e139, E139, A139, D139, -, st139⟩ := newO X46 hx hZ hown (hw _ (List.mem_of_getElem? (i := 5) rfl)) (hw _ (List.mem_of_getElem? (i := 6) rfl)) (hw _ (List.mem_of_getElem? (i := 7) rfl)) e46 (g := (mkF m 139 (own_AIIRRUU p0 v6 b13 wSTATIC) [])) rfl (hb hby at_139) (by decide) (by decide)
    obtain ⟨b139, g139⟩ : ∃ z, z = h44.size := ⟨_, rfl⟩
    rw [← g139] at A139 D139 st139
    have ne_b13_b139 : b13 ≠ b139 := Nat.ne_of_lt (Nat.lt_of_lt_of_le V44.lt (Nat.le_of_eq g139.symm))
    have g_b139 : n0 ≤ b139 := Nat.le_trans Z44 (Nat.le_of_eq g139.symm)
    have sz_b139 : h0.size ≤ b139 := Nat.le_trans K44.1 (Nat.le_of_eq g139.symm)
    have K139 := K44.ext E139
    have Z139 : n0 ≤ h139.size := Nat.le_trans Z44 E139.1
    have F_coder_b139 : Fld Z h139 b139 "java/lang/String" "coder" "B" (.int (0 : Int32)) := D139 (Or.inr (hw _ (List.mem_of_getElem? (i := 31) rfl))) (ty := .byte) (by decide)
    have F_value_b139 : Fld Z h139 b139 "java/lang/String" "value" "[B" .null := D139 (Or.inr (hw _ (List.mem_of_getElem? (i := 33) rfl))) (ty := (.array .byte)) (by decide)
    refine own_by st139 ?_
    have sg144 : ∀ t, own_S p e below T139 (mkF m 144 (own_AIIRRUU p0 v6 b13 wSTATIC) [(.ref b13), (.ref b139), (.ref b139)]) t → own_S p e below T139 (mkF m 142 (own_AIIRRUU p0 v6 b13 wSTATIC) [(.ref b139)]) t := by
      intro t k
      show own_S p e below T139 (mkF m 142 (own_AIIRRUU p0 v6 b13 wSTATIC) [(.ref b139)]) _
      refine XS.dup X139.here hx rfl (hb hby at_142) rfl rfl ?_
      show own_S p e below T139 (mkF m 143 (own_AIIRRUU p0 v6 b13 wSTATIC) [(.ref b139), (.ref b139)]) _
      refine XS.aloadN X139.here hx rfl (hb hby at_143) rfl rfl ?_
      exact k
    refine own_by sg144 ?_
    have hp144 : ∀ c ∈ ([(115 : Int32), (116 : Int32), (97 : Int32), (116 : Int32), (105 : Int32), (99 : Int32)] : List Int32), ¬ c < 0 ∧ ¬ (255 : Int32) < c := by
      intro c hc
      simp only [List.mem_cons, List.not_mem_nil, or_false] at hc
      rcases hc with rfl | rfl | rfl | rfl | rfl | rfl
      · exact (by decide)
      · exact (by decide)
      · exact (by decide)
      · exact (by decide)
      · exact (by decide)
      · exact (by decide)
    obtain ⟨_, _, ⟨T144, L144, k144, n144⟩, -, X144, ⟨Lc144, hQ144, l144, y144, z144⟩, st144⟩ := X139.specialBack hx (y := (⟨"java/lang/String", "<init>", "([C)V"⟩ : MethodName)) rfl hown (mvT hZ (hw _ (List.mem_of_getElem? (i := 8) rfl))) (mvT hZ (hw _ (List.mem_of_getElem? (i := 9) rfl))) (mvT hZ (hw _ (List.mem_of_getElem? (i := 10) rfl))) (by decide) (StrChars.Road.backV (W := 1) hZ hws (kI := 4) (hw _ (List.mem_of_getElem? (i := 6) rfl)) (cs := ([(115 : Int32), (116 : Int32), (97 : Int32), (116 : Int32), (105 : Int32), (99 : Int32)] : List Int32)) (bs := ([(115 : Int32), (116 : Int32), (97 : Int32), (116 : Int32), (105 : Int32), (99 : Int32)] : List Int32).map (fun c => c.toInt8.toInt32)) (n := 6) g_b139 Z139 A139 F_value_b139 F_coder_b139 (V44.ext E139) (O2.ext ((((((((O.ext E13).wr W19 g_b13).wr W24 g_b13).wr W29 g_b13).wr W34 g_b13).wr W39 g_b13).wr W44 g_b13).ext E139).2) P5 rfl rfl (by decide) (by decide) hp144 rfl (by decide) (by decide)) (g := (mkF m 144 (own_AIIRRUU p0 v6 b13 wSTATIC) [(.ref b13), (.ref b139), (.ref b139)])) rfl (by rw [hml]; rfl) (Steps.refl _) (a := b139) (argsL := [(.ref b13)]) (rest := [(.ref b139)]) (lenOf pd_0_0 rfl) rfl (by show 2 * 0 + _ ≤ _; exact Nat.le_of_eq rfl) (hb hby at_144) (fun _ _ => ⟨rfl, e139, (by decide : 2 + 1 ≤ _), (by decide : 10 + 6 ≤ _)⟩)
    dsimp only [Pt.U, Pt.locs, Pt.cells, Pt.slots] at X144 l144 y144 z144 st144 hQ144
    subst l144 y144 z144
    obtain ⟨rfl, N144q, Kq144, Eq144, Cq144, t144, kb144, u1144, u2144, u3144, Vq144, Aq144⟩ := hQ144
    have N144 := Fr.app N44 N144q
    have ne_b13_t144 : b13 ≠ t144 := Nat.ne_of_lt (Nat.lt_of_lt_of_le (V44.ext E139).lt u2144)
    have ne_b139_t144 : b139 ≠ t144 := Nat.ne_of_lt (Nat.lt_of_lt_of_le A139.lt u2144)
    have g_t144 : n0 ≤ t144 := Nat.le_trans Z139 u2144
    have sz_t144 : h0.size ≤ t144 := Nat.le_trans K139.1 u2144
    have fc := ((V44.ext E139).keep Kq144 (fun h => ne_b13_b139 (List.mem_singleton.mp h)))
    have K144 : Keep h0 T144.heap [] := K139.trans Kq144 (fun x hx => by cases List.mem_singleton.mp hx; exact Or.inr sz_b139)
    have Z144 : n0 ≤ T144.heap.size := Nat.le_trans Z139 Kq144.1
    refine own_by (fun t k => st144.trans k) ?_
    have sg151 : ∀ t, own_S p e below T144 (mkF m 151 (own_AIIRRRU p0 v6 b13 wSTATIC b139) [(.ref b139)]) t → own_S p e below T144 (mkF m 147 (own_AIIRRUU p0 v6 b13 wSTATIC) [(.ref b139)]) t := by
      intro t k
      show own_S p e below T144 (mkF m 147 (own_AIIRRUU p0 v6 b13 wSTATIC) [(.ref b139)]) _
      refine XS.astore X144.here hx rfl (hb hby at_147) rfl rfl (l' := (own_AIIRRRU p0 v6 b13 wSTATIC b139)) rfl ?_
      show own_S p e below T144 (mkF m 149 (own_AIIRRRU p0 v6 b13 wSTATIC b139) []) _
      refine XS.aload X144.here hx rfl (hb hby at_149) rfl rfl ?_
      exact k
    refine own_by sg151 ?_
    obtain ⟨_, _, ⟨T151, L151, k151, n151⟩, -, X151, ⟨Lc151, hQ151, l151, y151, z151⟩, st151⟩ := Jvm.LawKit.callS X144 hx (y := (⟨"com/example/writd/writd/model/ClientSource", "parse", "(Ljava/lang/String;)Lcom/example/writd/writd/model/ClientSource;"⟩ : MethodName)) hown (mvT hZ (hw _ (List.mem_of_getElem? (i := 34) rfl))) (mvT hZ (hw _ (List.mem_of_getElem? (i := 35) rfl))) (mvT hZ (hw _ (List.mem_of_getElem? (i := 3) rfl))) (mvT hZ (hw _ (List.mem_of_getElem? (i := 36) rfl))) (by decide) (backOf (W := 0) (rm7 l Z a0 hw [] b139 ([(115 : Int32), (116 : Int32), (97 : Int32), (116 : Int32), (105 : Int32), (99 : Int32)] : List Int32) wV cl wSTATIC wADMIN wDYNAMIC sSTATIC sADMIN sDYNAMIC gz T144.heap n0 Z144 (((((((((O.ext E13).wr W19 g_b13).wr W24 g_b13).wr W29 g_b13).wr W34 g_b13).wr W39 g_b13).wr W44 g_b13).ext E139).keep Kq144 (allS g_b139 all0)) O2 P5 S_V Ar_V E_V FC hsz hat0 hat1 hat2 FV_STATIC FV_ADMIN FV_DYNAMIC EX_STATIC EX_ADMIN EX_DYNAMIC Str_STATIC Str_ADMIN Str_DYNAMIC (⟨t144, kb144, 0, (6 : Int32), _, Eq144, Vq144, Cq144, Aq144, StrChars.Road.codOf (n := 6) rfl (fun x hx => (hp144 x hx).2), own_up _ hp144, Nat.le_of_ble_eq_true rfl⟩ : own_Str Z T144.heap b139 ([(115 : Int32), (116 : Int32), (97 : Int32), (116 : Int32), (105 : Int32), (99 : Int32)] : List Int32)) (Or.inl rfl)) hZ (hw _ (List.mem_of_getElem? (i := 36) rfl)) (hw _ (List.mem_of_getElem? (i := 3) rfl)) (by decide) (by decide)) (g := (mkF m 151 (own_AIIRRRU p0 v6 b13 wSTATIC b139) [(.ref b139)])) rfl (by rw [hml]; rfl) (argsL := [(.ref b139)]) (rest := []) (lenOf pd_0_1 rfl) rfl (by show 2 * 0 + _ ≤ _; exact Nat.le_of_eq rfl) (hb hby at_151) (fun _ _ => ⟨rfl, rfl, (by decide : 3 + 1 ≤ _), (by decide : 16 + 3 ≤ _)⟩)
    dsimp only [Pt.U, Pt.locs, Pt.cells, Pt.slots] at X151 l151 y151 z151 st151 hQ151
    subst l151 y151 z151
    obtain ⟨rfl, N151q, Kq151⟩ := hQ151
    have N151 := Fr.app N144 N151q
    have K151 : Keep h0 T151.heap [] := K144.trans Kq151 (fun x hx => nomatch hx)
    have Z151 : n0 ≤ T151.heap.size := Nat.le_trans Z144 Kq151.1
    rw [if_pos rfl] at st151
    refine own_by st151 ?_
    have sg164 : ∀ t, own_S p e below T151 (mkF m 164 (own_AIIRRRR p0 v6 b13 wSTATIC b139 wSTATIC) [(.ref wSTATIC)]) t → own_S p e below T151 (mkF m 154 (own_AIIRRRU p0 v6 b13 wSTATIC b139) [(.ref wSTATIC)]) t := by
      intro t k
      show own_S p e below T151 (mkF m 154 (own_AIIRRRU p0 v6 b13 wSTATIC b139) [(.ref wSTATIC)]) _
      refine XS.astore X151.here hx rfl (hb hby at_154) rfl rfl (l' := (own_AIIRRRR p0 v6 b13 wSTATIC b139 wSTATIC)) rfl ?_
      show own_S p e below T151 (mkF m 156 (own_AIIRRRR p0 v6 b13 wSTATIC b139 wSTATIC) []) _
      refine XS.aload X151.here hx rfl (hb hby at_156) rfl rfl ?_
      show own_S p e below T151 (mkF m 158 (own_AIIRRRR p0 v6 b13 wSTATIC b139 wSTATIC) [(.ref wSTATIC)]) _
      refine XS.aloadN X151.here hx rfl (hb hby at_158) rfl rfl ?_
      show own_S p e below T151 (mkF m 159 (own_AIIRRRR p0 v6 b13 wSTATIC b139 wSTATIC) [(.ref wSTATIC), (.ref wSTATIC)]) _
      refine Jvm.RoadKit.acmp (g := (mkF m 159 (own_AIIRRRR p0 v6 b13 wSTATIC b139 wSTATIC) [(.ref wSTATIC), (.ref wSTATIC)])) X151 hx rfl rfl rfl (pc0 := 159) (pc' := 162) (same := true) rfl (hb hby at_159) rfl (decide_eq_true (congrArg Value.ref (rfl : wSTATIC = wSTATIC))) (by decide) (by decide) ?_
      show own_S p e below T151 (mkF m 162 (own_AIIRRRR p0 v6 b13 wSTATIC b139 wSTATIC) []) _
      refine XS.aload X151.here hx rfl (hb hby at_162) rfl rfl ?_
      exact k
    refine own_by sg164 ?_
    obtain ⟨cq164, kq164, q164a, q164b, q164c⟩ := isOf hZ rfl (E_STATIC.ext ((((((((((O.ext E13).wr W19 g_b13).wr W24 g_b13).wr W29 g_b13).wr W34 g_b13).wr W39 g_b13).wr W44 g_b13).ext E139).keep Kq144 (allS g_b139 all0)).keep Kq151 all0).2)
    obtain ⟨_, _, ⟨T164, L164, k164, n164⟩, -, X164, ⟨Lc164, hQ164, l164, y164, z164⟩, st164⟩ := X151.virtualBack hx (y := (⟨"com/example/writd/writd/model/ClientSource", "value", "()Ljava/lang/String;"⟩ : MethodName)) (z := (⟨"com/example/writd/writd/model/ClientSource", "value", "()Ljava/lang/String;"⟩ : MethodName)) hown (mvT hZ (hw _ (List.mem_of_getElem? (i := 66) rfl))) (mvT hZ (hw _ (List.mem_of_getElem? (i := 67) rfl))) (notFace_of_selects (args := #[]) (mvT hZ (hw _ (List.mem_of_getElem? (i := 69) rfl)))) (mvT hZ (hw _ (List.mem_of_getElem? (i := 69) rfl))) (mvT hZ (hw _ (List.mem_of_getElem? (i := 68) rfl))) (by decide) (backOf (W := 0) (rm11 l Z a0 hw [] wSTATIC sSTATIC T151.heap n0 Z151 (FV_STATIC.ext ((((((((((O.ext E13).wr W19 g_b13).wr W24 g_b13).wr W29 g_b13).wr W34 g_b13).wr W39 g_b13).wr W44 g_b13).ext E139).keep Kq144 (allS g_b139 all0)).keep Kq151 all0).2)) hZ (hw _ (List.mem_of_getElem? (i := 70) rfl)) (hw _ (List.mem_of_getElem? (i := 3) rfl)) (by decide) (by decide)) q164a q164c (g := (mkF m 164 (own_AIIRRRR p0 v6 b13 wSTATIC b139 wSTATIC) [(.ref wSTATIC)])) rfl (by rw [hml]; rfl) (Steps.refl _) (argsL := []) (rest := []) (lenOf pd_0_2 rfl) rfl (by show 2 * 0 + _ ≤ _; exact Nat.le_of_eq rfl) (hb hby at_164) (fun _ _ => ⟨rfl, rfl, (by decide : 4 + 0 ≤ _), (by decide : 19 + 0 ≤ _)⟩)
    dsimp only [Pt.U, Pt.locs, Pt.cells, Pt.slots] at X164 l164 y164 z164 st164 hQ164
    subst l164 y164 z164
    obtain ⟨rfl, N164q, hq164⟩ := hQ164
    have N164 := Fr.app N151 N164q
    refine own_by (fun t k => st164.trans k) ?_
    have sg169 : ∀ t, own_S p e below T164 (mkF m 169 (own_AIIRRRR p0 v6 b13 wSTATIC b139 wSTATIC) [(.ref b139), (.ref sSTATIC)]) t → own_S p e below T164 (mkF m 167 (own_AIIRRRR p0 v6 b13 wSTATIC b139 wSTATIC) [(.ref sSTATIC)]) t := by
      intro t k
      show own_S p e below T164 (mkF m 167 (own_AIIRRRR p0 v6 b13 wSTATIC b139 wSTATIC) [(.ref sSTATIC)]) _
      refine XS.aload X164.here hx rfl (hb hby at_167) rfl rfl ?_
      exact k
    refine own_by sg169 ?_
    obtain ⟨tx169, kx169, dx169, nx169, vx169, xe169, xv169, xc169, xk169, xh169, xb169, xl169⟩ := id (Str_STATIC.ext ((((((((((O.ext E13).wr W19 g_b13).wr W24 g_b13).wr W29 g_b13).wr W34 g_b13).wr W39 g_b13).wr W44 g_b13).ext E139).keep Kq144 (allS g_b139 all0)).keep Kq151 all0).2)
    obtain ⟨ty169, ky169, dy169, ny169, vy169, ye169, yv169, yc169, yk169, yh169, yb169, yl169⟩ := id (⟨t144, kb144, 0, (6 : Int32), _, (Eq144.keep Kq151), (Vq144.keep Kq151 List.not_mem_nil), (Cq144.keep Kq151 List.not_mem_nil), (Aq144.keep Kq151 List.not_mem_nil), StrChars.Road.codOf (n := 6) rfl (fun x hx => (hp144 x hx).2), own_up _ hp144, Nat.le_of_ble_eq_true rfl⟩ : own_Str Z T151.heap b139 ([(115 : Int32), (116 : Int32), (97 : Int32), (116 : Int32), (105 : Int32), (99 : Int32)] : List Int32))
    obtain ⟨cq169, kq169, q169a, q169b, q169c⟩ := isOf hZ hq164 (EX_STATIC.ext ((((((((((O.ext E13).wr W19 g_b13).wr W24 g_b13).wr W29 g_b13).wr W34 g_b13).wr W39 g_b13).wr W44 g_b13).ext E139).keep Kq144 (allS g_b139 all0)).keep Kq151 all0).2)
    obtain ⟨_, _, ⟨T169, L169, k169, n169⟩, -, X169, ⟨Lc169, hQ169, l169, y169, z169⟩, st169⟩ := X164.virtualBack hx (y := (⟨"java/lang/String", "equals", "(Ljava/lang/Object;)Z"⟩ : MethodName)) (z := (⟨"java/lang/String", "equals", "(Ljava/lang/Object;)Z"⟩ : MethodName)) hown (mvT hZ (hw _ (List.mem_of_getElem? (i := 71) rfl))) (mvT hZ (hw _ (List.mem_of_getElem? (i := 57) rfl))) (notFace_of_selects (args := #[]) (mvT hZ (hw _ (List.mem_of_getElem? (i := 59) rfl)))) (mvT hZ (hw _ (List.mem_of_getElem? (i := 59) rfl))) (mvT hZ (hw _ (List.mem_of_getElem? (i := 58) rfl))) (by decide) (StrChars.Road.eqW (W := 0) hZ heq (kI := 4) (hw _ (List.mem_of_getElem? (i := 6) rfl)) xe169 xv169 xc169 xk169 xh169 xb169 xl169 ye169 yv169 yc169 yk169 yh169 yb169 yl169 (O2.ext ((((((((((O.ext E13).wr W19 g_b13).wr W24 g_b13).wr W29 g_b13).wr W34 g_b13).wr W39 g_b13).wr W44 g_b13).ext E139).keep Kq144 (allS g_b139 all0)).keep Kq151 all0).2) P5 (by decide) (by decide)) q169a q169c (g := (mkF m 169 (own_AIIRRRR p0 v6 b13 wSTATIC b139 wSTATIC) [(.ref b139), (.ref sSTATIC)])) rfl (by rw [hml]; rfl) (Steps.refl _) (argsL := [(.ref b139)]) (rest := []) (lenOf pd_0_3 rfl) rfl (by show 2 * 0 + _ ≤ _; exact Nat.le_of_eq rfl) (hb hby at_169) (fun _ _ => ⟨rfl, hq164, (by decide : 4 + 0 ≤ _), (by decide : 19 + 0 ≤ _)⟩)
    dsimp only [Pt.U, Pt.locs, Pt.cells, Pt.slots] at X169 l169 y169 z169 st169 hQ169
    subst l169 y169 z169
    obtain ⟨hv169, rfl, hq169⟩ := hQ169
    obtain rfl := own_eqv hv169
    have N169 := Fr.app N164 (Fr.nil n0)
    obtain ⟨c169, hc169⟩ : ∃ z : Int32, z = (if ([(115 : Int32), (116 : Int32), (97 : Int32), (116 : Int32), (105 : Int32), (99 : Int32)] : List Int32) = ([(115 : Int32), (116 : Int32), (97 : Int32), (116 : Int32), (105 : Int32), (99 : Int32)] : List Int32) then (1 : Int32) else (0 : Int32)) := ⟨_, rfl⟩
    rw [← hc169] at st169
    refine own_by (fun t k => st169.trans k) ?_
    have sg180 : ∀ t, own_S p e below T169 (mkF m 180 (own_AIIRRRR p0 v6 b13 wSTATIC b139 wSTATIC) [(.int (1 : Int32))]) t → own_S p e below T169 (mkF m 172 (own_AIIRRRR p0 v6 b13 wSTATIC b139 wSTATIC) [(.int c169)]) t := by
      intro t k
      show own_S p e below T169 (mkF m 172 (own_AIIRRRR p0 v6 b13 wSTATIC b139 wSTATIC) [(.int c169)]) _
      refine XS.ifNo X169.here hx rfl (hb hby at_172) rfl ((if0 _ _).trans (feq (by rw [hc169]; decide : ¬ (c169 = (0 : Int32)))).1) ?_
      show own_S p e below T169 (mkF m 175 (own_AIIRRRR p0 v6 b13 wSTATIC b139 wSTATIC) []) _
      refine XS.iconst X169.here hx rfl (hb hby at_175) ?_
      show own_S p e below T169 (mkF m 176 (own_AIIRRRR p0 v6 b13 wSTATIC b139 wSTATIC) [(.int (1 : Int32))]) _
      refine XS.goto X169.here hx rfl (pc0 := 176) (pc' := 180) rfl (hb hby at_176) (by decide) (by decide) ?_
      exact k
    refine own_by sg180 ?_
    obtain ⟨fs, hr, hrun, hended, hW, hsame⟩ := X169.leave (v := some (.int (1 : Int32))) (fun h => by rw [Bd.returns] at h; cases h)
    refine ⟨_, _, ?_, hrun, hended, _, _, rfl, ?_, ⟨_, rfl⟩, hW, hsame.mono (by decide) (by decide)⟩
    · exact retN X169 hx (t := .boolean) Bd.returns (by simp) (hb hby at_180) hr
    · show Q0 Z p0 wV cl wSTATIC wADMIN wDYNAMIC sSTATIC sADMIN sDYNAMIC gz h0 n0 _ T169.heap _
      rw [hq169]
      exact ⟨rfl, N169⟩
  · have sg55 : ∀ t, own_S p e below s₁ (mkF m 55 (own_AIIUUUU p0 v6) [(.int (1 : Int32)), (.int v6)]) t → own_S p e below s₁ (mkF m 8 (own_AIIUUUU p0 v6) [(.int v6)]) t := by
      intro t k
      show own_S p e below s₁ (mkF m 8 (own_AIIUUUU p0 v6) [(.int v6)]) _
      refine XS.ifYes X0.here hx rfl (pc0 := 8) (pc' := 53) rfl (hb hby at_8) rfl ((if0 _ _).trans (feq hc8).2) (by decide) (by decide) ?_
      show own_S p e below s₁ (mkF m 53 (own_AIIUUUU p0 v6) []) _
      refine XS.iloadN X0.here hx rfl (hb hby at_53) rfl ?_
      show own_S p e below s₁ (mkF m 54 (own_AIIUUUU p0 v6) [(.int v6)]) _
      refine XS.iconst X0.here hx rfl (hb hby at_54) ?_
      exact k
    refine own_by sg55 ?_
    by_cases hc55 : v6 = (1 : Int32)
    · have sg59 : ∀ t, own_S p e below s₁ (mkF m 59 (own_AIIUUUU p0 v6) [(.int (5 : Int32))]) t → own_S p e below s₁ (mkF m 55 (own_AIIUUUU p0 v6) [(.int (1 : Int32)), (.int v6)]) t := by
        intro t k
        show own_S p e below s₁ (mkF m 55 (own_AIIUUUU p0 v6) [(.int (1 : Int32)), (.int v6)]) _
        refine XS.icmpNo X0.here hx rfl (hb hby at_55) rfl (teq hc55).2 ?_
        show own_S p e below s₁ (mkF m 58 (own_AIIUUUU p0 v6) []) _
        refine XS.iconst X0.here hx rfl (hb hby at_58) ?_
        exact k
      refine own_by sg59 ?_
      obtain ⟨T59, h59, kc59, X59, e59, E59, A59, st59⟩ := newP X0 hx hZ (hw _ (List.mem_of_getElem? (i := 1) rfl)) e0 (g := (mkF m 59 (own_AIIUUUU p0 v6) [(.int (5 : Int32))])) rfl (hb hby at_59) rfl (by decide) (cap := 5) (by decide) (by decide) (by decide) (by decide)
      obtain ⟨b59, g59⟩ : ∃ z, z = h0.size := ⟨_, rfl⟩
      rw [← g59] at A59 st59
      have g_b59 : n0 ≤ b59 := Nat.le_trans Z0 (Nat.le_of_eq g59.symm)
      have sz_b59 : h0.size ≤ b59 := Nat.le_trans K0.1 (Nat.le_of_eq g59.symm)
      have K59 := K0.ext E59
      have Z59 : n0 ≤ h59.size := Nat.le_trans Z0 E59.1
      have V59 : Arv Z h59 b59 kc59 .char (5 : Int32) [(.int (0 : Int32)), (.int (0 : Int32)), (.int (0 : Int32)), (.int (0 : Int32)), (.int (0 : Int32))] (.int (0 : Int32)) := (Arv.new A59 (by decide)).pad (pad_rep [] (.int (0 : Int32)) 5)
      refine own_by st59 ?_
      have sg65 : ∀ t, own_S p e below T59 (mkF m 65 (own_AIIUUUU p0 v6) [(.int (97 : Int32)), (.int (0 : Int32)), (.ref b59), (.ref b59)]) t → own_S p e below T59 (mkF m 61 (own_AIIUUUU p0 v6) [(.ref b59)]) t := by
        intro t k
        show own_S p e below T59 (mkF m 61 (own_AIIUUUU p0 v6) [(.ref b59)]) _
        refine XS.dup X59.here hx rfl (hb hby at_61) rfl rfl ?_
        show own_S p e below T59 (mkF m 62 (own_AIIUUUU p0 v6) [(.ref b59), (.ref b59)]) _
        refine XS.iconst X59.here hx rfl (hb hby at_62) ?_
        show own_S p e below T59 (mkF m 63 (own_AIIUUUU p0 v6) [(.int (0 : Int32)), (.ref b59), (.ref b59)]) _
        refine XS.bipush X59.here hx rfl (hb hby at_63) ?_
        exact k
      refine own_by sg65 ?_
      obtain ⟨cl65, Ar65, qa65, Sa65, Na65, Ha65, Ga65⟩ := id V59
      obtain ⟨T65, h65, X65, e65, W65, st65⟩ := stC X59 hx hZ e59 Ar65 (j := (0 : Int32)) (inb_of Sa65 ⟨by decide, by decide⟩) (g := (mkF m 65 (own_AIIUUUU p0 v6) [(.int (97 : Int32)), (.int (0 : Int32)), (.ref b59), (.ref b59)])) rfl rfl (hb hby at_65)
      have V65 : Arv Z h65 b59 kc59 .char (5 : Int32) [(.int (97 : Int32)), (.int (0 : Int32)), (.int (0 : Int32)), (.int (0 : Int32)), (.int (0 : Int32))] (.int (0 : Int32)) := by
        have q := Arv.set Ar65 qa65 Sa65 Na65 Ha65 Ga65 (fits_nar_char _) W65 0 rfl (Nat.le_of_ble_eq_true rfl)
        exact q
      have K65 : Keep h0 h65 [] := K59.wr W65 (Or.inr sz_b59)
      have Z65 : n0 ≤ h65.size := Nat.le_trans Z59 (Keep.of_wr W65).1
      have N65 := Fr.snoc X65 N0 g_b59
      refine own_by st65 ?_
      have sg70 : ∀ t, own_S p e below T65 (mkF m 70 (own_AIIUUUU p0 v6) [(.int (100 : Int32)), (.int (1 : Int32)), (.ref b59), (.ref b59)]) t → own_S p e below T65 (mkF m 66 (own_AIIUUUU p0 v6) [(.ref b59)]) t := by
        intro t k
        show own_S p e below T65 (mkF m 66 (own_AIIUUUU p0 v6) [(.ref b59)]) _
        refine XS.dup X65.here hx rfl (hb hby at_66) rfl rfl ?_
        show own_S p e below T65 (mkF m 67 (own_AIIUUUU p0 v6) [(.ref b59), (.ref b59)]) _
        refine XS.iconst X65.here hx rfl (hb hby at_67) ?_
        show own_S p e below T65 (mkF m 68 (own_AIIUUUU p0 v6) [(.int (1 : Int32)), (.ref b59), (.ref b59)]) _
        refine XS.bipush X65.here hx rfl (hb hby at_68) ?_
        exact k
      refine own_by sg70 ?_
      obtain ⟨cl70, Ar70, qa70, Sa70, Na70, Ha70, Ga70⟩ := id V65
      obtain ⟨T70, h70, X70, e70, W70, st70⟩ := stC X65 hx hZ e65 Ar70 (j := (1 : Int32)) (inb_of Sa70 ⟨by decide, by decide⟩) (g := (mkF m 70 (own_AIIUUUU p0 v6) [(.int (100 : Int32)), (.int (1 : Int32)), (.ref b59), (.ref b59)])) rfl rfl (hb hby at_70)
      have V70 : Arv Z h70 b59 kc59 .char (5 : Int32) [(.int (97 : Int32)), (.int (100 : Int32)), (.int (0 : Int32)), (.int (0 : Int32)), (.int (0 : Int32))] (.int (0 : Int32)) := by
        have q := Arv.set Ar70 qa70 Sa70 Na70 Ha70 Ga70 (fits_nar_char _) W70 1 rfl (Nat.le_of_ble_eq_true rfl)
        exact q
      have K70 : Keep h0 h70 [] := K65.wr W70 (Or.inr sz_b59)
      have Z70 : n0 ≤ h70.size := Nat.le_trans Z65 (Keep.of_wr W70).1
      have N70 := Fr.snoc X70 N65 g_b59
      refine own_by st70 ?_
      have sg75 : ∀ t, own_S p e below T70 (mkF m 75 (own_AIIUUUU p0 v6) [(.int (109 : Int32)), (.int (2 : Int32)), (.ref b59), (.ref b59)]) t → own_S p e below T70 (mkF m 71 (own_AIIUUUU p0 v6) [(.ref b59)]) t := by
        intro t k
        show own_S p e below T70 (mkF m 71 (own_AIIUUUU p0 v6) [(.ref b59)]) _
        refine XS.dup X70.here hx rfl (hb hby at_71) rfl rfl ?_
        show own_S p e below T70 (mkF m 72 (own_AIIUUUU p0 v6) [(.ref b59), (.ref b59)]) _
        refine XS.iconst X70.here hx rfl (hb hby at_72) ?_
        show own_S p e below T70 (mkF m 73 (own_AIIUUUU p0 v6) [(.int (2 : Int32)), (.ref b59), (.ref b59)]) _
        refine XS.bipush X70.here hx rfl (hb hby at_73) ?_
        exact k
      refine own_by sg75 ?_
      obtain ⟨cl75, Ar75, qa75, Sa75, Na75, Ha75, Ga75⟩ := id V70
      obtain ⟨T75, h75, X75, e75, W75, st75⟩ := stC X70 hx hZ e70 Ar75 (j := (2 : Int32)) (inb_of Sa75 ⟨by decide, by decide⟩) (g := (mkF m 75 (own_AIIUUUU p0 v6) [(.int (109 : Int32)), (.int (2 : Int32)), (.ref b59), (.ref b59)])) rfl rfl (hb hby at_75)
      have V75 : Arv Z h75 b59 kc59 .char (5 : Int32) [(.int (97 : Int32)), (.int (100 : Int32)), (.int (109 : Int32)), (.int (0 : Int32)), (.int (0 : Int32))] (.int (0 : Int32)) := by
        have q := Arv.set Ar75 qa75 Sa75 Na75 Ha75 Ga75 (fits_nar_char _) W75 2 rfl (Nat.le_of_ble_eq_true rfl)
        exact q
      have K75 : Keep h0 h75 [] := K70.wr W75 (Or.inr sz_b59)
      have Z75 : n0 ≤ h75.size := Nat.le_trans Z70 (Keep.of_wr W75).1
      have N75 := Fr.snoc X75 N70 g_b59
      refine own_by st75 ?_
      have sg80 : ∀ t, own_S p e below T75 (mkF m 80 (own_AIIUUUU p0 v6) [(.int (105 : Int32)), (.int (3 : Int32)), (.ref b59), (.ref b59)]) t → own_S p e below T75 (mkF m 76 (own_AIIUUUU p0 v6) [(.ref b59)]) t := by
        intro t k
        show own_S p e below T75 (mkF m 76 (own_AIIUUUU p0 v6) [(.ref b59)]) _
        refine XS.dup X75.here hx rfl (hb hby at_76) rfl rfl ?_
        show own_S p e below T75 (mkF m 77 (own_AIIUUUU p0 v6) [(.ref b59), (.ref b59)]) _
        refine XS.iconst X75.here hx rfl (hb hby at_77) ?_
        show own_S p e below T75 (mkF m 78 (own_AIIUUUU p0 v6) [(.int (3 : Int32)), (.ref b59), (.ref b59)]) _
        refine XS.bipush X75.here hx rfl (hb hby at_78) ?_
        exact k
      refine own_by sg80 ?_
      obtain ⟨cl80, Ar80, qa80, Sa80, Na80, Ha80, Ga80⟩ := id V75
      obtain ⟨T80, h80, X80, e80, W80, st80⟩ := stC X75 hx hZ e75 Ar80 (j := (3 : Int32)) (inb_of Sa80 ⟨by decide, by decide⟩) (g := (mkF m 80 (own_AIIUUUU p0 v6) [(.int (105 : Int32)), (.int (3 : Int32)), (.ref b59), (.ref b59)])) rfl rfl (hb hby at_80)
      have V80 : Arv Z h80 b59 kc59 .char (5 : Int32) [(.int (97 : Int32)), (.int (100 : Int32)), (.int (109 : Int32)), (.int (105 : Int32)), (.int (0 : Int32))] (.int (0 : Int32)) := by
        have q := Arv.set Ar80 qa80 Sa80 Na80 Ha80 Ga80 (fits_nar_char _) W80 3 rfl (Nat.le_of_ble_eq_true rfl)
        exact q
      have K80 : Keep h0 h80 [] := K75.wr W80 (Or.inr sz_b59)
      have Z80 : n0 ≤ h80.size := Nat.le_trans Z75 (Keep.of_wr W80).1
      have N80 := Fr.snoc X80 N75 g_b59
      refine own_by st80 ?_
      have sg85 : ∀ t, own_S p e below T80 (mkF m 85 (own_AIIUUUU p0 v6) [(.int (110 : Int32)), (.int (4 : Int32)), (.ref b59), (.ref b59)]) t → own_S p e below T80 (mkF m 81 (own_AIIUUUU p0 v6) [(.ref b59)]) t := by
        intro t k
        show own_S p e below T80 (mkF m 81 (own_AIIUUUU p0 v6) [(.ref b59)]) _
        refine XS.dup X80.here hx rfl (hb hby at_81) rfl rfl ?_
        show own_S p e below T80 (mkF m 82 (own_AIIUUUU p0 v6) [(.ref b59), (.ref b59)]) _
        refine XS.iconst X80.here hx rfl (hb hby at_82) ?_
        show own_S p e below T80 (mkF m 83 (own_AIIUUUU p0 v6) [(.int (4 : Int32)), (.ref b59), (.ref b59)]) _
        refine XS.bipush X80.here hx rfl (hb hby at_83) ?_
        exact k
      refine own_by sg85 ?_
      obtain ⟨cl85, Ar85, qa85, Sa85, Na85, Ha85, Ga85⟩ := id V80
      obtain ⟨T85, h85, X85, e85, W85, st85⟩ := stC X80 hx hZ e80 Ar85 (j := (4 : Int32)) (inb_of Sa85 ⟨by decide, by decide⟩) (g := (mkF m 85 (own_AIIUUUU p0 v6) [(.int (110 : Int32)), (.int (4 : Int32)), (.ref b59), (.ref b59)])) rfl rfl (hb hby at_85)
      have V85 : Arv Z h85 b59 kc59 .char (5 : Int32) [(.int (97 : Int32)), (.int (100 : Int32)), (.int (109 : Int32)), (.int (105 : Int32)), (.int (110 : Int32))] (.int (0 : Int32)) := by
        have q := Arv.set Ar85 qa85 Sa85 Na85 Ha85 Ga85 (fits_nar_char _) W85 4 rfl (Nat.le_of_ble_eq_true rfl)
        exact q
      have K85 : Keep h0 h85 [] := K80.wr W85 (Or.inr sz_b59)
      have Z85 : n0 ≤ h85.size := Nat.le_trans Z80 (Keep.of_wr W85).1
      have N85 := Fr.snoc X85 N80 g_b59
      refine own_by st85 ?_
      have sg87 : ∀ t, own_S p e below T85 (mkF m 87 (own_AIIRUUU p0 v6 b59) []) t → own_S p e below T85 (mkF m 86 (own_AIIUUUU p0 v6) [(.ref b59)]) t := by
        intro t k
        show own_S p e below T85 (mkF m 86 (own_AIIUUUU p0 v6) [(.ref b59)]) _
        refine XS.astoreN X85.here hx rfl (hb hby at_86) rfl rfl (l' := (own_AIIRUUU p0 v6 b59)) rfl ?_
        exact k
      refine own_by sg87 ?_
      obtain ⟨T87, X87, e87, st87⟩ := getS2 X85 hx hZ hown (host := "") (Or.inl (hw _ (List.mem_of_getElem? (i := 73) rfl))) Via.refl e85 (S_ADMIN.ext ((((((O.ext E59).wr W65 g_b59).wr W70 g_b59).wr W75 g_b59).wr W80 g_b59).wr W85 g_b59).2) (g := (mkF m 87 (own_AIIRUUU p0 v6 b59) [])) rfl (hb hby at_87)
      refine own_by st87 ?_
      have sg139 : ∀ t, own_S p e below T87 (mkF m 139 (own_AIIRRUU p0 v6 b59 wADMIN) []) t → own_S p e below T87 (mkF m 90 (own_AIIRUUU p0 v6 b59) [(.ref wADMIN)]) t := by
        intro t k
        show own_S p e below T87 (mkF m 90 (own_AIIRUUU p0 v6 b59) [(.ref wADMIN)]) _
        refine XS.astoreN X87.here hx rfl (hb hby at_90) rfl rfl (l' := (own_AIIRRUU p0 v6 b59 wADMIN)) rfl ?_
        show own_S p e below T87 (mkF m 91 (own_AIIRRUU p0 v6 b59 wADMIN) []) _
        refine XS.goto X87.here hx rfl (pc0 := 91) (pc' := 139) rfl (hb hby at_91) (by decide) (by decide) ?_
        exact k
      refine own_by sg139 ?_
      obtain ⟨T139, h139, X139, e139, E139, A139, D139, -, st139⟩ := newO X87 hx hZ hown (hw _ (List.mem_of_getElem? (i := 5) rfl)) (hw _ (List.mem_of_getElem? (i := 6) rfl)) (hw _ (List.mem_of_getElem? (i := 7) rfl)) e87 (g := (mkF m 139 (own_AIIRRUU p0 v6 b59 wADMIN) [])) rfl (hb hby at_139) (by decide) (by decide)
      obtain ⟨b139, g139⟩ : ∃ z, z = h85.size := ⟨_, rfl⟩
      rw [← g139] at A139 D139 st139
      have ne_b59_b139 : b59 ≠ b139 := Nat.ne_of_lt (Nat.lt_of_lt_of_le V85.lt (Nat.le_of_eq g139.symm))
      have g_b139 : n0 ≤ b139 := Nat.le_trans Z85 (Nat.le_of_eq g139.symm)
      have sz_b139 : h0.size ≤ b139 := Nat.le_trans K85.1 (Nat.le_of_eq g139.symm)
      have K139 := K85.ext E139
      have Z139 : n0 ≤ h139.size := Nat.le_trans Z85 E139.1
      have F_coder_b139 : Fld Z h139 b139 "java/lang/String" "coder" "B" (.int (0 : Int32)) := D139 (Or.inr (hw _ (List.mem_of_getElem? (i := 31) rfl))) (ty := .byte) (by decide)
      have F_value_b139 : Fld Z h139 b139 "java/lang/String" "value" "[B" .null := D139 (Or.inr (hw _ (List.mem_of_getElem? (i := 33) rfl))) (ty := (.array .byte)) (by decide)
      refine own_by st139 ?_
      have sg144 : ∀ t, own_S p e below T139 (mkF m 144 (own_AIIRRUU p0 v6 b59 wADMIN) [(.ref b59), (.ref b139), (.ref b139)]) t → own_S p e below T139 (mkF m 142 (own_AIIRRUU p0 v6 b59 wADMIN) [(.ref b139)]) t := by
        intro t k
        show own_S p e below T139 (mkF m 142 (own_AIIRRUU p0 v6 b59 wADMIN) [(.ref b139)]) _
        refine XS.dup X139.here hx rfl (hb hby at_142) rfl rfl ?_
        show own_S p e below T139 (mkF m 143 (own_AIIRRUU p0 v6 b59 wADMIN) [(.ref b139), (.ref b139)]) _
        refine XS.aloadN X139.here hx rfl (hb hby at_143) rfl rfl ?_
        exact k
      refine own_by sg144 ?_
      have hp144 : ∀ c ∈ ([(97 : Int32), (100 : Int32), (109 : Int32), (105 : Int32), (110 : Int32)] : List Int32), ¬ c < 0 ∧ ¬ (255 : Int32) < c := by
        intro c hc
        simp only [List.mem_cons, List.not_mem_nil, or_false] at hc
        rcases hc with rfl | rfl | rfl | rfl | rfl
        · exact (by decide)
        · exact (by decide)
        · exact (by decide)
        · exact (by decide)
        · exact (by decide)
      obtain ⟨_, _, ⟨T144, L144, k144, n144⟩, -, X144, ⟨Lc144, hQ144, l144, y144, z144⟩, st144⟩ := X139.specialBack hx (y := (⟨"java/lang/String", "<init>", "([C)V"⟩ : MethodName)) rfl hown (mvT hZ (hw _ (List.mem_of_getElem? (i := 8) rfl))) (mvT hZ (hw _ (List.mem_of_getElem? (i := 9) rfl))) (mvT hZ (hw _ (List.mem_of_getElem? (i := 10) rfl))) (by decide) (StrChars.Road.backV (W := 1) hZ hws (kI := 4) (hw _ (List.mem_of_getElem? (i := 6) rfl)) (cs := ([(97 : Int32), (100 : Int32), (109 : Int32), (105 : Int32), (110 : Int32)] : List Int32)) (bs := ([(97 : Int32), (100 : Int32), (109 : Int32), (105 : Int32), (110 : Int32)] : List Int32).map (fun c => c.toInt8.toInt32)) (n := 5) g_b139 Z139 A139 F_value_b139 F_coder_b139 (V85.ext E139) (O2.ext (((((((O.ext E59).wr W65 g_b59).wr W70 g_b59).wr W75 g_b59).wr W80 g_b59).wr W85 g_b59).ext E139).2) P5 rfl rfl (by decide) (by decide) hp144 rfl (by decide) (by decide)) (g := (mkF m 144 (own_AIIRRUU p0 v6 b59 wADMIN) [(.ref b59), (.ref b139), (.ref b139)])) rfl (by rw [hml]; rfl) (Steps.refl _) (a := b139) (argsL := [(.ref b59)]) (rest := [(.ref b139)]) (lenOf pd_0_0 rfl) rfl (by show 2 * 0 + _ ≤ _; exact Nat.le_of_eq rfl) (hb hby at_144) (fun _ _ => ⟨rfl, e139, (by decide : 2 + 1 ≤ _), (by decide : 9 + 5 ≤ _)⟩)
      dsimp only [Pt.U, Pt.locs, Pt.cells, Pt.slots] at X144 l144 y144 z144 st144 hQ144
      subst l144 y144 z144
      obtain ⟨rfl, N144q, Kq144, Eq144, Cq144, t144, kb144, u1144, u2144, u3144, Vq144, Aq144⟩ := hQ144
      have N144 := Fr.app N85 N144q
      have ne_b59_t144 : b59 ≠ t144 := Nat.ne_of_lt (Nat.lt_of_lt_of_le (V85.ext E139).lt u2144)
      have ne_b139_t144 : b139 ≠ t144 := Nat.ne_of_lt (Nat.lt_of_lt_of_le A139.lt u2144)
      have g_t144 : n0 ≤ t144 := Nat.le_trans Z139 u2144
      have sz_t144 : h0.size ≤ t144 := Nat.le_trans K139.1 u2144
      have fc := ((V85.ext E139).keep Kq144 (fun h => ne_b59_b139 (List.mem_singleton.mp h)))
      have K144 : Keep h0 T144.heap [] := K139.trans Kq144 (fun x hx => by cases List.mem_singleton.mp hx; exact Or.inr sz_b139)
      have Z144 : n0 ≤ T144.heap.size := Nat.le_trans Z139 Kq144.1
      refine own_by (fun t k => st144.trans k) ?_
      have sg151 : ∀ t, own_S p e below T144 (mkF m 151 (own_AIIRRRU p0 v6 b59 wADMIN b139) [(.ref b139)]) t → own_S p e below T144 (mkF m 147 (own_AIIRRUU p0 v6 b59 wADMIN) [(.ref b139)]) t := by
        intro t k
        show own_S p e below T144 (mkF m 147 (own_AIIRRUU p0 v6 b59 wADMIN) [(.ref b139)]) _
        refine XS.astore X144.here hx rfl (hb hby at_147) rfl rfl (l' := (own_AIIRRRU p0 v6 b59 wADMIN b139)) rfl ?_
        show own_S p e below T144 (mkF m 149 (own_AIIRRRU p0 v6 b59 wADMIN b139) []) _
        refine XS.aload X144.here hx rfl (hb hby at_149) rfl rfl ?_
        exact k
      refine own_by sg151 ?_
      obtain ⟨_, _, ⟨T151, L151, k151, n151⟩, -, X151, ⟨Lc151, hQ151, l151, y151, z151⟩, st151⟩ := Jvm.LawKit.callS X144 hx (y := (⟨"com/example/writd/writd/model/ClientSource", "parse", "(Ljava/lang/String;)Lcom/example/writd/writd/model/ClientSource;"⟩ : MethodName)) hown (mvT hZ (hw _ (List.mem_of_getElem? (i := 34) rfl))) (mvT hZ (hw _ (List.mem_of_getElem? (i := 35) rfl))) (mvT hZ (hw _ (List.mem_of_getElem? (i := 3) rfl))) (mvT hZ (hw _ (List.mem_of_getElem? (i := 36) rfl))) (by decide) (backOf (W := 0) (rm7 l Z a0 hw [] b139 ([(97 : Int32), (100 : Int32), (109 : Int32), (105 : Int32), (110 : Int32)] : List Int32) wV cl wSTATIC wADMIN wDYNAMIC sSTATIC sADMIN sDYNAMIC gz T144.heap n0 Z144 ((((((((O.ext E59).wr W65 g_b59).wr W70 g_b59).wr W75 g_b59).wr W80 g_b59).wr W85 g_b59).ext E139).keep Kq144 (allS g_b139 all0)) O2 P5 S_V Ar_V E_V FC hsz hat0 hat1 hat2 FV_STATIC FV_ADMIN FV_DYNAMIC EX_STATIC EX_ADMIN EX_DYNAMIC Str_STATIC Str_ADMIN Str_DYNAMIC (⟨t144, kb144, 0, (5 : Int32), _, Eq144, Vq144, Cq144, Aq144, StrChars.Road.codOf (n := 5) rfl (fun x hx => (hp144 x hx).2), own_up _ hp144, Nat.le_of_ble_eq_true rfl⟩ : own_Str Z T144.heap b139 ([(97 : Int32), (100 : Int32), (109 : Int32), (105 : Int32), (110 : Int32)] : List Int32)) (Or.inr (Or.inl rfl))) hZ (hw _ (List.mem_of_getElem? (i := 36) rfl)) (hw _ (List.mem_of_getElem? (i := 3) rfl)) (by decide) (by decide)) (g := (mkF m 151 (own_AIIRRRU p0 v6 b59 wADMIN b139) [(.ref b139)])) rfl (by rw [hml]; rfl) (argsL := [(.ref b139)]) (rest := []) (lenOf pd_0_1 rfl) rfl (by show 2 * 0 + _ ≤ _; exact Nat.le_of_eq rfl) (hb hby at_151) (fun _ _ => ⟨rfl, rfl, (by decide : 3 + 1 ≤ _), (by decide : 14 + 3 ≤ _)⟩)
      dsimp only [Pt.U, Pt.locs, Pt.cells, Pt.slots] at X151 l151 y151 z151 st151 hQ151
      subst l151 y151 z151
      obtain ⟨rfl, N151q, Kq151⟩ := hQ151
      have N151 := Fr.app N144 N151q
      have K151 : Keep h0 T151.heap [] := K144.trans Kq151 (fun x hx => nomatch hx)
      have Z151 : n0 ≤ T151.heap.size := Nat.le_trans Z144 Kq151.1
      rw [if_neg (by decide : ¬ ([(115 : Int32), (116 : Int32), (97 : Int32), (116 : Int32), (105 : Int32), (99 : Int32)] : List Int32) = ([(97 : Int32), (100 : Int32), (109 : Int32), (105 : Int32), (110 : Int32)] : List Int32)), if_pos rfl] at st151
      refine own_by st151 ?_
      have sg164 : ∀ t, own_S p e below T151 (mkF m 164 (own_AIIRRRR p0 v6 b59 wADMIN b139 wADMIN) [(.ref wADMIN)]) t → own_S p e below T151 (mkF m 154 (own_AIIRRRU p0 v6 b59 wADMIN b139) [(.ref wADMIN)]) t := by
        intro t k
        show own_S p e below T151 (mkF m 154 (own_AIIRRRU p0 v6 b59 wADMIN b139) [(.ref wADMIN)]) _
        refine XS.astore X151.here hx rfl (hb hby at_154) rfl rfl (l' := (own_AIIRRRR p0 v6 b59 wADMIN b139 wADMIN)) rfl ?_
        show own_S p e below T151 (mkF m 156 (own_AIIRRRR p0 v6 b59 wADMIN b139 wADMIN) []) _
        refine XS.aload X151.here hx rfl (hb hby at_156) rfl rfl ?_
        show own_S p e below T151 (mkF m 158 (own_AIIRRRR p0 v6 b59 wADMIN b139 wADMIN) [(.ref wADMIN)]) _
        refine XS.aloadN X151.here hx rfl (hb hby at_158) rfl rfl ?_
        show own_S p e below T151 (mkF m 159 (own_AIIRRRR p0 v6 b59 wADMIN b139 wADMIN) [(.ref wADMIN), (.ref wADMIN)]) _
        refine Jvm.RoadKit.acmp (g := (mkF m 159 (own_AIIRRRR p0 v6 b59 wADMIN b139 wADMIN) [(.ref wADMIN), (.ref wADMIN)])) X151 hx rfl rfl rfl (pc0 := 159) (pc' := 162) (same := true) rfl (hb hby at_159) rfl (decide_eq_true (congrArg Value.ref (rfl : wADMIN = wADMIN))) (by decide) (by decide) ?_
        show own_S p e below T151 (mkF m 162 (own_AIIRRRR p0 v6 b59 wADMIN b139 wADMIN) []) _
        refine XS.aload X151.here hx rfl (hb hby at_162) rfl rfl ?_
        exact k
      refine own_by sg164 ?_
      obtain ⟨cq164, kq164, q164a, q164b, q164c⟩ := isOf hZ rfl (E_ADMIN.ext (((((((((O.ext E59).wr W65 g_b59).wr W70 g_b59).wr W75 g_b59).wr W80 g_b59).wr W85 g_b59).ext E139).keep Kq144 (allS g_b139 all0)).keep Kq151 all0).2)
      obtain ⟨_, _, ⟨T164, L164, k164, n164⟩, -, X164, ⟨Lc164, hQ164, l164, y164, z164⟩, st164⟩ := X151.virtualBack hx (y := (⟨"com/example/writd/writd/model/ClientSource", "value", "()Ljava/lang/String;"⟩ : MethodName)) (z := (⟨"com/example/writd/writd/model/ClientSource", "value", "()Ljava/lang/String;"⟩ : MethodName)) hown (mvT hZ (hw _ (List.mem_of_getElem? (i := 66) rfl))) (mvT hZ (hw _ (List.mem_of_getElem? (i := 67) rfl))) (notFace_of_selects (args := #[]) (mvT hZ (hw _ (List.mem_of_getElem? (i := 69) rfl)))) (mvT hZ (hw _ (List.mem_of_getElem? (i := 69) rfl))) (mvT hZ (hw _ (List.mem_of_getElem? (i := 68) rfl))) (by decide) (backOf (W := 0) (rm11 l Z a0 hw [] wADMIN sADMIN T151.heap n0 Z151 (FV_ADMIN.ext (((((((((O.ext E59).wr W65 g_b59).wr W70 g_b59).wr W75 g_b59).wr W80 g_b59).wr W85 g_b59).ext E139).keep Kq144 (allS g_b139 all0)).keep Kq151 all0).2)) hZ (hw _ (List.mem_of_getElem? (i := 70) rfl)) (hw _ (List.mem_of_getElem? (i := 3) rfl)) (by decide) (by decide)) q164a q164c (g := (mkF m 164 (own_AIIRRRR p0 v6 b59 wADMIN b139 wADMIN) [(.ref wADMIN)])) rfl (by rw [hml]; rfl) (Steps.refl _) (argsL := []) (rest := []) (lenOf pd_0_2 rfl) rfl (by show 2 * 0 + _ ≤ _; exact Nat.le_of_eq rfl) (hb hby at_164) (fun _ _ => ⟨rfl, rfl, (by decide : 4 + 0 ≤ _), (by decide : 17 + 0 ≤ _)⟩)
      dsimp only [Pt.U, Pt.locs, Pt.cells, Pt.slots] at X164 l164 y164 z164 st164 hQ164
      subst l164 y164 z164
      obtain ⟨rfl, N164q, hq164⟩ := hQ164
      have N164 := Fr.app N151 N164q
      refine own_by (fun t k => st164.trans k) ?_
      have sg169 : ∀ t, own_S p e below T164 (mkF m 169 (own_AIIRRRR p0 v6 b59 wADMIN b139 wADMIN) [(.ref b139), (.ref sADMIN)]) t → own_S p e below T164 (mkF m 167 (own_AIIRRRR p0 v6 b59 wADMIN b139 wADMIN) [(.ref sADMIN)]) t := by
        intro t k
        show own_S p e below T164 (mkF m 167 (own_AIIRRRR p0 v6 b59 wADMIN b139 wADMIN) [(.ref sADMIN)]) _
        refine XS.aload X164.here hx rfl (hb hby at_167) rfl rfl ?_
        exact k
      refine own_by sg169 ?_
      obtain ⟨tx169, kx169, dx169, nx169, vx169, xe169, xv169, xc169, xk169, xh169, xb169, xl169⟩ := id (Str_ADMIN.ext (((((((((O.ext E59).wr W65 g_b59).wr W70 g_b59).wr W75 g_b59).wr W80 g_b59).wr W85 g_b59).ext E139).keep Kq144 (allS g_b139 all0)).keep Kq151 all0).2)
      obtain ⟨ty169, ky169, dy169, ny169, vy169, ye169, yv169, yc169, yk169, yh169, yb169, yl169⟩ := id (⟨t144, kb144, 0, (5 : Int32), _, (Eq144.keep Kq151), (Vq144.keep Kq151 List.not_mem_nil), (Cq144.keep Kq151 List.not_mem_nil), (Aq144.keep Kq151 List.not_mem_nil), StrChars.Road.codOf (n := 5) rfl (fun x hx => (hp144 x hx).2), own_up _ hp144, Nat.le_of_ble_eq_true rfl⟩ : own_Str Z T151.heap b139 ([(97 : Int32), (100 : Int32), (109 : Int32), (105 : Int32), (110 : Int32)] : List Int32))
      obtain ⟨cq169, kq169, q169a, q169b, q169c⟩ := isOf hZ hq164 (EX_ADMIN.ext (((((((((O.ext E59).wr W65 g_b59).wr W70 g_b59).wr W75 g_b59).wr W80 g_b59).wr W85 g_b59).ext E139).keep Kq144 (allS g_b139 all0)).keep Kq151 all0).2)
      obtain ⟨_, _, ⟨T169, L169, k169, n169⟩, -, X169, ⟨Lc169, hQ169, l169, y169, z169⟩, st169⟩ := X164.virtualBack hx (y := (⟨"java/lang/String", "equals", "(Ljava/lang/Object;)Z"⟩ : MethodName)) (z := (⟨"java/lang/String", "equals", "(Ljava/lang/Object;)Z"⟩ : MethodName)) hown (mvT hZ (hw _ (List.mem_of_getElem? (i := 71) rfl))) (mvT hZ (hw _ (List.mem_of_getElem? (i := 57) rfl))) (notFace_of_selects (args := #[]) (mvT hZ (hw _ (List.mem_of_getElem? (i := 59) rfl)))) (mvT hZ (hw _ (List.mem_of_getElem? (i := 59) rfl))) (mvT hZ (hw _ (List.mem_of_getElem? (i := 58) rfl))) (by decide) (StrChars.Road.eqW (W := 0) hZ heq (kI := 4) (hw _ (List.mem_of_getElem? (i := 6) rfl)) xe169 xv169 xc169 xk169 xh169 xb169 xl169 ye169 yv169 yc169 yk169 yh169 yb169 yl169 (O2.ext (((((((((O.ext E59).wr W65 g_b59).wr W70 g_b59).wr W75 g_b59).wr W80 g_b59).wr W85 g_b59).ext E139).keep Kq144 (allS g_b139 all0)).keep Kq151 all0).2) P5 (by decide) (by decide)) q169a q169c (g := (mkF m 169 (own_AIIRRRR p0 v6 b59 wADMIN b139 wADMIN) [(.ref b139), (.ref sADMIN)])) rfl (by rw [hml]; rfl) (Steps.refl _) (argsL := [(.ref b139)]) (rest := []) (lenOf pd_0_3 rfl) rfl (by show 2 * 0 + _ ≤ _; exact Nat.le_of_eq rfl) (hb hby at_169) (fun _ _ => ⟨rfl, hq164, (by decide : 4 + 0 ≤ _), (by decide : 17 + 0 ≤ _)⟩)
      dsimp only [Pt.U, Pt.locs, Pt.cells, Pt.slots] at X169 l169 y169 z169 st169 hQ169
      subst l169 y169 z169
      obtain ⟨hv169, rfl, hq169⟩ := hQ169
      obtain rfl := own_eqv hv169
      have N169 := Fr.app N164 (Fr.nil n0)
      obtain ⟨c169, hc169⟩ : ∃ z : Int32, z = (if ([(97 : Int32), (100 : Int32), (109 : Int32), (105 : Int32), (110 : Int32)] : List Int32) = ([(97 : Int32), (100 : Int32), (109 : Int32), (105 : Int32), (110 : Int32)] : List Int32) then (1 : Int32) else (0 : Int32)) := ⟨_, rfl⟩
      rw [← hc169] at st169
      refine own_by (fun t k => st169.trans k) ?_
      have sg180 : ∀ t, own_S p e below T169 (mkF m 180 (own_AIIRRRR p0 v6 b59 wADMIN b139 wADMIN) [(.int (1 : Int32))]) t → own_S p e below T169 (mkF m 172 (own_AIIRRRR p0 v6 b59 wADMIN b139 wADMIN) [(.int c169)]) t := by
        intro t k
        show own_S p e below T169 (mkF m 172 (own_AIIRRRR p0 v6 b59 wADMIN b139 wADMIN) [(.int c169)]) _
        refine XS.ifNo X169.here hx rfl (hb hby at_172) rfl ((if0 _ _).trans (feq (by rw [hc169]; decide : ¬ (c169 = (0 : Int32)))).1) ?_
        show own_S p e below T169 (mkF m 175 (own_AIIRRRR p0 v6 b59 wADMIN b139 wADMIN) []) _
        refine XS.iconst X169.here hx rfl (hb hby at_175) ?_
        show own_S p e below T169 (mkF m 176 (own_AIIRRRR p0 v6 b59 wADMIN b139 wADMIN) [(.int (1 : Int32))]) _
        refine XS.goto X169.here hx rfl (pc0 := 176) (pc' := 180) rfl (hb hby at_176) (by decide) (by decide) ?_
        exact k
      refine own_by sg180 ?_
      obtain ⟨fs, hr, hrun, hended, hW, hsame⟩ := X169.leave (v := some (.int (1 : Int32))) (fun h => by rw [Bd.returns] at h; cases h)
      refine ⟨_, _, ?_, hrun, hended, _, _, rfl, ?_, ⟨_, rfl⟩, hW, hsame.mono (by decide) (by decide)⟩
      · exact retN X169 hx (t := .boolean) Bd.returns (by simp) (hb hby at_180) hr
      · show Q0 Z p0 wV cl wSTATIC wADMIN wDYNAMIC sSTATIC sADMIN sDYNAMIC gz h0 n0 _ T169.heap _
        rw [hq169]
        exact ⟨rfl, N169⟩
    · have sg96 : ∀ t, own_S p e below s₁ (mkF m 96 (own_AIIUUUU p0 v6) [(.int (7 : Int32))]) t → own_S p e below s₁ (mkF m 55 (own_AIIUUUU p0 v6) [(.int (1 : Int32)), (.int v6)]) t := by
        intro t k
        show own_S p e below s₁ (mkF m 55 (own_AIIUUUU p0 v6) [(.int (1 : Int32)), (.int v6)]) _
        refine XS.icmpYes X0.here hx rfl (pc0 := 55) (pc' := 94) rfl (hb hby at_55) rfl (feq hc55).2 (by decide) (by decide) ?_
        show own_S p e below s₁ (mkF m 94 (own_AIIUUUU p0 v6) []) _
        refine XS.bipush X0.here hx rfl (hb hby at_94) ?_
        exact k
      refine own_by sg96 ?_
      obtain ⟨T96, h96, kc96, X96, e96, E96, A96, st96⟩ := newP X0 hx hZ (hw _ (List.mem_of_getElem? (i := 1) rfl)) e0 (g := (mkF m 96 (own_AIIUUUU p0 v6) [(.int (7 : Int32))])) rfl (hb hby at_96) rfl (by decide) (cap := 7) (by decide) (by decide) (by decide) (by decide)
      obtain ⟨b96, g96⟩ : ∃ z, z = h0.size := ⟨_, rfl⟩
      rw [← g96] at A96 st96
      have g_b96 : n0 ≤ b96 := Nat.le_trans Z0 (Nat.le_of_eq g96.symm)
      have sz_b96 : h0.size ≤ b96 := Nat.le_trans K0.1 (Nat.le_of_eq g96.symm)
      have K96 := K0.ext E96
      have Z96 : n0 ≤ h96.size := Nat.le_trans Z0 E96.1
      have V96 : Arv Z h96 b96 kc96 .char (7 : Int32) [(.int (0 : Int32)), (.int (0 : Int32)), (.int (0 : Int32)), (.int (0 : Int32)), (.int (0 : Int32)), (.int (0 : Int32)), (.int (0 : Int32))] (.int (0 : Int32)) := (Arv.new A96 (by decide)).pad (pad_rep [] (.int (0 : Int32)) 7)
      refine own_by st96 ?_
      have sg102 : ∀ t, own_S p e below T96 (mkF m 102 (own_AIIUUUU p0 v6) [(.int (100 : Int32)), (.int (0 : Int32)), (.ref b96), (.ref b96)]) t → own_S p e below T96 (mkF m 98 (own_AIIUUUU p0 v6) [(.ref b96)]) t := by
        intro t k
        show own_S p e below T96 (mkF m 98 (own_AIIUUUU p0 v6) [(.ref b96)]) _
        refine XS.dup X96.here hx rfl (hb hby at_98) rfl rfl ?_
        show own_S p e below T96 (mkF m 99 (own_AIIUUUU p0 v6) [(.ref b96), (.ref b96)]) _
        refine XS.iconst X96.here hx rfl (hb hby at_99) ?_
        show own_S p e below T96 (mkF m 100 (own_AIIUUUU p0 v6) [(.int (0 : Int32)), (.ref b96), (.ref b96)]) _
        refine XS.bipush X96.here hx rfl (hb hby at_100) ?_
        exact k
      refine own_by sg102 ?_
      obtain ⟨cl102, Ar102, qa102, Sa102, Na102, Ha102, Ga102⟩ := id V96
      obtain ⟨T102, h102, X102, e102, W102, st102⟩ := stC X96 hx hZ e96 Ar102 (j := (0 : Int32)) (inb_of Sa102 ⟨by decide, by decide⟩) (g := (mkF m 102 (own_AIIUUUU p0 v6) [(.int (100 : Int32)), (.int (0 : Int32)), (.ref b96), (.ref b96)])) rfl rfl (hb hby at_102)
      have V102 : Arv Z h102 b96 kc96 .char (7 : Int32) [(.int (100 : Int32)), (.int (0 : Int32)), (.int (0 : Int32)), (.int (0 : Int32)), (.int (0 : Int32)), (.int (0 : Int32)), (.int (0 : Int32))] (.int (0 : Int32)) := by
        have q := Arv.set Ar102 qa102 Sa102 Na102 Ha102 Ga102 (fits_nar_char _) W102 0 rfl (Nat.le_of_ble_eq_true rfl)
        exact q
      have K102 : Keep h0 h102 [] := K96.wr W102 (Or.inr sz_b96)
      have Z102 : n0 ≤ h102.size := Nat.le_trans Z96 (Keep.of_wr W102).1
      have N102 := Fr.snoc X102 N0 g_b96
      refine own_by st102 ?_
      have sg107 : ∀ t, own_S p e below T102 (mkF m 107 (own_AIIUUUU p0 v6) [(.int (121 : Int32)), (.int (1 : Int32)), (.ref b96), (.ref b96)]) t → own_S p e below T102 (mkF m 103 (own_AIIUUUU p0 v6) [(.ref b96)]) t := by
        intro t k
        show own_S p e below T102 (mkF m 103 (own_AIIUUUU p0 v6) [(.ref b96)]) _
        refine XS.dup X102.here hx rfl (hb hby at_103) rfl rfl ?_
        show own_S p e below T102 (mkF m 104 (own_AIIUUUU p0 v6) [(.ref b96), (.ref b96)]) _
        refine XS.iconst X102.here hx rfl (hb hby at_104) ?_
        show own_S p e below T102 (mkF m 105 (own_AIIUUUU p0 v6) [(.int (1 : Int32)), (.ref b96), (.ref b96)]) _
        refine XS.bipush X102.here hx rfl (hb hby at_105) ?_
        exact k
      refine own_by sg107 ?_
      obtain ⟨cl107, Ar107, qa107, Sa107, Na107, Ha107, Ga107⟩ := id V102
      obtain ⟨T107, h107, X107, e107, W107, st107⟩ := stC X102 hx hZ e102 Ar107 (j := (1 : Int32)) (inb_of Sa107 ⟨by decide, by decide⟩) (g := (mkF m 107 (own_AIIUUUU p0 v6) [(.int (121 : Int32)), (.int (1 : Int32)), (.ref b96), (.ref b96)])) rfl rfl (hb hby at_107)
      have V107 : Arv Z h107 b96 kc96 .char (7 : Int32) [(.int (100 : Int32)), (.int (121 : Int32)), (.int (0 : Int32)), (.int (0 : Int32)), (.int (0 : Int32)), (.int (0 : Int32)), (.int (0 : Int32))] (.int (0 : Int32)) := by
        have q := Arv.set Ar107 qa107 Sa107 Na107 Ha107 Ga107 (fits_nar_char _) W107 1 rfl (Nat.le_of_ble_eq_true rfl)
        exact q
      have K107 : Keep h0 h107 [] := K102.wr W107 (Or.inr sz_b96)
      have Z107 : n0 ≤ h107.size := Nat.le_trans Z102 (Keep.of_wr W107).1
      have N107 := Fr.snoc X107 N102 g_b96
      refine own_by st107 ?_
      have sg112 : ∀ t, own_S p e below T107 (mkF m 112 (own_AIIUUUU p0 v6) [(.int (110 : Int32)), (.int (2 : Int32)), (.ref b96), (.ref b96)]) t → own_S p e below T107 (mkF m 108 (own_AIIUUUU p0 v6) [(.ref b96)]) t := by
        intro t k
        show own_S p e below T107 (mkF m 108 (own_AIIUUUU p0 v6) [(.ref b96)]) _
        refine XS.dup X107.here hx rfl (hb hby at_108) rfl rfl ?_
        show own_S p e below T107 (mkF m 109 (own_AIIUUUU p0 v6) [(.ref b96), (.ref b96)]) _
        refine XS.iconst X107.here hx rfl (hb hby at_109) ?_
        show own_S p e below T107 (mkF m 110 (own_AIIUUUU p0 v6) [(.int (2 : Int32)), (.ref b96), (.ref b96)]) _
        refine XS.bipush X107.here hx rfl (hb hby at_110) ?_
        exact k
      refine own_by sg112 ?_
      obtain ⟨cl112, Ar112, qa112, Sa112, Na112, Ha112, Ga112⟩ := id V107
      obtain ⟨T112, h112, X112, e112, W112, st112⟩ := stC X107 hx hZ e107 Ar112 (j := (2 : Int32)) (inb_of Sa112 ⟨by decide, by decide⟩) (g := (mkF m 112 (own_AIIUUUU p0 v6) [(.int (110 : Int32)), (.int (2 : Int32)), (.ref b96), (.ref b96)])) rfl rfl (hb hby at_112)
      have V112 : Arv Z h112 b96 kc96 .char (7 : Int32) [(.int (100 : Int32)), (.int (121 : Int32)), (.int (110 : Int32)), (.int (0 : Int32)), (.int (0 : Int32)), (.int (0 : Int32)), (.int (0 : Int32))] (.int (0 : Int32)) := by
        have q := Arv.set Ar112 qa112 Sa112 Na112 Ha112 Ga112 (fits_nar_char _) W112 2 rfl (Nat.le_of_ble_eq_true rfl)
        exact q
      have K112 : Keep h0 h112 [] := K107.wr W112 (Or.inr sz_b96)
      have Z112 : n0 ≤ h112.size := Nat.le_trans Z107 (Keep.of_wr W112).1
      have N112 := Fr.snoc X112 N107 g_b96
      refine own_by st112 ?_
      have sg117 : ∀ t, own_S p e below T112 (mkF m 117 (own_AIIUUUU p0 v6) [(.int (97 : Int32)), (.int (3 : Int32)), (.ref b96), (.ref b96)]) t → own_S p e below T112 (mkF m 113 (own_AIIUUUU p0 v6) [(.ref b96)]) t := by
        intro t k
        show own_S p e below T112 (mkF m 113 (own_AIIUUUU p0 v6) [(.ref b96)]) _
        refine XS.dup X112.here hx rfl (hb hby at_113) rfl rfl ?_
        show own_S p e below T112 (mkF m 114 (own_AIIUUUU p0 v6) [(.ref b96), (.ref b96)]) _
        refine XS.iconst X112.here hx rfl (hb hby at_114) ?_
        show own_S p e below T112 (mkF m 115 (own_AIIUUUU p0 v6) [(.int (3 : Int32)), (.ref b96), (.ref b96)]) _
        refine XS.bipush X112.here hx rfl (hb hby at_115) ?_
        exact k
      refine own_by sg117 ?_
      obtain ⟨cl117, Ar117, qa117, Sa117, Na117, Ha117, Ga117⟩ := id V112
      obtain ⟨T117, h117, X117, e117, W117, st117⟩ := stC X112 hx hZ e112 Ar117 (j := (3 : Int32)) (inb_of Sa117 ⟨by decide, by decide⟩) (g := (mkF m 117 (own_AIIUUUU p0 v6) [(.int (97 : Int32)), (.int (3 : Int32)), (.ref b96), (.ref b96)])) rfl rfl (hb hby at_117)
      have V117 : Arv Z h117 b96 kc96 .char (7 : Int32) [(.int (100 : Int32)), (.int (121 : Int32)), (.int (110 : Int32)), (.int (97 : Int32)), (.int (0 : Int32)), (.int (0 : Int32)), (.int (0 : Int32))] (.int (0 : Int32)) := by
        have q := Arv.set Ar117 qa117 Sa117 Na117 Ha117 Ga117 (fits_nar_char _) W117 3 rfl (Nat.le_of_ble_eq_true rfl)
        exact q
      have K117 : Keep h0 h117 [] := K112.wr W117 (Or.inr sz_b96)
      have Z117 : n0 ≤ h117.size := Nat.le_trans Z112 (Keep.of_wr W117).1
      have N117 := Fr.snoc X117 N112 g_b96
      refine own_by st117 ?_
      have sg122 : ∀ t, own_S p e below T117 (mkF m 122 (own_AIIUUUU p0 v6) [(.int (109 : Int32)), (.int (4 : Int32)), (.ref b96), (.ref b96)]) t → own_S p e below T117 (mkF m 118 (own_AIIUUUU p0 v6) [(.ref b96)]) t := by
        intro t k
        show own_S p e below T117 (mkF m 118 (own_AIIUUUU p0 v6) [(.ref b96)]) _
        refine XS.dup X117.here hx rfl (hb hby at_118) rfl rfl ?_
        show own_S p e below T117 (mkF m 119 (own_AIIUUUU p0 v6) [(.ref b96), (.ref b96)]) _
        refine XS.iconst X117.here hx rfl (hb hby at_119) ?_
        show own_S p e below T117 (mkF m 120 (own_AIIUUUU p0 v6) [(.int (4 : Int32)), (.ref b96), (.ref b96)]) _
        refine XS.bipush X117.here hx rfl (hb hby at_120) ?_
        exact k
      refine own_by sg122 ?_
      obtain ⟨cl122, Ar122, qa122, Sa122, Na122, Ha122, Ga122⟩ := id V117
      obtain ⟨T122, h122, X122, e122, W122, st122⟩ := stC X117 hx hZ e117 Ar122 (j := (4 : Int32)) (inb_of Sa122 ⟨by decide, by decide⟩) (g := (mkF m 122 (own_AIIUUUU p0 v6) [(.int (109 : Int32)), (.int (4 : Int32)), (.ref b96), (.ref b96)])) rfl rfl (hb hby at_122)
      have V122 : Arv Z h122 b96 kc96 .char (7 : Int32) [(.int (100 : Int32)), (.int (121 : Int32)), (.int (110 : Int32)), (.int (97 : Int32)), (.int (109 : Int32)), (.int (0 : Int32)), (.int (0 : Int32))] (.int (0 : Int32)) := by
        have q := Arv.set Ar122 qa122 Sa122 Na122 Ha122 Ga122 (fits_nar_char _) W122 4 rfl (Nat.le_of_ble_eq_true rfl)
        exact q
      have K122 : Keep h0 h122 [] := K117.wr W122 (Or.inr sz_b96)
      have Z122 : n0 ≤ h122.size := Nat.le_trans Z117 (Keep.of_wr W122).1
      have N122 := Fr.snoc X122 N117 g_b96
      refine own_by st122 ?_
      have sg127 : ∀ t, own_S p e below T122 (mkF m 127 (own_AIIUUUU p0 v6) [(.int (105 : Int32)), (.int (5 : Int32)), (.ref b96), (.ref b96)]) t → own_S p e below T122 (mkF m 123 (own_AIIUUUU p0 v6) [(.ref b96)]) t := by
        intro t k
        show own_S p e below T122 (mkF m 123 (own_AIIUUUU p0 v6) [(.ref b96)]) _
        refine XS.dup X122.here hx rfl (hb hby at_123) rfl rfl ?_
        show own_S p e below T122 (mkF m 124 (own_AIIUUUU p0 v6) [(.ref b96), (.ref b96)]) _
        refine XS.iconst X122.here hx rfl (hb hby at_124) ?_
        show own_S p e below T122 (mkF m 125 (own_AIIUUUU p0 v6) [(.int (5 : Int32)), (.ref b96), (.ref b96)]) _
        refine XS.bipush X122.here hx rfl (hb hby at_125) ?_
        exact k
      refine own_by sg127 ?_
      obtain ⟨cl127, Ar127, qa127, Sa127, Na127, Ha127, Ga127⟩ := id V122
      obtain ⟨T127, h127, X127, e127, W127, st127⟩ := stC X122 hx hZ e122 Ar127 (j := (5 : Int32)) (inb_of Sa127 ⟨by decide, by decide⟩) (g := (mkF m 127 (own_AIIUUUU p0 v6) [(.int (105 : Int32)), (.int (5 : Int32)), (.ref b96), (.ref b96)])) rfl rfl (hb hby at_127)
      have V127 : Arv Z h127 b96 kc96 .char (7 : Int32) [(.int (100 : Int32)), (.int (121 : Int32)), (.int (110 : Int32)), (.int (97 : Int32)), (.int (109 : Int32)), (.int (105 : Int32)), (.int (0 : Int32))] (.int (0 : Int32)) := by
        have q := Arv.set Ar127 qa127 Sa127 Na127 Ha127 Ga127 (fits_nar_char _) W127 5 rfl (Nat.le_of_ble_eq_true rfl)
        exact q
      have K127 : Keep h0 h127 [] := K122.wr W127 (Or.inr sz_b96)
      have Z127 : n0 ≤ h127.size := Nat.le_trans Z122 (Keep.of_wr W127).1
      have N127 := Fr.snoc X127 N122 g_b96
      refine own_by st127 ?_
      have sg133 : ∀ t, own_S p e below T127 (mkF m 133 (own_AIIUUUU p0 v6) [(.int (99 : Int32)), (.int (6 : Int32)), (.ref b96), (.ref b96)]) t → own_S p e below T127 (mkF m 128 (own_AIIUUUU p0 v6) [(.ref b96)]) t := by
        intro t k
        show own_S p e below T127 (mkF m 128 (own_AIIUUUU p0 v6) [(.ref b96)]) _
        refine XS.dup X127.here hx rfl (hb hby at_128) rfl rfl ?_
        show own_S p e below T127 (mkF m 129 (own_AIIUUUU p0 v6) [(.ref b96), (.ref b96)]) _
        refine XS.bipush X127.here hx rfl (hb hby at_129) ?_
        show own_S p e below T127 (mkF m 131 (own_AIIUUUU p0 v6) [(.int (6 : Int32)), (.ref b96), (.ref b96)]) _
        refine XS.bipush X127.here hx rfl (hb hby at_131) ?_
        exact k
      refine own_by sg133 ?_
      obtain ⟨cl133, Ar133, qa133, Sa133, Na133, Ha133, Ga133⟩ := id V127
      obtain ⟨T133, h133, X133, e133, W133, st133⟩ := stC X127 hx hZ e127 Ar133 (j := (6 : Int32)) (inb_of Sa133 ⟨by decide, by decide⟩) (g := (mkF m 133 (own_AIIUUUU p0 v6) [(.int (99 : Int32)), (.int (6 : Int32)), (.ref b96), (.ref b96)])) rfl rfl (hb hby at_133)
      have V133 : Arv Z h133 b96 kc96 .char (7 : Int32) [(.int (100 : Int32)), (.int (121 : Int32)), (.int (110 : Int32)), (.int (97 : Int32)), (.int (109 : Int32)), (.int (105 : Int32)), (.int (99 : Int32))] (.int (0 : Int32)) := by
        have q := Arv.set Ar133 qa133 Sa133 Na133 Ha133 Ga133 (fits_nar_char _) W133 6 rfl (Nat.le_of_ble_eq_true rfl)
        exact q
      have K133 : Keep h0 h133 [] := K127.wr W133 (Or.inr sz_b96)
      have Z133 : n0 ≤ h133.size := Nat.le_trans Z127 (Keep.of_wr W133).1
      have N133 := Fr.snoc X133 N127 g_b96
      refine own_by st133 ?_
      have sg135 : ∀ t, own_S p e below T133 (mkF m 135 (own_AIIRUUU p0 v6 b96) []) t → own_S p e below T133 (mkF m 134 (own_AIIUUUU p0 v6) [(.ref b96)]) t := by
        intro t k
        show own_S p e below T133 (mkF m 134 (own_AIIUUUU p0 v6) [(.ref b96)]) _
        refine XS.astoreN X133.here hx rfl (hb hby at_134) rfl rfl (l' := (own_AIIRUUU p0 v6 b96)) rfl ?_
        exact k
      refine own_by sg135 ?_
      obtain ⟨T135, X135, e135, st135⟩ := getS2 X133 hx hZ hown (host := "") (Or.inl (hw _ (List.mem_of_getElem? (i := 72) rfl))) Via.refl e133 (S_DYNAMIC.ext ((((((((O.ext E96).wr W102 g_b96).wr W107 g_b96).wr W112 g_b96).wr W117 g_b96).wr W122 g_b96).wr W127 g_b96).wr W133 g_b96).2) (g := (mkF m 135 (own_AIIRUUU p0 v6 b96) [])) rfl (hb hby at_135)
      refine own_by st135 ?_
      have sg139 : ∀ t, own_S p e below T135 (mkF m 139 (own_AIIRRUU p0 v6 b96 wDYNAMIC) []) t → own_S p e below T135 (mkF m 138 (own_AIIRUUU p0 v6 b96) [(.ref wDYNAMIC)]) t := by
        intro t k
        show own_S p e below T135 (mkF m 138 (own_AIIRUUU p0 v6 b96) [(.ref wDYNAMIC)]) _
        refine XS.astoreN X135.here hx rfl (hb hby at_138) rfl rfl (l' := (own_AIIRRUU p0 v6 b96 wDYNAMIC)) rfl ?_
        exact k
      refine own_by sg139 ?_
      obtain ⟨T139, h139, X139, e139, E139, A139, D139, -, st139⟩ := newO X135 hx hZ hown (hw _ (List.mem_of_getElem? (i := 5) rfl)) (hw _ (List.mem_of_getElem? (i := 6) rfl)) (hw _ (List.mem_of_getElem? (i := 7) rfl)) e135 (g := (mkF m 139 (own_AIIRRUU p0 v6 b96 wDYNAMIC) [])) rfl (hb hby at_139) (by decide) (by decide)
      obtain ⟨b139, g139⟩ : ∃ z, z = h133.size := ⟨_, rfl⟩
      rw [← g139] at A139 D139 st139
      have ne_b96_b139 : b96 ≠ b139 := Nat.ne_of_lt (Nat.lt_of_lt_of_le V133.lt (Nat.le_of_eq g139.symm))
      have g_b139 : n0 ≤ b139 := Nat.le_trans Z133 (Nat.le_of_eq g139.symm)
      have sz_b139 : h0.size ≤ b139 := Nat.le_trans K133.1 (Nat.le_of_eq g139.symm)
      have K139 := K133.ext E139
      have Z139 : n0 ≤ h139.size := Nat.le_trans Z133 E139.1
      have F_coder_b139 : Fld Z h139 b139 "java/lang/String" "coder" "B" (.int (0 : Int32)) := D139 (Or.inr (hw _ (List.mem_of_getElem? (i := 31) rfl))) (ty := .byte) (by decide)
      have F_value_b139 : Fld Z h139 b139 "java/lang/String" "value" "[B" .null := D139 (Or.inr (hw _ (List.mem_of_getElem? (i := 33) rfl))) (ty := (.array .byte)) (by decide)
      refine own_by st139 ?_
      have sg144 : ∀ t, own_S p e below T139 (mkF m 144 (own_AIIRRUU p0 v6 b96 wDYNAMIC) [(.ref b96), (.ref b139), (.ref b139)]) t → own_S p e below T139 (mkF m 142 (own_AIIRRUU p0 v6 b96 wDYNAMIC) [(.ref b139)]) t := by
        intro t k
        show own_S p e below T139 (mkF m 142 (own_AIIRRUU p0 v6 b96 wDYNAMIC) [(.ref b139)]) _
        refine XS.dup X139.here hx rfl (hb hby at_142) rfl rfl ?_
        show own_S p e below T139 (mkF m 143 (own_AIIRRUU p0 v6 b96 wDYNAMIC) [(.ref b139), (.ref b139)]) _
        refine XS.aloadN X139.here hx rfl (hb hby at_143) rfl rfl ?_
        exact k
      refine own_by sg144 ?_
      have hp144 : ∀ c ∈ ([(100 : Int32), (121 : Int32), (110 : Int32), (97 : Int32), (109 : Int32), (105 : Int32), (99 : Int32)] : List Int32), ¬ c < 0 ∧ ¬ (255 : Int32) < c := by
        intro c hc
        simp only [List.mem_cons, List.not_mem_nil, or_false] at hc
        rcases hc with rfl | rfl | rfl | rfl | rfl | rfl | rfl
        · exact (by decide)
        · exact (by decide)
        · exact (by decide)
        · exact (by decide)
        · exact (by decide)
        · exact (by decide)
        · exact (by decide)
      obtain ⟨_, _, ⟨T144, L144, k144, n144⟩, -, X144, ⟨Lc144, hQ144, l144, y144, z144⟩, st144⟩ := X139.specialBack hx (y := (⟨"java/lang/String", "<init>", "([C)V"⟩ : MethodName)) rfl hown (mvT hZ (hw _ (List.mem_of_getElem? (i := 8) rfl))) (mvT hZ (hw _ (List.mem_of_getElem? (i := 9) rfl))) (mvT hZ (hw _ (List.mem_of_getElem? (i := 10) rfl))) (by decide) (StrChars.Road.backV (W := 1) hZ hws (kI := 4) (hw _ (List.mem_of_getElem? (i := 6) rfl)) (cs := ([(100 : Int32), (121 : Int32), (110 : Int32), (97 : Int32), (109 : Int32), (105 : Int32), (99 : Int32)] : List Int32)) (bs := ([(100 : Int32), (121 : Int32), (110 : Int32), (97 : Int32), (109 : Int32), (105 : Int32), (99 : Int32)] : List Int32).map (fun c => c.toInt8.toInt32)) (n := 7) g_b139 Z139 A139 F_value_b139 F_coder_b139 (V133.ext E139) (O2.ext (((((((((O.ext E96).wr W102 g_b96).wr W107 g_b96).wr W112 g_b96).wr W117 g_b96).wr W122 g_b96).wr W127 g_b96).wr W133 g_b96).ext E139).2) P5 rfl rfl (by decide) (by decide) hp144 rfl (by decide) (by decide)) (g := (mkF m 144 (own_AIIRRUU p0 v6 b96 wDYNAMIC) [(.ref b96), (.ref b139), (.ref b139)])) rfl (by rw [hml]; rfl) (Steps.refl _) (a := b139) (argsL := [(.ref b96)]) (rest := [(.ref b139)]) (lenOf pd_0_0 rfl) rfl (by show 2 * 0 + _ ≤ _; exact Nat.le_of_eq rfl) (hb hby at_144) (fun _ _ => ⟨rfl, e139, (by decide : 2 + 1 ≤ _), (by decide : 11 + 7 ≤ _)⟩)
      dsimp only [Pt.U, Pt.locs, Pt.cells, Pt.slots] at X144 l144 y144 z144 st144 hQ144
      subst l144 y144 z144
      obtain ⟨rfl, N144q, Kq144, Eq144, Cq144, t144, kb144, u1144, u2144, u3144, Vq144, Aq144⟩ := hQ144
      have N144 := Fr.app N133 N144q
      have ne_b96_t144 : b96 ≠ t144 := Nat.ne_of_lt (Nat.lt_of_lt_of_le (V133.ext E139).lt u2144)
      have ne_b139_t144 : b139 ≠ t144 := Nat.ne_of_lt (Nat.lt_of_lt_of_le A139.lt u2144)
      have g_t144 : n0 ≤ t144 := Nat.le_trans Z139 u2144
      have sz_t144 : h0.size ≤ t144 := Nat.le_trans K139.1 u2144
      have fc := ((V133.ext E139).keep Kq144 (fun h => ne_b96_b139 (List.mem_singleton.mp h)))
      have K144 : Keep h0 T144.heap [] := K139.trans Kq144 (fun x hx => by cases List.mem_singleton.mp hx; exact Or.inr sz_b139)
      have Z144 : n0 ≤ T144.heap.size := Nat.le_trans Z139 Kq144.1
      refine own_by (fun t k => st144.trans k) ?_
      have sg151 : ∀ t, own_S p e below T144 (mkF m 151 (own_AIIRRRU p0 v6 b96 wDYNAMIC b139) [(.ref b139)]) t → own_S p e below T144 (mkF m 147 (own_AIIRRUU p0 v6 b96 wDYNAMIC) [(.ref b139)]) t := by
        intro t k
        show own_S p e below T144 (mkF m 147 (own_AIIRRUU p0 v6 b96 wDYNAMIC) [(.ref b139)]) _
        refine XS.astore X144.here hx rfl (hb hby at_147) rfl rfl (l' := (own_AIIRRRU p0 v6 b96 wDYNAMIC b139)) rfl ?_
        show own_S p e below T144 (mkF m 149 (own_AIIRRRU p0 v6 b96 wDYNAMIC b139) []) _
        refine XS.aload X144.here hx rfl (hb hby at_149) rfl rfl ?_
        exact k
      refine own_by sg151 ?_
      obtain ⟨_, _, ⟨T151, L151, k151, n151⟩, -, X151, ⟨Lc151, hQ151, l151, y151, z151⟩, st151⟩ := Jvm.LawKit.callS X144 hx (y := (⟨"com/example/writd/writd/model/ClientSource", "parse", "(Ljava/lang/String;)Lcom/example/writd/writd/model/ClientSource;"⟩ : MethodName)) hown (mvT hZ (hw _ (List.mem_of_getElem? (i := 34) rfl))) (mvT hZ (hw _ (List.mem_of_getElem? (i := 35) rfl))) (mvT hZ (hw _ (List.mem_of_getElem? (i := 3) rfl))) (mvT hZ (hw _ (List.mem_of_getElem? (i := 36) rfl))) (by decide) (backOf (W := 0) (rm7 l Z a0 hw [] b139 ([(100 : Int32), (121 : Int32), (110 : Int32), (97 : Int32), (109 : Int32), (105 : Int32), (99 : Int32)] : List Int32) wV cl wSTATIC wADMIN wDYNAMIC sSTATIC sADMIN sDYNAMIC gz T144.heap n0 Z144 ((((((((((O.ext E96).wr W102 g_b96).wr W107 g_b96).wr W112 g_b96).wr W117 g_b96).wr W122 g_b96).wr W127 g_b96).wr W133 g_b96).ext E139).keep Kq144 (allS g_b139 all0)) O2 P5 S_V Ar_V E_V FC hsz hat0 hat1 hat2 FV_STATIC FV_ADMIN FV_DYNAMIC EX_STATIC EX_ADMIN EX_DYNAMIC Str_STATIC Str_ADMIN Str_DYNAMIC (⟨t144, kb144, 0, (7 : Int32), _, Eq144, Vq144, Cq144, Aq144, StrChars.Road.codOf (n := 7) rfl (fun x hx => (hp144 x hx).2), own_up _ hp144, Nat.le_of_ble_eq_true rfl⟩ : own_Str Z T144.heap b139 ([(100 : Int32), (121 : Int32), (110 : Int32), (97 : Int32), (109 : Int32), (105 : Int32), (99 : Int32)] : List Int32)) (Or.inr (Or.inr rfl))) hZ (hw _ (List.mem_of_getElem? (i := 36) rfl)) (hw _ (List.mem_of_getElem? (i := 3) rfl)) (by decide) (by decide)) (g := (mkF m 151 (own_AIIRRRU p0 v6 b96 wDYNAMIC b139) [(.ref b139)])) rfl (by rw [hml]; rfl) (argsL := [(.ref b139)]) (rest := []) (lenOf pd_0_1 rfl) rfl (by show 2 * 0 + _ ≤ _; exact Nat.le_of_eq rfl) (hb hby at_151) (fun _ _ => ⟨rfl, rfl, (by decide : 3 + 1 ≤ _), (by decide : 18 + 3 ≤ _)⟩)
      dsimp only [Pt.U, Pt.locs, Pt.cells, Pt.slots] at X151 l151 y151 z151 st151 hQ151
      subst l151 y151 z151
      obtain ⟨rfl, N151q, Kq151⟩ := hQ151
      have N151 := Fr.app N144 N151q
      have K151 : Keep h0 T151.heap [] := K144.trans Kq151 (fun x hx => nomatch hx)
      have Z151 : n0 ≤ T151.heap.size := Nat.le_trans Z144 Kq151.1
      rw [if_neg (by decide : ¬ ([(115 : Int32), (116 : Int32), (97 : Int32), (116 : Int32), (105 : Int32), (99 : Int32)] : List Int32) = ([(100 : Int32), (121 : Int32), (110 : Int32), (97 : Int32), (109 : Int32), (105 : Int32), (99 : Int32)] : List Int32)), if_neg (by decide : ¬ ([(97 : Int32), (100 : Int32), (109 : Int32), (105 : Int32), (110 : Int32)] : List Int32) = ([(100 : Int32), (121 : Int32), (110 : Int32), (97 : Int32), (109 : Int32), (105 : Int32), (99 : Int32)] : List Int32))] at st151
      refine own_by st151 ?_
      have sg164 : ∀ t, own_S p e below T151 (mkF m 164 (own_AIIRRRR p0 v6 b96 wDYNAMIC b139 wDYNAMIC) [(.ref wDYNAMIC)]) t → own_S p e below T151 (mkF m 154 (own_AIIRRRU p0 v6 b96 wDYNAMIC b139) [(.ref wDYNAMIC)]) t := by
        intro t k
        show own_S p e below T151 (mkF m 154 (own_AIIRRRU p0 v6 b96 wDYNAMIC b139) [(.ref wDYNAMIC)]) _
        refine XS.astore X151.here hx rfl (hb hby at_154) rfl rfl (l' := (own_AIIRRRR p0 v6 b96 wDYNAMIC b139 wDYNAMIC)) rfl ?_
        show own_S p e below T151 (mkF m 156 (own_AIIRRRR p0 v6 b96 wDYNAMIC b139 wDYNAMIC) []) _
        refine XS.aload X151.here hx rfl (hb hby at_156) rfl rfl ?_
        show own_S p e below T151 (mkF m 158 (own_AIIRRRR p0 v6 b96 wDYNAMIC b139 wDYNAMIC) [(.ref wDYNAMIC)]) _
        refine XS.aloadN X151.here hx rfl (hb hby at_158) rfl rfl ?_
        show own_S p e below T151 (mkF m 159 (own_AIIRRRR p0 v6 b96 wDYNAMIC b139 wDYNAMIC) [(.ref wDYNAMIC), (.ref wDYNAMIC)]) _
        refine Jvm.RoadKit.acmp (g := (mkF m 159 (own_AIIRRRR p0 v6 b96 wDYNAMIC b139 wDYNAMIC) [(.ref wDYNAMIC), (.ref wDYNAMIC)])) X151 hx rfl rfl rfl (pc0 := 159) (pc' := 162) (same := true) rfl (hb hby at_159) rfl (decide_eq_true (congrArg Value.ref (rfl : wDYNAMIC = wDYNAMIC))) (by decide) (by decide) ?_
        show own_S p e below T151 (mkF m 162 (own_AIIRRRR p0 v6 b96 wDYNAMIC b139 wDYNAMIC) []) _
        refine XS.aload X151.here hx rfl (hb hby at_162) rfl rfl ?_
        exact k
      refine own_by sg164 ?_
      obtain ⟨cq164, kq164, q164a, q164b, q164c⟩ := isOf hZ rfl (E_DYNAMIC.ext (((((((((((O.ext E96).wr W102 g_b96).wr W107 g_b96).wr W112 g_b96).wr W117 g_b96).wr W122 g_b96).wr W127 g_b96).wr W133 g_b96).ext E139).keep Kq144 (allS g_b139 all0)).keep Kq151 all0).2)
      obtain ⟨_, _, ⟨T164, L164, k164, n164⟩, -, X164, ⟨Lc164, hQ164, l164, y164, z164⟩, st164⟩ := X151.virtualBack hx (y := (⟨"com/example/writd/writd/model/ClientSource", "value", "()Ljava/lang/String;"⟩ : MethodName)) (z := (⟨"com/example/writd/writd/model/ClientSource", "value", "()Ljava/lang/String;"⟩ : MethodName)) hown (mvT hZ (hw _ (List.mem_of_getElem? (i := 66) rfl))) (mvT hZ (hw _ (List.mem_of_getElem? (i := 67) rfl))) (notFace_of_selects (args := #[]) (mvT hZ (hw _ (List.mem_of_getElem? (i := 69) rfl)))) (mvT hZ (hw _ (List.mem_of_getElem? (i := 69) rfl))) (mvT hZ (hw _ (List.mem_of_getElem? (i := 68) rfl))) (by decide) (backOf (W := 0) (rm11 l Z a0 hw [] wDYNAMIC sDYNAMIC T151.heap n0 Z151 (FV_DYNAMIC.ext (((((((((((O.ext E96).wr W102 g_b96).wr W107 g_b96).wr W112 g_b96).wr W117 g_b96).wr W122 g_b96).wr W127 g_b96).wr W133 g_b96).ext E139).keep Kq144 (allS g_b139 all0)).keep Kq151 all0).2)) hZ (hw _ (List.mem_of_getElem? (i := 70) rfl)) (hw _ (List.mem_of_getElem? (i := 3) rfl)) (by decide) (by decide)) q164a q164c (g := (mkF m 164 (own_AIIRRRR p0 v6 b96 wDYNAMIC b139 wDYNAMIC) [(.ref wDYNAMIC)])) rfl (by rw [hml]; rfl) (Steps.refl _) (argsL := []) (rest := []) (lenOf pd_0_2 rfl) rfl (by show 2 * 0 + _ ≤ _; exact Nat.le_of_eq rfl) (hb hby at_164) (fun _ _ => ⟨rfl, rfl, (by decide : 4 + 0 ≤ _), (by decide : 21 + 0 ≤ _)⟩)
      dsimp only [Pt.U, Pt.locs, Pt.cells, Pt.slots] at X164 l164 y164 z164 st164 hQ164
      subst l164 y164 z164
      obtain ⟨rfl, N164q, hq164⟩ := hQ164
      have N164 := Fr.app N151 N164q
      refine own_by (fun t k => st164.trans k) ?_
      have sg169 : ∀ t, own_S p e below T164 (mkF m 169 (own_AIIRRRR p0 v6 b96 wDYNAMIC b139 wDYNAMIC) [(.ref b139), (.ref sDYNAMIC)]) t → own_S p e below T164 (mkF m 167 (own_AIIRRRR p0 v6 b96 wDYNAMIC b139 wDYNAMIC) [(.ref sDYNAMIC)]) t := by
        intro t k
        show own_S p e below T164 (mkF m 167 (own_AIIRRRR p0 v6 b96 wDYNAMIC b139 wDYNAMIC) [(.ref sDYNAMIC)]) _
        refine XS.aload X164.here hx rfl (hb hby at_167) rfl rfl ?_
        exact k
      refine own_by sg169 ?_
      obtain ⟨tx169, kx169, dx169, nx169, vx169, xe169, xv169, xc169, xk169, xh169, xb169, xl169⟩ := id (Str_DYNAMIC.ext (((((((((((O.ext E96).wr W102 g_b96).wr W107 g_b96).wr W112 g_b96).wr W117 g_b96).wr W122 g_b96).wr W127 g_b96).wr W133 g_b96).ext E139).keep Kq144 (allS g_b139 all0)).keep Kq151 all0).2)
      obtain ⟨ty169, ky169, dy169, ny169, vy169, ye169, yv169, yc169, yk169, yh169, yb169, yl169⟩ := id (⟨t144, kb144, 0, (7 : Int32), _, (Eq144.keep Kq151), (Vq144.keep Kq151 List.not_mem_nil), (Cq144.keep Kq151 List.not_mem_nil), (Aq144.keep Kq151 List.not_mem_nil), StrChars.Road.codOf (n := 7) rfl (fun x hx => (hp144 x hx).2), own_up _ hp144, Nat.le_of_ble_eq_true rfl⟩ : own_Str Z T151.heap b139 ([(100 : Int32), (121 : Int32), (110 : Int32), (97 : Int32), (109 : Int32), (105 : Int32), (99 : Int32)] : List Int32))
      obtain ⟨cq169, kq169, q169a, q169b, q169c⟩ := isOf hZ hq164 (EX_DYNAMIC.ext (((((((((((O.ext E96).wr W102 g_b96).wr W107 g_b96).wr W112 g_b96).wr W117 g_b96).wr W122 g_b96).wr W127 g_b96).wr W133 g_b96).ext E139).keep Kq144 (allS g_b139 all0)).keep Kq151 all0).2)
      obtain ⟨_, _, ⟨T169, L169, k169, n169⟩, -, X169, ⟨Lc169, hQ169, l169, y169, z169⟩, st169⟩ := X164.virtualBack hx (y := (⟨"java/lang/String", "equals", "(Ljava/lang/Object;)Z"⟩ : MethodName)) (z := (⟨"java/lang/String", "equals", "(Ljava/lang/Object;)Z"⟩ : MethodName)) hown (mvT hZ (hw _ (List.mem_of_getElem? (i := 71) rfl))) (mvT hZ (hw _ (List.mem_of_getElem? (i := 57) rfl))) (notFace_of_selects (args := #[]) (mvT hZ (hw _ (List.mem_of_getElem? (i := 59) rfl)))) (mvT hZ (hw _ (List.mem_of_getElem? (i := 59) rfl))) (mvT hZ (hw _ (List.mem_of_getElem? (i := 58) rfl))) (by decide) (StrChars.Road.eqW (W := 0) hZ heq (kI := 4) (hw _ (List.mem_of_getElem? (i := 6) rfl)) xe169 xv169 xc169 xk169 xh169 xb169 xl169 ye169 yv169 yc169 yk169 yh169 yb169 yl169 (O2.ext (((((((((((O.ext E96).wr W102 g_b96).wr W107 g_b96).wr W112 g_b96).wr W117 g_b96).wr W122 g_b96).wr W127 g_b96).wr W133 g_b96).ext E139).keep Kq144 (allS g_b139 all0)).keep Kq151 all0).2) P5 (by decide) (by decide)) q169a q169c (g := (mkF m 169 (own_AIIRRRR p0 v6 b96 wDYNAMIC b139 wDYNAMIC) [(.ref b139), (.ref sDYNAMIC)])) rfl (by rw [hml]; rfl) (Steps.refl _) (argsL := [(.ref b139)]) (rest := []) (lenOf pd_0_3 rfl) rfl (by show 2 * 0 + _ ≤ _; exact Nat.le_of_eq rfl) (hb hby at_169) (fun _ _ => ⟨rfl, hq164, (by decide : 4 + 0 ≤ _), (by decide : 21 + 0 ≤ _)⟩)
      dsimp only [Pt.U, Pt.locs, Pt.cells, Pt.slots] at X169 l169 y169 z169 st169 hQ169
      subst l169 y169 z169
      obtain ⟨hv169, rfl, hq169⟩ := hQ169
      obtain rfl := own_eqv hv169
      have N169 := Fr.app N164 (Fr.nil n0)
      obtain ⟨c169, hc169⟩ : ∃ z : Int32, z = (if ([(100 : Int32), (121 : Int32), (110 : Int32), (97 : Int32), (109 : Int32), (105 : Int32), (99 : Int32)] : List Int32) = ([(100 : Int32), (121 : Int32), (110 : Int32), (97 : Int32), (109 : Int32), (105 : Int32), (99 : Int32)] : List Int32) then (1 : Int32) else (0 : Int32)) := ⟨_, rfl⟩
      rw [← hc169] at st169
      refine own_by (fun t k => st169.trans k) ?_
      have sg180 : ∀ t, own_S p e below T169 (mkF m 180 (own_AIIRRRR p0 v6 b96 wDYNAMIC b139 wDYNAMIC) [(.int (1 : Int32))]) t → own_S p e below T169 (mkF m 172 (own_AIIRRRR p0 v6 b96 wDYNAMIC b139 wDYNAMIC) [(.int c169)]) t := by
        intro t k
        show own_S p e below T169 (mkF m 172 (own_AIIRRRR p0 v6 b96 wDYNAMIC b139 wDYNAMIC) [(.int c169)]) _
        refine XS.ifNo X169.here hx rfl (hb hby at_172) rfl ((if0 _ _).trans (feq (by rw [hc169]; decide : ¬ (c169 = (0 : Int32)))).1) ?_
        show own_S p e below T169 (mkF m 175 (own_AIIRRRR p0 v6 b96 wDYNAMIC b139 wDYNAMIC) []) _
        refine XS.iconst X169.here hx rfl (hb hby at_175) ?_
        show own_S p e below T169 (mkF m 176 (own_AIIRRRR p0 v6 b96 wDYNAMIC b139 wDYNAMIC) [(.int (1 : Int32))]) _
        refine XS.goto X169.here hx rfl (pc0 := 176) (pc' := 180) rfl (hb hby at_176) (by decide) (by decide) ?_
        exact k
      refine own_by sg180 ?_
      obtain ⟨fs, hr, hrun, hended, hW, hsame⟩ := X169.leave (v := some (.int (1 : Int32))) (fun h => by rw [Bd.returns] at h; cases h)
      refine ⟨_, _, ?_, hrun, hended, _, _, rfl, ?_, ⟨_, rfl⟩, hW, hsame.mono (by decide) (by decide)⟩
      · exact retN X169 hx (t := .boolean) Bd.returns (by simp) (hb hby at_180) hr
      · show Q0 Z p0 wV cl wSTATIC wADMIN wDYNAMIC sSTATIC sADMIN sDYNAMIC gz h0 n0 _ T169.heap _
        rw [hq169]
        exact ⟨rfl, N169⟩
set_option maxRecDepth 65536 in
set_option maxHeartbeats 40000000 in
theorem comes_1 {Post : Tables → Env → Array Value → State → Outcome → State → Prop} (hpost : ∀ tb e args s v u, (limb_1_1.after args s (.returned v) u = true ∧ limb_1_2.after args s (.returned v) u = true ∧ True) → FrameEnd s (.returned v) u (Jvm.fieldLocs frame_1_writes args s ++ Jvm.arrayLocs frame_1_arrays args s ++ Jvm.staticLocs frame_1_statics s) 16 128 → Post tb e args s (.returned v) u) :
    ArmFor flags0 classFile x code maxLocals ret World_1 tables_1 room_1 Calls_1 rest_1 Pre_1 Post := by
  intro l hfl _ _ p e ha hc hk s m args below hf hA hF happ hP
  obtain ⟨hcalls, hrest, hpre⟩ := hP
  obtain ⟨-, -, -, hnamed, -, -, -, hat⟩ := (Spec.applies_iff hf).mp happ
  obtain ⟨hg, nn⟩ := and_e (Cond.before_iff.mp (show (Jvm.Cond.and given_1 narrow_1).before args s = true from hpre))
  obtain ⟨hh0, hh1⟩ := and_e hg
  obtain ⟨w0, rfl⟩ : ∃ w0 : Value, args = #[w0] := by
    have hs : args.size = 1 := by simpa [Cond.value, given_1] using hh0
    obtain ⟨L⟩ := args
    match L, hs with
    | [w0], _ => exact ⟨w0, rfl⟩
  have hw := fun d (hd : d ∈ tables_1) => atoms_spec (ws := Jvm.Cond.code x code maxLocals ret :: tables_1) hat d (List.mem_cons_of_mem _ hd)
  have hfit : Fit s := fun {y c} hc i hi => by
    obtain ⟨ha, rfl⟩ := Array.getElem?_eq_some_iff.mp hc
    have q := List.all_eq_true.mp ((Array.all_eq_true_iff_forall_mem.mp hF) _ (Array.getElem_mem ha)) i (List.mem_range.mpr hi)
    simpa [Array.getElem?_eq_getElem hi] using q
  obtain ⟨hsets, hown0⟩ := atoms_of _ (rest_1_c_eq ▸ (show rest_1_c.before _ s = true from hrest))
  have hr0 := Cond.before_iff.mp hown0
  obtain ⟨gz, ez⟩ := is_v (Cond.before_iff.mp (hsets _ (List.mem_of_getElem? (i := 1) rfl)))
  have Sz : Sta s s.heap "java/lang/String" "COMPACT_STRINGS" "Z" (.int gz) := Sta.start ez (Or.inl (hsets _ (List.mem_of_getElem? (i := 0) rfl)))
  have cz : ¬ (gz = (0 : Int32)) := gotF (Cond.eq_ints ez (Term.int_eval (0))) (not_v (Cond.before_iff.mp (hsets _ (List.mem_of_getElem? (i := 2) rfl))))
  obtain ⟨gf, ef, rf⟩ := isR_v (Cond.before_iff.mp (hsets _ (List.mem_of_getElem? (i := 8) rfl)))
  have Sf : Sta s s.heap "jdk/internal/util/Preconditions" "SIOOBE_FORMATTER" "Ljava/util/function/BiFunction;" gf := Sta.start ef (Or.inl (hsets _ (List.mem_of_getElem? (i := 7) rfl)))
  obtain ⟨i0, ei0⟩ := is_v hh1
  obtain rfl : w0 = (.int i0) := Option.some.inj ei0
  obtain ⟨nn0, nn1⟩ := and_e nn
  obtain ⟨nn2, nn3⟩ := and_e nn1
  obtain ⟨nn4, nn5⟩ := and_e nn3
  obtain ⟨nn6, nn7⟩ := and_e nn5
  obtain ⟨nn8, nn9⟩ := and_e nn7
  obtain ⟨nn10, nn11⟩ := and_e nn9
  obtain ⟨nn12, nn13⟩ := and_e nn11
  obtain ⟨nn14, nn15⟩ := and_e nn13
  obtain ⟨nn16, nn17⟩ := and_e nn15
  obtain ⟨nn18, nn19⟩ := and_e nn17
  obtain ⟨nn20, nn21⟩ := and_e nn19
  obtain ⟨nn22, nn23⟩ := and_e nn21
  obtain ⟨nn24, nn25⟩ := and_e nn23
  obtain ⟨nn26, nn27⟩ := and_e nn25
  obtain ⟨nn28, nn29⟩ := and_e nn27
  obtain ⟨nn30, nn31⟩ := and_e nn29
  obtain ⟨nn32, nn33⟩ := and_e nn31
  obtain ⟨nn34, nn35⟩ := and_e nn33
  obtain ⟨nn36, nn37⟩ := and_e nn35
  obtain ⟨nn38, nn39⟩ := and_e nn37
  obtain ⟨nn40, nn41⟩ := and_e nn39
  obtain ⟨nn42, nn43⟩ := and_e nn41
  obtain ⟨nn44, nn45⟩ := and_e nn43
  obtain ⟨nn46, nn47⟩ := and_e nn45
  obtain ⟨nn48, nn49⟩ := and_e nn47
  obtain ⟨nn50, nn51⟩ := and_e nn49
  obtain ⟨nn52, nn53⟩ := and_e nn51
  obtain ⟨nn54, nn55⟩ := and_e nn53
  obtain ⟨nn56, nn57⟩ := and_e nn55
  obtain ⟨nn58, nn59⟩ := and_e nn57
  obtain ⟨nn60, nn61⟩ := and_e nn59
  obtain ⟨nn62, nn63⟩ := and_e nn61
  obtain ⟨nn64, nn65⟩ := and_e nn63
  obtain ⟨nn66, nn67⟩ := and_e nn65
  obtain ⟨nn68, nn69⟩ := and_e nn67
  obtain ⟨nn70, nn71⟩ := and_e nn69
  obtain ⟨nn72, nn73⟩ := and_e nn71
  obtain ⟨nn74, nn75⟩ := and_e nn73
  obtain ⟨u_STATIC, ev_u_STATIC⟩ := exa_v nn0
  have Ex_u_STATIC := Exa.start ev_u_STATIC nn0
  have St_u_STATIC := Sta.start ev_u_STATIC (Or.inr ⟨(hw _ (List.mem_of_getElem? (i := 3) rfl)), (hw _ (List.mem_of_getElem? (i := 4) rfl))⟩)
  obtain ⟨u__VALUES, ev_u__VALUES⟩ := exa_v nn4
  have Ex_u__VALUES := Exa.start ev_u__VALUES nn4
  have St_u__VALUES := Sta.start ev_u__VALUES (Or.inr ⟨(hw _ (List.mem_of_getElem? (i := 3) rfl)), (hw _ (List.mem_of_getElem? (i := 41) rfl))⟩)
  obtain ⟨u_ADMIN, ev_u_ADMIN⟩ := exa_v nn10
  have Ex_u_ADMIN := Exa.start ev_u_ADMIN nn10
  have St_u_ADMIN := Sta.start ev_u_ADMIN (Or.inr ⟨(hw _ (List.mem_of_getElem? (i := 3) rfl)), (hw _ (List.mem_of_getElem? (i := 49) rfl))⟩)
  obtain ⟨u_DYNAMIC, ev_u_DYNAMIC⟩ := exa_v nn14
  have Ex_u_DYNAMIC := Exa.start ev_u_DYNAMIC nn14
  have St_u_DYNAMIC := Sta.start ev_u_DYNAMIC (Or.inr ⟨(hw _ (List.mem_of_getElem? (i := 3) rfl)), (hw _ (List.mem_of_getElem? (i := 50) rfl))⟩)
  obtain ⟨uV, evV⟩ := arr_v nn2
  obtain ⟨cl, ArV⟩ := Arr.start evV nn2
  have StV := Sta.start evV (Or.inl (hw _ (List.mem_of_getElem? (i := 51) rfl)))
  have ExV := Exa.start evV nn4
  have hsz : cl.slots.size = 3 := own_len evV ArV (by decide) (own_eqi nn6)
  have hat0 : cl.slots[0]? = some (.ref u_STATIC) := own_elr (by decide) evV ev_u_STATIC ArV.1 nn8
  have hat1 : cl.slots[1]? = some (.ref u_ADMIN) := own_elr (by decide) evV ev_u_ADMIN ArV.1 nn12
  have hat2 : cl.slots[2]? = some (.ref u_DYNAMIC) := own_elr (by decide) evV ev_u_DYNAMIC ArV.1 nn16
  obtain ⟨s_STATIC, es_STATIC⟩ := exa_v nn18
  have Es_STATIC := Exa.start es_STATIC nn18
  have Fv_STATIC := Fld.start ((fld_at ev_u_STATIC).symm.trans es_STATIC)
  have Fc_STATIC := own_fld es_STATIC nn20
  obtain ⟨t_STATIC, et_STATIC⟩ := arr_v nn22
  obtain ⟨c_STATIC, Ac_STATIC⟩ := Arr.start et_STATIC nn22
  have Ft_STATIC := Fld.start ((fld_at es_STATIC).symm.trans et_STATIC)
  have hl_STATIC : c_STATIC.slots.size = 6 := own_len et_STATIC Ac_STATIC (by decide) (own_eqi nn24)
  have Hl_STATIC : HasL c_STATIC 0 [(.int (115 : Int32)), (.int (116 : Int32)), (.int (97 : Int32)), (.int (116 : Int32)), (.int (105 : Int32)), (.int (99 : Int32))] := ⟨(elem_in (own_eqi nn42) et_STATIC (Term.int_eval _) Ac_STATIC.1).2, (elem_in (own_eqi nn44) et_STATIC (Term.int_eval _) Ac_STATIC.1).2, (elem_in (own_eqi nn46) et_STATIC (Term.int_eval _) Ac_STATIC.1).2, (elem_in (own_eqi nn48) et_STATIC (Term.int_eval _) Ac_STATIC.1).2, (elem_in (own_eqi nn50) et_STATIC (Term.int_eval _) Ac_STATIC.1).2, (elem_in (own_eqi nn52) et_STATIC (Term.int_eval _) Ac_STATIC.1).2, trivial⟩
  have Av_STATIC : Arv s s.heap t_STATIC c_STATIC.cls .byte (6 : Int32) [(.int (115 : Int32)), (.int (116 : Int32)), (.int (97 : Int32)), (.int (116 : Int32)), (.int (105 : Int32)), (.int (99 : Int32))] (.int 0) := Arv.start hfit Ac_STATIC (by rw [hl_STATIC]; decide) (by rw [hl_STATIC]; rfl) (by decide) rfl Hl_STATIC
  have Ss_STATIC : own_Str s s.heap s_STATIC ([(115 : Int32), (116 : Int32), (97 : Int32), (116 : Int32), (105 : Int32), (99 : Int32)] : List Int32) := ⟨_, _, _, _, _, Es_STATIC, Ft_STATIC, Fc_STATIC, Av_STATIC, Or.inl ⟨rfl, rfl, rfl, by decide⟩, by decide, by decide⟩
  obtain ⟨s_ADMIN, es_ADMIN⟩ := exa_v nn26
  have Es_ADMIN := Exa.start es_ADMIN nn26
  have Fv_ADMIN := Fld.start ((fld_at ev_u_ADMIN).symm.trans es_ADMIN)
  have Fc_ADMIN := own_fld es_ADMIN nn28
  obtain ⟨t_ADMIN, et_ADMIN⟩ := arr_v nn30
  obtain ⟨c_ADMIN, Ac_ADMIN⟩ := Arr.start et_ADMIN nn30
  have Ft_ADMIN := Fld.start ((fld_at es_ADMIN).symm.trans et_ADMIN)
  have hl_ADMIN : c_ADMIN.slots.size = 5 := own_len et_ADMIN Ac_ADMIN (by decide) (own_eqi nn32)
  have Hl_ADMIN : HasL c_ADMIN 0 [(.int (97 : Int32)), (.int (100 : Int32)), (.int (109 : Int32)), (.int (105 : Int32)), (.int (110 : Int32))] := ⟨(elem_in (own_eqi nn54) et_ADMIN (Term.int_eval _) Ac_ADMIN.1).2, (elem_in (own_eqi nn56) et_ADMIN (Term.int_eval _) Ac_ADMIN.1).2, (elem_in (own_eqi nn58) et_ADMIN (Term.int_eval _) Ac_ADMIN.1).2, (elem_in (own_eqi nn60) et_ADMIN (Term.int_eval _) Ac_ADMIN.1).2, (elem_in (own_eqi nn62) et_ADMIN (Term.int_eval _) Ac_ADMIN.1).2, trivial⟩
  have Av_ADMIN : Arv s s.heap t_ADMIN c_ADMIN.cls .byte (5 : Int32) [(.int (97 : Int32)), (.int (100 : Int32)), (.int (109 : Int32)), (.int (105 : Int32)), (.int (110 : Int32))] (.int 0) := Arv.start hfit Ac_ADMIN (by rw [hl_ADMIN]; decide) (by rw [hl_ADMIN]; rfl) (by decide) rfl Hl_ADMIN
  have Ss_ADMIN : own_Str s s.heap s_ADMIN ([(97 : Int32), (100 : Int32), (109 : Int32), (105 : Int32), (110 : Int32)] : List Int32) := ⟨_, _, _, _, _, Es_ADMIN, Ft_ADMIN, Fc_ADMIN, Av_ADMIN, Or.inl ⟨rfl, rfl, rfl, by decide⟩, by decide, by decide⟩
  obtain ⟨s_DYNAMIC, es_DYNAMIC⟩ := exa_v nn34
  have Es_DYNAMIC := Exa.start es_DYNAMIC nn34
  have Fv_DYNAMIC := Fld.start ((fld_at ev_u_DYNAMIC).symm.trans es_DYNAMIC)
  have Fc_DYNAMIC := own_fld es_DYNAMIC nn36
  obtain ⟨t_DYNAMIC, et_DYNAMIC⟩ := arr_v nn38
  obtain ⟨c_DYNAMIC, Ac_DYNAMIC⟩ := Arr.start et_DYNAMIC nn38
  have Ft_DYNAMIC := Fld.start ((fld_at es_DYNAMIC).symm.trans et_DYNAMIC)
  have hl_DYNAMIC : c_DYNAMIC.slots.size = 7 := own_len et_DYNAMIC Ac_DYNAMIC (by decide) (own_eqi nn40)
  have Hl_DYNAMIC : HasL c_DYNAMIC 0 [(.int (100 : Int32)), (.int (121 : Int32)), (.int (110 : Int32)), (.int (97 : Int32)), (.int (109 : Int32)), (.int (105 : Int32)), (.int (99 : Int32))] := ⟨(elem_in (own_eqi nn64) et_DYNAMIC (Term.int_eval _) Ac_DYNAMIC.1).2, (elem_in (own_eqi nn66) et_DYNAMIC (Term.int_eval _) Ac_DYNAMIC.1).2, (elem_in (own_eqi nn68) et_DYNAMIC (Term.int_eval _) Ac_DYNAMIC.1).2, (elem_in (own_eqi nn70) et_DYNAMIC (Term.int_eval _) Ac_DYNAMIC.1).2, (elem_in (own_eqi nn72) et_DYNAMIC (Term.int_eval _) Ac_DYNAMIC.1).2, (elem_in (own_eqi nn74) et_DYNAMIC (Term.int_eval _) Ac_DYNAMIC.1).2, (elem_in (own_eqi nn75) et_DYNAMIC (Term.int_eval _) Ac_DYNAMIC.1).2, trivial⟩
  have Av_DYNAMIC : Arv s s.heap t_DYNAMIC c_DYNAMIC.cls .byte (7 : Int32) [(.int (100 : Int32)), (.int (121 : Int32)), (.int (110 : Int32)), (.int (97 : Int32)), (.int (109 : Int32)), (.int (105 : Int32)), (.int (99 : Int32))] (.int 0) := Arv.start hfit Ac_DYNAMIC (by rw [hl_DYNAMIC]; decide) (by rw [hl_DYNAMIC]; rfl) (by decide) rfl Hl_DYNAMIC
  have Ss_DYNAMIC : own_Str s s.heap s_DYNAMIC ([(100 : Int32), (121 : Int32), (110 : Int32), (97 : Int32), (109 : Int32), (105 : Int32), (99 : Int32)] : List Int32) := ⟨_, _, _, _, _, Es_DYNAMIC, Ft_DYNAMIC, Fc_DYNAMIC, Av_DYNAMIC, Or.inl ⟨rfl, rfl, rfl, by decide⟩, by decide, by decide⟩
  obtain ⟨n, o, h1, h2, h3, _, L, rfl, ⟨rfl, N⟩, hq⟩ := rm0 l s _ hw tables_1 i0 uV cl u_STATIC u_ADMIN u_DYNAMIC s_STATIC s_ADMIN s_DYNAMIC gz s.heap s.heap.size (Nat.le_refl _) (Old.start s) Sz cz StV ArV ExV (FitC.start hfit ArV) hsz hat0 hat1 hat2 Fv_STATIC Fv_ADMIN Fv_DYNAMIC Es_STATIC Es_ADMIN Es_DYNAMIC Ss_STATIC Ss_ADMIN Ss_DYNAMIC St_u_STATIC St_u_ADMIN St_u_DYNAMIC Ex_u_STATIC Ex_u_ADMIN Ex_u_DYNAMIC p e ha hc hk s m _ below hf ((Spec.applies_iff_loose hf).mp happ).1 ⟨rfl, State.Warmed39.refl s, rfl⟩ trivial
  refine ⟨n, _, h1, h2, h3, hpost _ _ _ _ _ _ ⟨Cond.after_iff.mpr rfl, Cond.after_iff.mpr (eq_i res_at (Term.int_eval (1)) rfl), trivial⟩ ⟨hq.1, hq.2.1, (hq.2.2.sift fun y hy => Or.inr (N y hy)).mono (by decide) (by decide)⟩⟩
theorem main_1_1 : Claimed_1_1 := comes_1 fun _ _ _ _ _ _ h hF => ⟨h.1, hF⟩
theorem main_1_2 : Claimed_1_2 := comes_1 fun _ _ _ _ _ _ h hF => ⟨h.2.1, hF⟩
end Jvm.Pilot.@@N@@
namespace Jvm.Pilot.@@N@@
open Jvm Jvm.ClassFile Sem Op Lib Jvm.Free Jvm.Stand Jvm.Pilot.@@N@@.Jvm.D
/-! MADE BY PROGRAM (witnessworld.py) out of the Statement's table words and the real class files: 22 classes; the members and pool entries that the words name. The judged class is class 1, her method 1. -/
namespace start1
open Jvm.ClassFile
def u (s : String) : CpInfo := .utf8 (stringToUtf16 s)
/-- a pool by its gaps: so many unusable entries, then the entry; so many at the end -/
def gap : Nat → List CpInfo → List CpInfo
  | 0, r => r
  | n + 1, r => .unusable :: gap n r
def poolList (es : List (Nat × CpInfo)) (last : Nat) : List CpInfo := es.foldr (fun e r => gap e.1 (e.2 :: r)) (gap last [])
def pool (es : List (Nat × CpInfo)) (last : Nat) : Array CpInfo := ⟨poolList es last⟩
def fileOf (pool : Array CpInfo) (this : Nat) (attrs : Array Attribute := #[]) (ms : Array MethodInfo := #[]) (fl : Nat := 33) (sup : Nat := 0) (ifs : Array Nat := #[]) (fds : Array FieldInfo := #[]) : ClassFile where
  minorVersion := 0
  majorVersion := 65
  constantPool := pool
  accessFlags := fl
  thisClass := this
  superClass := sup
  interfaces := ifs
  fields := fds
  methods := ms
  attributes := attrs
def plain (name : String) (sup : Option ClassId) : Class where
  name := name
  kind := .ordinary
  loader := none
  accessFlags := 33
  super := sup
  interfaces := #[]
  cf := none
  fields := #[]
  methods := #[]
  instanceTypes := #[]
  staticTypes := #[]
  resolved := #[]
  callSites := []
  init := .initialized
  statics := none
  mirror := none

def pool0 : Array CpInfo := pool [(5, u "<init>"), (0, u "()V"), (1, .class_ 10), (1, u "java/lang/Object"), (85, u "clone"), (0, u "()Ljava/lang/Object;")] 26

def k0c0 : Code := { maxStack := 0, maxLocals := 1, code := object_method_1_code, exceptionTable := #[], attributes := #[] }
def k0m0 : Method := { name := "<init>", desc := "()V", sig := { parameters := [], returnType := none }, accessFlags := 1, code := some k0c0 }
def k0m1 : Method := { name := "clone", desc := "()Ljava/lang/Object;", sig := { parameters := [], returnType := some (.object "java/lang/Object") }, accessFlags := 260, code := none }
/-- java/lang/Object -/
def k0 : Class := { plain "java/lang/Object" none with
  accessFlags := 33
  interfaces := #[]
  cf := some (fileOf pool0 8 #[] #[{ accessFlags := 1, nameIndex := 5, descriptorIndex := 6, attributes := #[] }, { accessFlags := 260, nameIndex := 96, descriptorIndex := 97, attributes := #[] }] 33 0 #[] #[])
  fields := #[]
  methods := #[k0m0, k0m1]
  instanceTypes := #[]
  staticTypes := #[]
  resolved := Array.replicate 124 none
  statics := none }

def pool1 : Array CpInfo := pool [(2, .class_ 4), (1, u "java/lang/Object"), (0, u "<init>"), (0, u "()V"), (0, .integer 2147483647), (0, .fieldref 9 10), (0, .class_ 11), (0, .nameAndType 12 13), (0, u "com/example/writd/writd/model/ClientSource"), (0, u "STATIC"), (0, u "Lcom/example/writd/writd/model/ClientSource;"), (0, .fieldref 9 15), (0, .nameAndType 16 13), (0, u "ADMIN"), (0, .fieldref 9 18), (0, .nameAndType 19 13), (0, u "DYNAMIC"), (0, .class_ 21), (0, u "java/lang/String"), (0, .methodref 20 23), (0, .nameAndType 5 24), (0, u "([C)V"), (0, .methodref 9 26), (0, .nameAndType 27 28), (0, u "parse"), (0, u "(Ljava/lang/String;)Lcom/example/writd/writd/model/ClientSource;"), (0, .methodref 9 30), (0, .nameAndType 31 32), (0, u "value"), (0, u "()Ljava/lang/String;"), (0, .methodref 20 34), (0, .nameAndType 35 36), (0, u "equals"), (0, u "(Ljava/lang/Object;)Z"), (0, .class_ 38), (0, u "com/example/writd/writd/model/ClientSourceParsePinLaw"), (2, u "law"), (0, u "(I)Z")] 5

def k1m0 : Method := { name := "<init>", desc := "()V", sig := { parameters := [], returnType := none }, accessFlags := 2, code := none }
def k1c1 : Code := { maxStack := 4, maxLocals := 6, code := code, exceptionTable := #[], attributes := #[] }
def k1m1 : Method := { name := "law", desc := "(I)Z", sig := { parameters := [.int], returnType := some .boolean }, accessFlags := 9, code := some k1c1 }
/-- com/example/writd/writd/model/ClientSourceParsePinLaw -/
def k1 : Class := { plain "com/example/writd/writd/model/ClientSourceParsePinLaw" (some 0) with
  accessFlags := 49
  interfaces := #[]
  cf := some (fileOf pool1 37 #[] #[{ accessFlags := 2, nameIndex := 5, descriptorIndex := 6, attributes := #[] }, { accessFlags := 9, nameIndex := 41, descriptorIndex := 42, attributes := #[] }] 49 2 #[] #[])
  fields := #[]
  methods := #[k1m0, k1m1]
  instanceTypes := #[]
  staticTypes := #[]
  resolved := Array.replicate 48 none
  statics := none }

def pool2 : Array CpInfo := pool [(1, .class_ 2), (0, u "java/lang/constant/Constable"), (0, .class_ 4), (0, u "java/lang/Object")] 6

/-- java/lang/constant/Constable -/
def k2 : Class := { plain "java/lang/constant/Constable" (some 0) with
  accessFlags := 1537
  interfaces := #[]
  cf := some (fileOf pool2 1 #[] #[] 1537 3 #[] #[])
  fields := #[]
  methods := #[]
  instanceTypes := #[]
  staticTypes := #[]
  resolved := Array.replicate 11 none
  statics := none }

def pool3 : Array CpInfo := pool [(1, .class_ 2), (0, u "java/lang/Comparable"), (0, .class_ 4), (0, u "java/lang/Object")] 7

/-- java/lang/Comparable -/
def k3 : Class := { plain "java/lang/Comparable" (some 0) with
  accessFlags := 1537
  interfaces := #[]
  cf := some (fileOf pool3 1 #[] #[] 1537 3 #[] #[])
  fields := #[]
  methods := #[]
  instanceTypes := #[]
  staticTypes := #[]
  resolved := Array.replicate 12 none
  statics := none }

def pool4 : Array CpInfo := pool [(1, .class_ 2), (0, u "java/io/Serializable"), (0, .class_ 4), (0, u "java/lang/Object")] 2

/-- java/io/Serializable -/
def k4 : Class := { plain "java/io/Serializable" (some 0) with
  accessFlags := 1537
  interfaces := #[]
  cf := some (fileOf pool4 1 #[] #[] 1537 3 #[] #[])
  fields := #[]
  methods := #[]
  instanceTypes := #[]
  staticTypes := #[]
  resolved := Array.replicate 7 none
  statics := none }

def pool5 : Array CpInfo := pool [(2, .class_ 4), (1, u "java/lang/Enum"), (0, u "name"), (0, u "Ljava/lang/String;"), (2, u "ordinal"), (0, u "I"), (1, .class_ 14), (1, u "java/lang/Object"), (4, u "hash"), (86, .class_ 108), (1, u "java/lang/Enum$EnumDesc"), (2, .class_ 112), (0, u "java/lang/constant/Constable"), (0, .class_ 114), (0, u "java/lang/Comparable"), (0, .class_ 116), (0, u "java/io/Serializable")] 87

/-- java/lang/Enum -/
def k5 : Class := { plain "java/lang/Enum" (some 0) with
  accessFlags := 1057
  interfaces := #[2, 3, 4]
  cf := some (fileOf pool5 2 #[.nestMembers #[106]] #[] 1057 12 #[111, 113, 115] #[{ accessFlags := 18, nameIndex := 5, descriptorIndex := 6, attributes := #[] }, { accessFlags := 18, nameIndex := 9, descriptorIndex := 10, attributes := #[] }, { accessFlags := 2, nameIndex := 19, descriptorIndex := 10, attributes := #[] }])
  fields := #[{ name := "name", type := (.object "java/lang/String"), accessFlags := 18, slot := 0, constantValue := 0 }, { name := "ordinal", type := .int, accessFlags := 18, slot := 1, constantValue := 0 }, { name := "hash", type := .int, accessFlags := 2, slot := 2, constantValue := 0 }]
  methods := #[]
  instanceTypes := #[(.object "java/lang/String"), .int, .int]
  staticTypes := #[]
  resolved := Array.replicate 204 none
  statics := none }

def pool6 : Array CpInfo := pool [(1, .class_ 2), (0, u "com/example/writd/writd/model/ClientSource"), (2, u "STATIC"), (0, u "Lcom/example/writd/writd/model/ClientSource;"), (2, u "ADMIN"), (2, u "DYNAMIC"), (0, .fieldref 1 14), (0, .nameAndType 15 16), (0, u "$VALUES"), (0, u "[Lcom/example/writd/writd/model/ClientSource;"), (0, .methodref 18 19), (0, .class_ 16), (0, .nameAndType 20 21), (0, u "clone"), (0, u "()Ljava/lang/Object;"), (1, .class_ 25), (1, u "java/lang/Enum"), (6, .fieldref 1 33), (0, .nameAndType 34 35), (0, u "value"), (0, u "Ljava/lang/String;"), (0, .methodref 1 37), (0, .nameAndType 38 39), (0, u "values"), (0, u "()[Lcom/example/writd/writd/model/ClientSource;"), (0, .methodref 41 42), (0, .class_ 43), (0, .nameAndType 44 45), (0, u "java/lang/String"), (0, u "equals"), (0, u "(Ljava/lang/Object;)Z"), (26, u "(Ljava/lang/String;)Lcom/example/writd/writd/model/ClientSource;"), (2, u "()Ljava/lang/String;"), (0, u "parse")] 21

def k6c0 : Code := { maxStack := 1, maxLocals := 0, code := prog_15_method_1_code, exceptionTable := #[], attributes := #[] }
def k6m0 : Method := { name := "values", desc := "()[Lcom/example/writd/writd/model/ClientSource;", sig := { parameters := [], returnType := some (.array (.object "com/example/writd/writd/model/ClientSource")) }, accessFlags := 9, code := some k6c0 }
def k6c1 : Code := { maxStack := 1, maxLocals := 1, code := prog_15_method_4_code, exceptionTable := #[], attributes := #[] }
def k6m1 : Method := { name := "value", desc := "()Ljava/lang/String;", sig := { parameters := [], returnType := some (.object "java/lang/String") }, accessFlags := 1, code := some k6c1 }
def k6c2 : Code := { maxStack := 3, maxLocals := 5, code := prog_15_method_5_code, exceptionTable := #[], attributes := #[] }
def k6m2 : Method := { name := "parse", desc := "(Ljava/lang/String;)Lcom/example/writd/writd/model/ClientSource;", sig := { parameters := [(.object "java/lang/String")], returnType := some (.object "com/example/writd/writd/model/ClientSource") }, accessFlags := 9, code := some k6c2 }
/-- com/example/writd/writd/model/ClientSource -/
def k6 : Class := { plain "com/example/writd/writd/model/ClientSource" (some 5) with
  accessFlags := 16433
  interfaces := #[]
  cf := some (fileOf pool6 1 #[] #[{ accessFlags := 9, nameIndex := 38, descriptorIndex := 39, attributes := #[] }, { accessFlags := 1, nameIndex := 34, descriptorIndex := 75, attributes := #[] }, { accessFlags := 9, nameIndex := 76, descriptorIndex := 72, attributes := #[] }] 16433 23 #[] #[{ accessFlags := 16409, nameIndex := 5, descriptorIndex := 6, attributes := #[] }, { accessFlags := 16409, nameIndex := 9, descriptorIndex := 6, attributes := #[] }, { accessFlags := 16409, nameIndex := 12, descriptorIndex := 6, attributes := #[] }, { accessFlags := 18, nameIndex := 34, descriptorIndex := 35, attributes := #[] }, { accessFlags := 4122, nameIndex := 15, descriptorIndex := 16, attributes := #[] }])
  fields := #[{ name := "STATIC", type := (.object "com/example/writd/writd/model/ClientSource"), accessFlags := 16409, slot := 0, constantValue := 0 }, { name := "ADMIN", type := (.object "com/example/writd/writd/model/ClientSource"), accessFlags := 16409, slot := 1, constantValue := 0 }, { name := "DYNAMIC", type := (.object "com/example/writd/writd/model/ClientSource"), accessFlags := 16409, slot := 2, constantValue := 0 }, { name := "value", type := (.object "java/lang/String"), accessFlags := 18, slot := 3, constantValue := 0 }, { name := "$VALUES", type := (.array (.object "com/example/writd/writd/model/ClientSource")), accessFlags := 4122, slot := 3, constantValue := 0 }]
  methods := #[k6m0, k6m1, k6m2]
  instanceTypes := #[(.object "java/lang/String"), .int, .int, (.object "java/lang/String")]
  staticTypes := #[(.object "com/example/writd/writd/model/ClientSource"), (.object "com/example/writd/writd/model/ClientSource"), (.object "com/example/writd/writd/model/ClientSource"), (.array (.object "com/example/writd/writd/model/ClientSource"))]
  resolved := Array.replicate 98 none
  statics := some 0 }

def pool7 : Array CpInfo := pool [(2, .class_ 4), (1, u "java/lang/CharSequence"), (42, .class_ 48), (0, u "java/lang/CharSequence$1CodePointIterator"), (10, .class_ 60), (0, u "java/lang/CharSequence$1CharIterator"), (5, .class_ 67), (0, u "java/lang/Object")] 63

/-- java/lang/CharSequence -/
def k7 : Class := { plain "java/lang/CharSequence" (some 0) with
  accessFlags := 1537
  interfaces := #[]
  cf := some (fileOf pool7 2 #[.nestMembers #[47, 59]] #[] 1537 66 #[] #[])
  fields := #[]
  methods := #[]
  instanceTypes := #[]
  staticTypes := #[]
  resolved := Array.replicate 131 none
  statics := none }

def pool8 : Array CpInfo := pool [(1, .class_ 2), (0, u "java/lang/constant/ConstantDesc"), (0, .class_ 4), (0, u "java/lang/Object")] 32

/-- java/lang/constant/ConstantDesc -/
def k8 : Class := { plain "java/lang/constant/ConstantDesc" (some 0) with
  accessFlags := 1537
  interfaces := #[]
  cf := some (fileOf pool8 1 #[] #[] 1537 3 #[] #[])
  fields := #[]
  methods := #[]
  instanceTypes := #[]
  staticTypes := #[]
  resolved := Array.replicate 37 none
  statics := none }

def pool9 : Array CpInfo := pool [(1, .methodref 2 3), (0, .class_ 4), (0, .nameAndType 5 6), (0, u "java/lang/Object"), (0, u "<init>"), (0, u "()V"), (2, .fieldref 10 11), (0, .class_ 12), (0, .nameAndType 13 14), (0, u "java/lang/String"), (0, u "value"), (0, u "[B"), (0, .fieldref 10 16), (0, .nameAndType 17 18), (0, u "coder"), (0, u "B"), (2, u "hash"), (0, u "I"), (2, u "hashIsZero"), (0, u "Z"), (0, .methodref 10 28), (0, .nameAndType 5 29), (0, u "([CIILjava/lang/Void;)V"), (8, .fieldref 10 39), (0, .nameAndType 40 26), (0, u "COMPACT_STRINGS"), (1, .class_ 44), (1, u "java/lang/StringUTF16"), (0, u "compress"), (1, .methodref 42 48), (0, .nameAndType 49 50), (0, u "coderFromArrayLen"), (0, u "([BI)B"), (56, .class_ 109), (1, u "java/lang/StringLatin1"), (67, .methodref 42 178), (0, .nameAndType 45 179), (0, u "([CII)[B"), (361, .methodref 107 542), (0, .nameAndType 543 544), (0, u "equals"), (0, u "([B[B)Z"), (28, u "(Ljava/lang/Object;)Z"), (1, .class_ 576), (0, u "java/lang/CharSequence"), (22, u "CASE_INSENSITIVE_ORDER"), (0, u "Ljava/util/Comparator;"), (409, u "([C)V"), (90, u "serialPersistentFields"), (0, u "[Ljava/io/ObjectStreamField;"), (0, .class_ 1104), (0, u "java/lang/String$CaseInsensitiveComparator"), (1, .class_ 1107), (0, u "java/io/Serializable"), (0, .class_ 1109), (0, u "java/lang/Comparable"), (0, .class_ 1111), (0, u "java/lang/constant/Constable"), (0, .class_ 1113), (0, u "java/lang/constant/ConstantDesc"), (2, u "serialVersionUID"), (0, u "J"), (3, u "REPL"), (0, u "C"), (2, u "LATIN1"), (1, u "UTF16")] 323

def k9m0 : Method := { name := "<init>", desc := "()V", sig := { parameters := [], returnType := none }, accessFlags := 1, code := none }
def k9c1 : Code := { maxStack := 5, maxLocals := 2, code := jdk_42_method_3_code, exceptionTable := #[], attributes := #[] }
def k9m1 : Method := { name := "<init>", desc := "([C)V", sig := { parameters := [(.array .char)], returnType := none }, accessFlags := 1, code := some k9c1 }
def k9c2 : Code := { maxStack := 2, maxLocals := 3, code := jdk_42_method_66_code, exceptionTable := #[], attributes := #[] }
def k9m2 : Method := { name := "equals", desc := "(Ljava/lang/Object;)Z", sig := { parameters := [(.object "java/lang/Object")], returnType := some .boolean }, accessFlags := 1, code := some k9c2 }
def k9c3 : Code := { maxStack := 4, maxLocals := 6, code := jdk_42_method_149_code, exceptionTable := #[], attributes := #[] }
def k9m3 : Method := { name := "<init>", desc := "([CIILjava/lang/Void;)V", sig := { parameters := [(.array .char), .int, .int, (.object "java/lang/Void")], returnType := none }, accessFlags := 2, code := some k9c3 }
/-- java/lang/String -/
def k9 : Class := { plain "java/lang/String" (some 0) with
  accessFlags := 49
  interfaces := #[4, 3, 7, 2, 8]
  cf := some (fileOf pool9 10 #[.nestMembers #[1103]] #[{ accessFlags := 1, nameIndex := 5, descriptorIndex := 6, attributes := #[] }, { accessFlags := 1, nameIndex := 5, descriptorIndex := 1010, attributes := #[] }, { accessFlags := 1, nameIndex := 543, descriptorIndex := 573, attributes := #[] }, { accessFlags := 2, nameIndex := 5, descriptorIndex := 29, attributes := #[] }] 49 2 #[1106, 1108, 575, 1110, 1112] #[{ accessFlags := 18, nameIndex := 13, descriptorIndex := 14, attributes := #[] }, { accessFlags := 18, nameIndex := 17, descriptorIndex := 18, attributes := #[] }, { accessFlags := 2, nameIndex := 21, descriptorIndex := 22, attributes := #[] }, { accessFlags := 2, nameIndex := 25, descriptorIndex := 26, attributes := #[] }, { accessFlags := 26, nameIndex := 1116, descriptorIndex := 1117, attributes := #[] }, { accessFlags := 24, nameIndex := 40, descriptorIndex := 26, attributes := #[] }, { accessFlags := 26, nameIndex := 1101, descriptorIndex := 1102, attributes := #[] }, { accessFlags := 26, nameIndex := 1121, descriptorIndex := 1122, attributes := #[] }, { accessFlags := 25, nameIndex := 599, descriptorIndex := 600, attributes := #[] }, { accessFlags := 24, nameIndex := 1125, descriptorIndex := 18, attributes := #[] }, { accessFlags := 24, nameIndex := 1127, descriptorIndex := 18, attributes := #[] }])
  fields := #[{ name := "value", type := (.array .byte), accessFlags := 18, slot := 0, constantValue := 0 }, { name := "coder", type := .byte, accessFlags := 18, slot := 1, constantValue := 0 }, { name := "hash", type := .int, accessFlags := 2, slot := 2, constantValue := 0 }, { name := "hashIsZero", type := .boolean, accessFlags := 2, slot := 3, constantValue := 0 }, { name := "serialVersionUID", type := .long, accessFlags := 26, slot := 0, constantValue := 0 }, { name := "COMPACT_STRINGS", type := .boolean, accessFlags := 24, slot := 1, constantValue := 0 }, { name := "serialPersistentFields", type := (.array (.object "java/io/ObjectStreamField")), accessFlags := 26, slot := 2, constantValue := 0 }, { name := "REPL", type := .char, accessFlags := 26, slot := 3, constantValue := 0 }, { name := "CASE_INSENSITIVE_ORDER", type := (.object "java/util/Comparator"), accessFlags := 25, slot := 4, constantValue := 0 }, { name := "LATIN1", type := .byte, accessFlags := 24, slot := 5, constantValue := 0 }, { name := "UTF16", type := .byte, accessFlags := 24, slot := 6, constantValue := 0 }]
  methods := #[k9m0, k9m1, k9m2, k9m3]
  instanceTypes := #[(.array .byte), .byte, .int, .boolean]
  staticTypes := #[.long, .boolean, (.array (.object "java/io/ObjectStreamField")), .char, (.object "java/util/Comparator"), .byte, .byte]
  resolved := Array.replicate 1451 none
  statics := some 1 }

def pool10 : Array CpInfo := pool [(6, .class_ 8), (1, u "java/lang/Object"), (0, u "<init>"), (0, u "()V"), (1, .class_ 14), (1, u "java/lang/StringUTF16"), (31, u "$assertionsDisabled"), (0, u "Z"), (13, u "HI_BYTE_SHIFT"), (0, u "I"), (2, u "LO_BYTE_SHIFT"), (49, .methodref 12 116), (0, .nameAndType 117 118), (0, u "compress"), (0, u "([CI[BII)I"), (3, u "([CII)[B"), (138, u "coderFromArrayLen"), (0, u "([BI)B"), (106, .class_ 371), (1, u "java/lang/StringUTF16$LinesSpliterator"), (58, u "MAX_LENGTH"), (196, .class_ 628), (0, u "java/lang/StringUTF16$CodePointsSpliterator"), (0, .class_ 630), (0, u "java/lang/StringUTF16$CharsSpliterator")] 4

def k10m0 : Method := { name := "<init>", desc := "()V", sig := { parameters := [], returnType := none }, accessFlags := 0, code := none }
def k10c1 : Code := { maxStack := 2, maxLocals := 2, code := jdk_52_method_15_code, exceptionTable := #[], attributes := #[] }
def k10m1 : Method := { name := "coderFromArrayLen", desc := "([BI)B", sig := { parameters := [(.array .byte), .int], returnType := some .byte }, accessFlags := 8, code := some k10c1 }
def k10c2 : Code := { maxStack := 5, maxLocals := 6, code := jdk_52_method_16_code, exceptionTable := #[], attributes := #[] }
def k10m2 : Method := { name := "compress", desc := "([CII)[B", sig := { parameters := [(.array .char), .int, .int], returnType := some (.array .byte) }, accessFlags := 9, code := some k10c2 }
def k10c3 : Code := { maxStack := 3, maxLocals := 7, code := jdk_52_method_21_code, exceptionTable := #[], attributes := #[] }
def k10m3 : Method := { name := "compress", desc := "([CI[BII)I", sig := { parameters := [(.array .char), .int, (.array .byte), .int, .int], returnType := some .int }, accessFlags := 9, code := some k10c3 }
/-- java/lang/StringUTF16 -/
def k10 : Class := { plain "java/lang/StringUTF16" (some 0) with
  accessFlags := 48
  interfaces := #[]
  cf := some (fileOf pool10 12 #[.nestMembers #[627, 629, 369]] #[{ accessFlags := 0, nameIndex := 9, descriptorIndex := 10, attributes := #[] }, { accessFlags := 8, nameIndex := 261, descriptorIndex := 262, attributes := #[] }, { accessFlags := 9, nameIndex := 117, descriptorIndex := 122, attributes := #[] }, { accessFlags := 9, nameIndex := 117, descriptorIndex := 118, attributes := #[] }] 48 6 #[] #[{ accessFlags := 26, nameIndex := 61, descriptorIndex := 62, attributes := #[] }, { accessFlags := 26, nameIndex := 65, descriptorIndex := 62, attributes := #[] }, { accessFlags := 24, nameIndex := 430, descriptorIndex := 62, attributes := #[] }, { accessFlags := 4120, nameIndex := 46, descriptorIndex := 47, attributes := #[] }])
  fields := #[{ name := "HI_BYTE_SHIFT", type := .int, accessFlags := 26, slot := 0, constantValue := 0 }, { name := "LO_BYTE_SHIFT", type := .int, accessFlags := 26, slot := 1, constantValue := 0 }, { name := "MAX_LENGTH", type := .int, accessFlags := 24, slot := 2, constantValue := 0 }, { name := "$assertionsDisabled", type := .boolean, accessFlags := 4120, slot := 3, constantValue := 0 }]
  methods := #[k10m0, k10m1, k10m2, k10m3]
  instanceTypes := #[]
  staticTypes := #[.int, .int, .int, .boolean]
  resolved := Array.replicate 635 none
  statics := none }

def pool11 : Array CpInfo := pool [(1, .class_ 2), (0, u "java/lang/Cloneable"), (0, .class_ 4), (0, u "java/lang/Object")] 2

/-- java/lang/Cloneable -/
def k11 : Class := { plain "java/lang/Cloneable" (some 0) with
  accessFlags := 1537
  interfaces := #[]
  cf := some (fileOf pool11 1 #[] #[] 1537 3 #[] #[])
  fields := #[]
  methods := #[]
  instanceTypes := #[]
  staticTypes := #[]
  resolved := Array.replicate 7 none
  statics := none }

def pool12 : Array CpInfo := pool [(4, .class_ 6), (1, u "java/lang/Object"), (0, u "<init>"), (0, u "()V"), (5, .class_ 16), (1, u "java/lang/StringLatin1"), (104, u "$assertionsDisabled"), (0, u "Z"), (98, .class_ 223), (1, u "java/lang/StringLatin1$LinesSpliterator"), (57, u "equals"), (0, u "([B[B)Z"), (107, .class_ 391), (0, u "java/lang/StringLatin1$CharsSpliterator")] 3

def k12m0 : Method := { name := "<init>", desc := "()V", sig := { parameters := [], returnType := none }, accessFlags := 0, code := none }
def k12c1 : Code := { maxStack := 3, maxLocals := 3, code := jdk_43_method_13_code, exceptionTable := #[], attributes := #[] }
def k12m1 : Method := { name := "equals", desc := "([B[B)Z", sig := { parameters := [(.array .byte), (.array .byte)], returnType := some .boolean }, accessFlags := 9, code := some k12c1 }
/-- java/lang/StringLatin1 -/
def k12 : Class := { plain "java/lang/StringLatin1" (some 0) with
  accessFlags := 48
  interfaces := #[]
  cf := some (fileOf pool12 14 #[.nestMembers #[390, 221]] #[{ accessFlags := 0, nameIndex := 7, descriptorIndex := 8, attributes := #[] }, { accessFlags := 9, nameIndex := 281, descriptorIndex := 282, attributes := #[] }] 48 4 #[] #[{ accessFlags := 4120, nameIndex := 121, descriptorIndex := 122, attributes := #[] }])
  fields := #[{ name := "$assertionsDisabled", type := .boolean, accessFlags := 4120, slot := 0, constantValue := 0 }]
  methods := #[k12m0, k12m1]
  instanceTypes := #[]
  staticTypes := #[.boolean]
  resolved := Array.replicate 395 none
  statics := none }

def pool13 : Array CpInfo := pool [(2, .class_ 4), (1, u "java/lang/Object"), (0, u "<init>"), (0, u "()V"), (17, .class_ 26), (1, u "jdk/internal/util/Preconditions"), (28, .class_ 56), (0, u "jdk/internal/util/Preconditions$4"), (57, .class_ 115), (0, u "jdk/internal/util/Preconditions$1"), (7, u "SIOOBE_FORMATTER"), (0, u "Ljava/util/function/BiFunction;"), (0, .class_ 126), (0, u "jdk/internal/util/Preconditions$2"), (3, u "AIOOBE_FORMATTER"), (0, .class_ 132), (0, u "jdk/internal/util/Preconditions$3"), (3, u "IOOBE_FORMATTER")] 57

def k13m0 : Method := { name := "<init>", desc := "()V", sig := { parameters := [], returnType := none }, accessFlags := 1, code := none }
/-- jdk/internal/util/Preconditions -/
def k13 : Class := { plain "jdk/internal/util/Preconditions" (some 0) with
  accessFlags := 33
  interfaces := #[]
  cf := some (fileOf pool13 24 #[.nestMembers #[55, 131, 125, 114]] #[{ accessFlags := 1, nameIndex := 5, descriptorIndex := 6, attributes := #[] }] 33 2 #[] #[{ accessFlags := 25, nameIndex := 123, descriptorIndex := 124, attributes := #[] }, { accessFlags := 25, nameIndex := 130, descriptorIndex := 124, attributes := #[] }, { accessFlags := 25, nameIndex := 136, descriptorIndex := 124, attributes := #[] }])
  fields := #[{ name := "SIOOBE_FORMATTER", type := (.object "java/util/function/BiFunction"), accessFlags := 25, slot := 0, constantValue := 0 }, { name := "AIOOBE_FORMATTER", type := (.object "java/util/function/BiFunction"), accessFlags := 25, slot := 1, constantValue := 0 }, { name := "IOOBE_FORMATTER", type := (.object "java/util/function/BiFunction"), accessFlags := 25, slot := 2, constantValue := 0 }]
  methods := #[k13m0]
  instanceTypes := #[]
  staticTypes := #[(.object "java/util/function/BiFunction"), (.object "java/util/function/BiFunction"), (.object "java/util/function/BiFunction")]
  resolved := Array.replicate 194 none
  statics := some 2 }

def pool14 : Array CpInfo := pool [(9, u "<init>"), (6, .class_ 18), (1, u "java/lang/Object"), (0, u "()V"), (1, .class_ 23), (1, u "jdk/internal/util/ArraysSupport"), (0, u "LOG2_ARRAY_LONG_INDEX_SCALE"), (0, u "I"), (2, u "U"), (0, u "Ljdk/internal/misc/Unsafe;"), (8, u "BIG_ENDIAN"), (0, u "Z"), (8, u "LOG2_BYTE_BIT_SIZE"), (4, u "LOG2_ARRAY_INT_INDEX_SCALE"), (54, u "JLA"), (0, u "Ljdk/internal/access/JavaLangAccess;"), (11, u "LOG2_ARRAY_BOOLEAN_INDEX_SCALE"), (9, u "LOG2_ARRAY_BYTE_INDEX_SCALE"), (5, u "LOG2_ARRAY_CHAR_INDEX_SCALE"), (5, u "LOG2_ARRAY_SHORT_INDEX_SCALE"), (18, u "LOG2_ARRAY_FLOAT_INDEX_SCALE"), (24, u "LOG2_ARRAY_DOUBLE_INDEX_SCALE"), (89, u "T_BOOLEAN"), (2, u "T_CHAR"), (1, u "T_FLOAT"), (1, u "T_DOUBLE"), (1, u "T_BYTE"), (1, u "T_SHORT"), (1, u "T_INT"), (1, u "T_LONG"), (1, u "SOFT_MAX_ARRAY_LENGTH")] 83

def k14m0 : Method := { name := "<init>", desc := "()V", sig := { parameters := [], returnType := none }, accessFlags := 2, code := none }
/-- jdk/internal/util/ArraysSupport -/
def k14 : Class := { plain "jdk/internal/util/ArraysSupport" (some 0) with
  accessFlags := 33
  interfaces := #[]
  cf := some (fileOf pool14 21 #[] #[{ accessFlags := 2, nameIndex := 9, descriptorIndex := 19, attributes := #[] }] 33 16 #[] #[{ accessFlags := 24, nameIndex := 28, descriptorIndex := 29, attributes := #[] }, { accessFlags := 26, nameIndex := 38, descriptorIndex := 39, attributes := #[] }, { accessFlags := 25, nameIndex := 121, descriptorIndex := 25, attributes := #[] }, { accessFlags := 25, nameIndex := 131, descriptorIndex := 25, attributes := #[] }, { accessFlags := 25, nameIndex := 137, descriptorIndex := 25, attributes := #[] }, { accessFlags := 25, nameIndex := 143, descriptorIndex := 25, attributes := #[] }, { accessFlags := 25, nameIndex := 53, descriptorIndex := 25, attributes := #[] }, { accessFlags := 25, nameIndex := 24, descriptorIndex := 25, attributes := #[] }, { accessFlags := 25, nameIndex := 162, descriptorIndex := 25, attributes := #[] }, { accessFlags := 25, nameIndex := 187, descriptorIndex := 25, attributes := #[] }, { accessFlags := 26, nameIndex := 48, descriptorIndex := 25, attributes := #[] }, { accessFlags := 25, nameIndex := 277, descriptorIndex := 25, attributes := #[] }, { accessFlags := 25, nameIndex := 280, descriptorIndex := 25, attributes := #[] }, { accessFlags := 25, nameIndex := 282, descriptorIndex := 25, attributes := #[] }, { accessFlags := 25, nameIndex := 284, descriptorIndex := 25, attributes := #[] }, { accessFlags := 25, nameIndex := 286, descriptorIndex := 25, attributes := #[] }, { accessFlags := 25, nameIndex := 288, descriptorIndex := 25, attributes := #[] }, { accessFlags := 25, nameIndex := 290, descriptorIndex := 25, attributes := #[] }, { accessFlags := 25, nameIndex := 292, descriptorIndex := 25, attributes := #[] }, { accessFlags := 26, nameIndex := 108, descriptorIndex := 109, attributes := #[] }, { accessFlags := 25, nameIndex := 294, descriptorIndex := 25, attributes := #[] }])
  fields := #[{ name := "U", type := (.object "jdk/internal/misc/Unsafe"), accessFlags := 24, slot := 0, constantValue := 0 }, { name := "BIG_ENDIAN", type := .boolean, accessFlags := 26, slot := 1, constantValue := 0 }, { name := "LOG2_ARRAY_BOOLEAN_INDEX_SCALE", type := .int, accessFlags := 25, slot := 2, constantValue := 0 }, { name := "LOG2_ARRAY_BYTE_INDEX_SCALE", type := .int, accessFlags := 25, slot := 3, constantValue := 0 }, { name := "LOG2_ARRAY_CHAR_INDEX_SCALE", type := .int, accessFlags := 25, slot := 4, constantValue := 0 }, { name := "LOG2_ARRAY_SHORT_INDEX_SCALE", type := .int, accessFlags := 25, slot := 5, constantValue := 0 }, { name := "LOG2_ARRAY_INT_INDEX_SCALE", type := .int, accessFlags := 25, slot := 6, constantValue := 0 }, { name := "LOG2_ARRAY_LONG_INDEX_SCALE", type := .int, accessFlags := 25, slot := 7, constantValue := 0 }, { name := "LOG2_ARRAY_FLOAT_INDEX_SCALE", type := .int, accessFlags := 25, slot := 8, constantValue := 0 }, { name := "LOG2_ARRAY_DOUBLE_INDEX_SCALE", type := .int, accessFlags := 25, slot := 9, constantValue := 0 }, { name := "LOG2_BYTE_BIT_SIZE", type := .int, accessFlags := 26, slot := 10, constantValue := 0 }, { name := "T_BOOLEAN", type := .int, accessFlags := 25, slot := 11, constantValue := 0 }, { name := "T_CHAR", type := .int, accessFlags := 25, slot := 12, constantValue := 0 }, { name := "T_FLOAT", type := .int, accessFlags := 25, slot := 13, constantValue := 0 }, { name := "T_DOUBLE", type := .int, accessFlags := 25, slot := 14, constantValue := 0 }, { name := "T_BYTE", type := .int, accessFlags := 25, slot := 15, constantValue := 0 }, { name := "T_SHORT", type := .int, accessFlags := 25, slot := 16, constantValue := 0 }, { name := "T_INT", type := .int, accessFlags := 25, slot := 17, constantValue := 0 }, { name := "T_LONG", type := .int, accessFlags := 25, slot := 18, constantValue := 0 }, { name := "JLA", type := (.object "jdk/internal/access/JavaLangAccess"), accessFlags := 26, slot := 19, constantValue := 0 }, { name := "SOFT_MAX_ARRAY_LENGTH", type := .int, accessFlags := 25, slot := 20, constantValue := 0 }]
  methods := #[k14m0]
  instanceTypes := #[]
  staticTypes := #[(.object "jdk/internal/misc/Unsafe"), .boolean, .int, .int, .int, .int, .int, .int, .int, .int, .int, .int, .int, .int, .int, .int, .int, .int, .int, (.object "jdk/internal/access/JavaLangAccess"), .int]
  resolved := Array.replicate 378 none
  statics := none }

/-- the primitive byte -/
def k15 : Class := { plain "byte" none with kind := .primitive 'B', accessFlags := 0x411 }
/-- [B -/
def k16 : Class := { plain "[B" (some 0) with kind := .array 15 .byte, interfaces := #[11, 4], accessFlags := 1041 }

/-- the primitive char -/
def k17 : Class := { plain "char" none with kind := .primitive 'C', accessFlags := 0x411 }
/-- [C -/
def k18 : Class := { plain "[C" (some 0) with kind := .array 17 .char, interfaces := #[11, 4], accessFlags := 1041 }

/-- the primitive int -/
def k19 : Class := { plain "int" none with kind := .primitive 'I', accessFlags := 0x411 }
/-- [I -/
def k20 : Class := { plain "[I" (some 0) with kind := .array 19 .int, interfaces := #[11, 4], accessFlags := 1041 }

/-- [Lcom/example/writd/writd/model/ClientSource; -/
def k21 : Class := { plain "[Lcom/example/writd/writd/model/ClientSource;" (some 0) with kind := .array 6 (.object "com/example/writd/writd/model/ClientSource"), interfaces := #[11, 4], accessFlags := 1041 }

def heap : Heap := #[{ cls := 6, slots := #[.ref 4, .ref 5, .ref 6, .ref 3], vm := .statics 6 },
  { cls := 9, slots := #[.long 0, .int 1, .null, .int 0, .null, .int 0, .int 0], vm := .statics 9 },
  { cls := 13, slots := #[.null, .null, .null], vm := .statics 13 },
  { cls := 21, slots := #[.ref 4, .ref 5, .ref 6], vm := .none },
  { cls := 6, slots := #[.null, .int 0, .int 0, .ref 7], vm := .none },
  { cls := 6, slots := #[.null, .int 1, .int 0, .ref 8], vm := .none },
  { cls := 6, slots := #[.null, .int 2, .int 0, .ref 9], vm := .none },
  { cls := 9, slots := #[.ref 10, .int 0, .int 0, .int 0], vm := .none },
  { cls := 9, slots := #[.ref 11, .int 0, .int 0, .int 0], vm := .none },
  { cls := 9, slots := #[.ref 12, .int 0, .int 0, .int 0], vm := .none },
  { cls := 16, slots := #[.int 115, .int 116, .int 97, .int 116, .int 105, .int 99], vm := .none },
  { cls := 16, slots := #[.int 97, .int 100, .int 109, .int 105, .int 110], vm := .none },
  { cls := 16, slots := #[.int 100, .int 121, .int 110, .int 97, .int 109, .int 105, .int 99], vm := .none }]
def classes : Array Class := #[k0, k1, k2, k3, k4, k5, k6, k7, k8, k9, k10, k11, k12, k13, k14, k15, k16, k17, k18, k19, k20, k21]
def interned : List (Array UInt16 × Addr) := []
def slotsUsed : Nat := 59
def theMethod : MethodId := ⟨1, 1⟩
def args0 : Array Value := #[.int 5]
def aboutOver (below : List Frame) : State where
  vm := { classes := classes, interned := interned.toArray }
  heap := heap
  slotsUsed := slotsUsed
  threads := #[{ frames := .invoking theMethod args0 :: below }]
def below0 : List Frame := [.native { method := ⟨0, 0⟩, args := #[] }]
def about1 : State := aboutOver below0
def p0 : Program := .bare "" "" ""
def e0 : Env := launch0.env 0 0 0
theorem w_frames : about1.frames = Frame.invoking theMethod args0 :: below0 := rfl
set_option maxRecDepth 65536 in
theorem w_args : argsFit about1.vm theMethod args0 = true := by decide +kernel
set_option maxRecDepth 65536 in
theorem w_heap : heapFits about1 = true := by decide +kernel
set_option maxRecDepth 65536 in
theorem w_runnable : about1.curStatus? = some .runnable := by decide +kernel
set_option maxRecDepth 65536 in
theorem w_alone : about1.alone = true := by decide +kernel
set_option maxRecDepth 65536 in
theorem w_named : about1.methodNamed? x = some theMethod := by decide +kernel
set_option maxRecDepth 65536 in
theorem w_hears : about1.hears theMethod below0 = true := by decide +kernel
set_option maxRecDepth 65536 in
theorem w_ripe : about1.ripe theMethod args0 below0 = true := by decide +kernel
theorem w_running : about1.status = .running := rfl
set_option maxRecDepth 65536 in
theorem w_room : about1.hasRoom e0.platform room_1 = true :=
  launch0.hasRoom_least _ room_1 (by decide +kernel) (by decide +kernel) (by decide +kernel) (by decide +kernel) (by decide +kernel) (by decide +kernel)
theorem allAtoms_all (ts : List Jvm.Cond) (a : Array Jvm.Value) (st : Jvm.State) : (allAtoms ts).before a st = ts.all (fun c => c.before a st) := by
  induction ts with
  | nil => rfl
  | cons c t ih =>
    show (Jvm.Cond.and c (allAtoms t)).before a st = _
    rw [Jvm.Cond.before_and, ih, List.all_cons]
def words1 : List Jvm.Cond := Jvm.Cond.code x code maxLocals ret :: tables_1
/-- a 'code' word, met by the world's own term for the bytes: nothing is compared byte by byte -/
theorem code_word {y : MethodName} {bytes : ByteArray} {mx : Nat} {rt : Option FieldType} {a : Array Value} {s : State} {m : MethodId} {meth : Method} {c : Code} (h1 : s.methodNamed? y = some m) (h2 : s.vm.method? m = some meth) (h3 : meth.code = some c) (h4 : c.code = bytes)
    (h5 : (c.maxLocals == mx && c.exceptionTable.isEmpty && decide (c.maxStack ≤ mostOperands) && decide (meth.sig.returnType = rt) && !meth.locks && decide (parseMethodDescriptor y.desc = some meth.sig)) = true) : (Jvm.Cond.code y bytes mx rt).before a s = true := by
  simp only [Bool.and_eq_true, beq_iff_eq, Bool.not_eq_true', decide_eq_true_eq] at h5
  obtain ⟨⟨⟨⟨⟨g1, g2⟩, g3⟩, g4⟩, g5⟩, g6⟩ := h5
  simp [Cond.before, Cond.holds, Cond.value, h1, h2, h3, h4, g1, g2, g3, g4, g5, g6]
def isCode : Jvm.Cond → Bool
  | .code _ _ _ _ => true
  | _ => false
theorem all_split {L : List Jvm.Cond} {P : Jvm.Cond → Bool} (h1 : L.all (fun c => isCode c || P c) = true) (h2 : ∀ c ∈ L.filter isCode, P c = true) : L.all P = true := by
  refine List.all_eq_true.mpr fun c hc => ?_
  have h := List.all_eq_true.mp h1 c hc
  rcases Bool.eq_false_or_eq_true (isCode c) with hi | hi
  · exact h2 c (List.mem_filter.mpr ⟨hc, hi⟩)
  · simpa [hi] using h
set_option maxRecDepth 65536 in
theorem w_c0 : (Jvm.Cond.code x code maxLocals ret).before args0 about1 = true := code_word (m := ⟨1, 1⟩) (meth := k1m1) (c := k1c1) (by decide +kernel) rfl rfl rfl (by decide +kernel)
set_option maxRecDepth 65536 in
theorem w_c1 : (Jvm.Cond.code ({ cls := "java/lang/String", name := "<init>", desc := "([C)V" } : Jvm.MethodName) jdk_42_method_3_code (2 : Nat) (Option.none : Option Jvm.ClassFile.FieldType)).before args0 about1 = true := code_word (m := ⟨9, 1⟩) (meth := k9m1) (c := k9c1) (by decide +kernel) rfl rfl rfl (by decide +kernel)
set_option maxRecDepth 65536 in
theorem w_c2 : (Jvm.Cond.code ({ cls := "java/lang/String", name := "<init>", desc := "([CIILjava/lang/Void;)V" } : Jvm.MethodName) jdk_42_method_149_code (6 : Nat) (Option.none : Option Jvm.ClassFile.FieldType)).before args0 about1 = true := code_word (m := ⟨9, 3⟩) (meth := k9m3) (c := k9c3) (by decide +kernel) rfl rfl rfl (by decide +kernel)
set_option maxRecDepth 65536 in
theorem w_c3 : (Jvm.Cond.code ({ cls := "java/lang/Object", name := "<init>", desc := "()V" } : Jvm.MethodName) object_method_1_code (1 : Nat) (Option.none : Option Jvm.ClassFile.FieldType)).before args0 about1 = true := code_word (m := ⟨0, 0⟩) (meth := k0m0) (c := k0c0) (by decide +kernel) rfl rfl rfl (by decide +kernel)
set_option maxRecDepth 65536 in
theorem w_c4 : (Jvm.Cond.code ({ cls := "java/lang/StringUTF16", name := "compress", desc := "([CII)[B" } : Jvm.MethodName) jdk_52_method_16_code (6 : Nat) (Option.some (Jvm.ClassFile.FieldType.array Jvm.ClassFile.FieldType.byte))).before args0 about1 = true := code_word (m := ⟨10, 2⟩) (meth := k10m2) (c := k10c2) (by decide +kernel) rfl rfl rfl (by decide +kernel)
set_option maxRecDepth 65536 in
theorem w_c5 : (Jvm.Cond.code ({ cls := "java/lang/StringUTF16", name := "compress", desc := "([CI[BII)I" } : Jvm.MethodName) jdk_52_method_21_code (7 : Nat) (Option.some Jvm.ClassFile.FieldType.int)).before args0 about1 = true := code_word (m := ⟨10, 3⟩) (meth := k10m3) (c := k10c3) (by decide +kernel) rfl rfl rfl (by decide +kernel)
set_option maxRecDepth 65536 in
theorem w_c6 : (Jvm.Cond.code ({ cls := "java/lang/StringUTF16", name := "coderFromArrayLen", desc := "([BI)B" } : Jvm.MethodName) jdk_52_method_15_code (2 : Nat) (Option.some Jvm.ClassFile.FieldType.byte)).before args0 about1 = true := code_word (m := ⟨10, 1⟩) (meth := k10m1) (c := k10c1) (by decide +kernel) rfl rfl rfl (by decide +kernel)
set_option maxRecDepth 65536 in
theorem w_c7 : (Jvm.Cond.code ({ cls := "com/example/writd/writd/model/ClientSource", name := "parse", desc := "(Ljava/lang/String;)Lcom/example/writd/writd/model/ClientSource;" } : Jvm.MethodName) prog_15_method_5_code (5 : Nat) (Option.some (Jvm.ClassFile.FieldType.object "com/example/writd/writd/model/ClientSource"))).before args0 about1 = true := code_word (m := ⟨6, 2⟩) (meth := k6m2) (c := k6c2) (by decide +kernel) rfl rfl rfl (by decide +kernel)
set_option maxRecDepth 65536 in
theorem w_c8 : (Jvm.Cond.code ({ cls := "com/example/writd/writd/model/ClientSource", name := "values", desc := "()[Lcom/example/writd/writd/model/ClientSource;" } : Jvm.MethodName) prog_15_method_1_code (0 : Nat) (Option.some (Jvm.ClassFile.FieldType.array (Jvm.ClassFile.FieldType.object "com/example/writd/writd/model/ClientSource")))).before args0 about1 = true := code_word (m := ⟨6, 0⟩) (meth := k6m0) (c := k6c0) (by decide +kernel) rfl rfl rfl (by decide +kernel)
set_option maxRecDepth 65536 in
theorem w_c9 : (Jvm.Cond.code ({ cls := "java/lang/String", name := "equals", desc := "(Ljava/lang/Object;)Z" } : Jvm.MethodName) jdk_42_method_66_code (3 : Nat) (Option.some Jvm.ClassFile.FieldType.boolean)).before args0 about1 = true := code_word (m := ⟨9, 2⟩) (meth := k9m2) (c := k9c2) (by decide +kernel) rfl rfl rfl (by decide +kernel)
set_option maxRecDepth 65536 in
theorem w_c10 : (Jvm.Cond.code ({ cls := "java/lang/StringLatin1", name := "equals", desc := "([B[B)Z" } : Jvm.MethodName) jdk_43_method_13_code (3 : Nat) (Option.some Jvm.ClassFile.FieldType.boolean)).before args0 about1 = true := code_word (m := ⟨12, 1⟩) (meth := k12m1) (c := k12c1) (by decide +kernel) rfl rfl rfl (by decide +kernel)
set_option maxRecDepth 65536 in
theorem w_c11 : (Jvm.Cond.code ({ cls := "com/example/writd/writd/model/ClientSource", name := "value", desc := "()Ljava/lang/String;" } : Jvm.MethodName) prog_15_method_4_code (1 : Nat) (Option.some (Jvm.ClassFile.FieldType.object "java/lang/String"))).before args0 about1 = true := code_word (m := ⟨6, 1⟩) (meth := k6m1) (c := k6c1) (by decide +kernel) rfl rfl rfl (by decide +kernel)
def codes1 : List Jvm.Cond := [Jvm.Cond.code x code maxLocals ret, Jvm.Cond.code ({ cls := "java/lang/String", name := "<init>", desc := "([C)V" } : Jvm.MethodName) jdk_42_method_3_code (2 : Nat) (Option.none : Option Jvm.ClassFile.FieldType), Jvm.Cond.code ({ cls := "java/lang/String", name := "<init>", desc := "([CIILjava/lang/Void;)V" } : Jvm.MethodName) jdk_42_method_149_code (6 : Nat) (Option.none : Option Jvm.ClassFile.FieldType), Jvm.Cond.code ({ cls := "java/lang/Object", name := "<init>", desc := "()V" } : Jvm.MethodName) object_method_1_code (1 : Nat) (Option.none : Option Jvm.ClassFile.FieldType), Jvm.Cond.code ({ cls := "java/lang/StringUTF16", name := "compress", desc := "([CII)[B" } : Jvm.MethodName) jdk_52_method_16_code (6 : Nat) (Option.some (Jvm.ClassFile.FieldType.array Jvm.ClassFile.FieldType.byte)), Jvm.Cond.code ({ cls := "java/lang/StringUTF16", name := "compress", desc := "([CI[BII)I" } : Jvm.MethodName) jdk_52_method_21_code (7 : Nat) (Option.some Jvm.ClassFile.FieldType.int), Jvm.Cond.code ({ cls := "java/lang/StringUTF16", name := "coderFromArrayLen", desc := "([BI)B" } : Jvm.MethodName) jdk_52_method_15_code (2 : Nat) (Option.some Jvm.ClassFile.FieldType.byte), Jvm.Cond.code ({ cls := "com/example/writd/writd/model/ClientSource", name := "parse", desc := "(Ljava/lang/String;)Lcom/example/writd/writd/model/ClientSource;" } : Jvm.MethodName) prog_15_method_5_code (5 : Nat) (Option.some (Jvm.ClassFile.FieldType.object "com/example/writd/writd/model/ClientSource")), Jvm.Cond.code ({ cls := "com/example/writd/writd/model/ClientSource", name := "values", desc := "()[Lcom/example/writd/writd/model/ClientSource;" } : Jvm.MethodName) prog_15_method_1_code (0 : Nat) (Option.some (Jvm.ClassFile.FieldType.array (Jvm.ClassFile.FieldType.object "com/example/writd/writd/model/ClientSource"))), Jvm.Cond.code ({ cls := "java/lang/String", name := "equals", desc := "(Ljava/lang/Object;)Z" } : Jvm.MethodName) jdk_42_method_66_code (3 : Nat) (Option.some Jvm.ClassFile.FieldType.boolean), Jvm.Cond.code ({ cls := "java/lang/StringLatin1", name := "equals", desc := "([B[B)Z" } : Jvm.MethodName) jdk_43_method_13_code (3 : Nat) (Option.some Jvm.ClassFile.FieldType.boolean), Jvm.Cond.code ({ cls := "com/example/writd/writd/model/ClientSource", name := "value", desc := "()Ljava/lang/String;" } : Jvm.MethodName) prog_15_method_4_code (1 : Nat) (Option.some (Jvm.ClassFile.FieldType.object "java/lang/String"))]
set_option maxRecDepth 65536 in
theorem codes_eq : words1.filter isCode = codes1 := rfl
theorem w_codes : ∀ c ∈ words1.filter isCode, c.before args0 about1 = true := by
  rw [codes_eq]
  intro c hc
  simp only [codes1, List.mem_cons, List.not_mem_nil, or_false] at hc
  rcases hc with rfl | rfl | rfl | rfl | rfl | rfl | rfl | rfl | rfl | rfl | rfl | rfl
  · exact w_c0
  · exact w_c1
  · exact w_c2
  · exact w_c3
  · exact w_c4
  · exact w_c5
  · exact w_c6
  · exact w_c7
  · exact w_c8
  · exact w_c9
  · exact w_c10
  · exact w_c11
set_option maxRecDepth 65536 in
theorem w_t1 : (words1.take 24).all (fun c => isCode c || c.before args0 about1) = true := by decide +kernel
set_option maxRecDepth 65536 in
theorem w_t2 : ((words1.drop 24).take 24).all (fun c => isCode c || c.before args0 about1) = true := by decide +kernel
set_option maxRecDepth 65536 in
theorem w_t3 : (((words1.drop 24).drop 24).take 24).all (fun c => isCode c || c.before args0 about1) = true := by decide +kernel
set_option maxRecDepth 65536 in
theorem w_t4 : (((words1.drop 24).drop 24).drop 24).all (fun c => isCode c || c.before args0 about1) = true := by decide +kernel
theorem w_tables : (allAtoms (Jvm.Cond.code x code maxLocals ret :: tables_1)).before args0 about1 = true := by
  rw [allAtoms_all]
  show words1.all (fun c => c.before args0 about1) = true
  refine all_split ?_ w_codes
  rw [← List.take_append_drop 24 words1, List.all_append, w_t1, ← List.take_append_drop 24 (words1.drop 24), List.all_append, w_t2, ← List.take_append_drop 24 ((words1.drop 24).drop 24), List.all_append, w_t3, w_t4]
  rfl
set_option maxRecDepth 65536 in
theorem w_rest : rest_1_c.before args0 about1 = true := by decide +kernel
set_option maxRecDepth 65536 in
theorem w_case : (Jvm.Cond.and given_1 narrow_1).before args0 about1 = true := by decide +kernel
theorem w_applies : (headSpec (Jvm.Cond.code x code maxLocals ret :: tables_1) room_1).applies x e0.platform about1 = true :=
  (Spec.applies_iff w_frames).mpr ⟨w_running, w_runnable, w_alone, w_named, w_hears, w_ripe, w_room, w_tables⟩
theorem atStart : AtStart classFile x code maxLocals ret World_1 tables_1 room_1 Calls_1 rest_1 Pre_1 launch0 p0 e0 about1 theMethod args0 below0 :=
  ⟨lists_1, trivial, launch0.admits_env _ _ _, launch0.least_env, fairChoices_fair.cas, fairChoices_fair.clock, w_frames, w_args, w_heap, w_applies, trivial, w_rest, w_case⟩
end start1
theorem witness_1 : WitnessClaimed_1 := ⟨start1.p0, start1.e0, start1.about1, start1.theMethod, start1.args0, start1.below0, start1.atStart⟩
end Jvm.Pilot.@@N@@
