import JvmDerived
import JvmDerived.Pilot.@@N@@Statement
import JvmDerived.Pilot.@@N@@Code
set_option linter.unusedVariables false
set_option linter.unusedSimpArgs false
namespace Jvm.RoadKit
open Sem ClassFile Op Lib Jvm.Stand Jvm.Free Jvm.LawKit
section New
variable {p : Program} {l : Launch} {e : Env} {R : Room} {s : State} {m : MethodId} {args : Array Value} {below : List Frame} {meth : Method} {c : Code} {T : State} {locs : List Loc} {cells slots : Nat}
theorem retI (X : Stand p l e R s m args below meth c T locs cells slots) (hx : p.tables.exec = Jvm.exec) {pc : Nat} {Ls : Array Slot} {z : Int32} {rest : List Value} (hret : meth.sig.returnType = some .int) (hd : decode c.code pc = .ok (.ireturn, 1)) {fs : List Frame}
    (hl : ∀ (f : JFrame) (acts : List Action), f.method = m → f.locked = none → f.entered = [] → (doReturn e (T.setTop f) acts (some (.int z))).1 = T.setFrames fs) : Steps p.tables e below (T.setTop (mkF m pc Ls (.int z :: rest))) (T.setFrames fs) := by
  have hm' : T.vm.method? m = some meth := X.method'
  have hn : narrow .int (.int z) = .int z := rfl
  show Steps p.tables e below (T.setTop { method := m, pc := pc, locals := Ls, stack := _ :: rest, locked := none }) _
  jvm_step X.here [X.here.top, hx, hd, hm', hret, hn]
  first | (intro acts; rw [hl _ acts rfl rfl rfl]) | rw [hl _ _ rfl rfl rfl]
  exact Steps.refl _
end New
end Jvm.RoadKit
/- laws to paste: Road.backV (cut by pick.py; bodies as the Statement names them) -/
namespace Jvm.Pilot.@@N@@
namespace StrChars
open Jvm Sem ClassFile Op Lib Jvm.Stand Jvm.Free.XT Jvm.Free.ALB Jvm.Free.JM Jvm.Free
open Jvm.Lib.Cold (StaticIs)
/-- a char array whose places are chars -/
def Ch (a : Addr) (A : Cell) (U : State) : Prop := Arr .char a A U ∧ Typed .char A
theorem Ch.mv {a : Addr} {A : Cell} {U U' : State} (h : Ch a A U) (hal : U.vm.Alike U'.vm) (hh : U'.heap = U.heap) : Ch a A U' := ⟨h.1.mv hal hh, h.2⟩
theorem Ch.keep {a : Addr} {A : Cell} {U U' : State} (h : Ch a A U) (hal : U.vm.Alike U'.vm) (hk : U'.heap[a]? = some A) : Ch a A U' := ⟨h.1.keep hal hk, h.2⟩
/-- what place i of a char[]'s cell holds -/
def cv (A : Cell) (i : Nat) : Int32 := match A.slots[i]? with | some (.int x) => x | _ => 0
theorem Ch.get {a : Addr} {A : Cell} {U : State} (h : Ch a A U) {i : Nat} (hi : i < A.slots.size) : A.slots[i]? = some (.int (cv A i)) := by
  have e := Array.getElem?_eq_getElem hi
  have f := h.2 i _ e
  unfold cv; rw [e]
  generalize A.slots[i] = v at f
  cases v <;> simp [fits] at f ⊢
/-- the byte that i2b leaves of a char -/
def lo8 (x : Int32) : Int32 := x.toInt8.toInt32
theorem fits_lo8 (y : Int32) : fits .byte (.int (lo8 y)) = true := by
  have h1 := y.toInt8.le_toInt
  have h2 := y.toInt8.toInt_lt
  simp only [lo8, fits, Bool.and_eq_true, decide_eq_true_eq, Int32.le_iff_toInt_le, Int8.toInt_toInt32, show (-128 : Int32).toInt = -128 from by decide, show (127 : Int32).toInt = 127 from by decide]
  omega
/-- A' is A but that each place j of lo .. hi - 1 holds f j -/
def Laid (A A' : Cell) (lo hi : Nat) (f : Nat → Value) : Prop := A'.cls = A.cls ∧ A'.vm = A.vm ∧ A'.slots.size = A.slots.size ∧ ∀ i, A'.slots[i]? = if lo ≤ i ∧ i < hi then some (f i) else A.slots[i]?
theorem Laid.zero (A : Cell) (lo : Nat) (f : Nat → Value) : Laid A A lo (lo + 0) f := ⟨rfl, rfl, rfl, fun i => by rw [if_neg (by omega)]⟩
theorem Laid.step {A Ak : Cell} {lo k : Nat} {f : Nat → Value} {v : Value} (h : Laid A Ak lo k f) (hlo : lo ≤ k) (hk : k < Ak.slots.size) (hv : v = f k) : Laid A (Ak.setSlot k v) lo (k + 1) f := by
  refine ⟨h.1, h.2.1, by simpa [Cell.setSlot] using h.2.2.1, fun i => ?_⟩
  by_cases e : k = i
  · subst e; rw [Cell.slots_setSlot_self v hk, if_pos (by omega), hv]
  · rw [Cell.slots_setSlot_ne v e, h.2.2.2 i]
    by_cases q : lo ≤ i ∧ i < k
    · rw [if_pos q, if_pos (by omega)]
    · rw [if_neg q, if_neg (by omega)]
def U16 : String := "java/lang/StringUTF16"
namespace Cmp5
def yN : MethodName := ⟨"java/lang/StringUTF16", "compress", "([CI[BII)I"⟩
abbrev yB : ByteArray := jdk_52_method_21_code
theorem d0 : decode yB 0 = .ok (.iconst 0, 1) := by decide +kernel
theorem d1 : decode yB 1 = .ok (.istore 5, 2) := by decide +kernel
theorem d3 : decode yB 3 = .ok (.iload 5, 2) := by decide +kernel
theorem d5 : decode yB 5 = .ok (.iload 4, 2) := by decide +kernel
theorem d7 : decode yB 7 = .ok (.if_icmp (.ge) 37, 3) := by decide +kernel
theorem d10 : decode yB 10 = .ok (.aload_n 0, 1) := by decide +kernel
theorem d11 : decode yB 11 = .ok (.iload_n 1, 1) := by decide +kernel
theorem d12 : decode yB 12 = .ok (.caload, 1) := by decide +kernel
theorem d13 : decode yB 13 = .ok (.istore 6, 2) := by decide +kernel
theorem d15 : decode yB 15 = .ok (.iload 6, 2) := by decide +kernel
theorem d17 : decode yB 17 = .ok (.sipush 255, 3) := by decide +kernel
theorem d20 : decode yB 20 = .ok (.if_icmp (.le) 6, 3) := by decide +kernel
theorem d26 : decode yB 26 = .ok (.aload_n 2, 1) := by decide +kernel
theorem d27 : decode yB 27 = .ok (.iload_n 3, 1) := by decide +kernel
theorem d28 : decode yB 28 = .ok (.iload 6, 2) := by decide +kernel
theorem d30 : decode yB 30 = .ok (.i2b, 1) := by decide +kernel
theorem d31 : decode yB 31 = .ok (.bastore, 1) := by decide +kernel
theorem d32 : decode yB 32 = .ok (.iinc 1 1, 3) := by decide +kernel
theorem d35 : decode yB 35 = .ok (.iinc 3 1, 3) := by decide +kernel
theorem d38 : decode yB 38 = .ok (.iinc 5 1, 3) := by decide +kernel
theorem d41 : decode yB 41 = .ok (.goto (-38), 3) := by decide +kernel
theorem d44 : decode yB 44 = .ok (.iload 4, 2) := by decide +kernel
theorem d46 : decode yB 46 = .ok (.ireturn, 1) := by decide +kernel
def site : List Cond := []
def tab : Cond := tabOf yN yB 7 (some .int) site
def P (b : Addr) (A : Cell) (d : Addr) (B : Cell) (o q len : Nat) (args : Array Value) (s : State) : Prop := args = #[.ref b, .int (Int32.ofNat o), .ref d, .int (Int32.ofNat q), .int (Int32.ofNat len)] ∧ Ch b A s ∧ Arr .byte d B s ∧ b ≠ d ∧ o + len ≤ A.slots.size ∧ q + len ≤ B.slots.size ∧ ∀ i, i < len → ¬ 255 < cv A (o + i)
def E (b : Addr) (A : Cell) (d : Addr) (B : Cell) (o q len : Nat) (r : Option Value) (s u : State) : Prop := r = some (.int (Int32.ofNat len)) ∧ ∃ B', Put d B' s u ∧ Laid B B' q (q + len) (fun j => Value.int (lo8 (cv A (o + (j - q)))))
/-- no char of the range above 255: len; the places written hold each char's low byte -/
theorem law (l : Launch) (b : Addr) (A : Cell) (d : Addr) (B : Cell) (o q len : Nat) : Law l yN 5 5 0 0 yB 7 (some .int) site (P b A d B o q len) (E b A d B o q len) (copyLocs d q len) 0 0 := by
  refine Law.of_walk (plainFor_of_name (by decide +kernel)) (by decide +kernel) (by decide +kernel) (by decide) (fun _ _ h => by rw [h.1]; rfl) (fun _ U U' hal hh h => ⟨h.1, h.2.1.mv hal hh, h.2.2.1.mv hal hh, h.2.2.2⟩) (fun r U U' V V' h1 hal h2 h => ⟨h.1, h.2.elim fun B' q => ⟨B', q.1.mv h1 h2, q.2⟩⟩) ?_
  intro p e s m args below meth c s₁ X0 hexec hbytes hml hret hlk hnm hown hh0 W hP
  obtain ⟨rfl, hA, hB, hne, l1, l2, hp⟩ := hP
  have c1 : Steps p.tables e below (s₁.setTop (entryFrame m #[.ref b, .int (Int32.ofNat o), .ref d, .int (Int32.ofNat q), .int (Int32.ofNat len)] 7)) (s₁.setTop (mkF m 0 #[.val (.ref b), .val (.int (Int32.ofNat o)), .val (.ref d), .val (.int (Int32.ofNat q)), .val (.int (Int32.ofNat len)), .unset, .unset] [])) := entry rfl
  have hA0 := hA.1.mv X0.warmed.alike hh0
  have hB0 := hB.mv X0.warmed.alike hh0
  have a31 := hA.1.2.2.2
  have c2 : Steps p.tables e below (s₁.setTop (entryFrame m #[.ref b, .int (Int32.ofNat o), .ref d, .int (Int32.ofNat q), .int (Int32.ofNat len)] 7)) (s₁.setTop (mkF m 3 #[.val (.ref b), .val (.int (Int32.ofNat o)), .val (.ref d), .val (.int (Int32.ofNat q)), .val (.int (Int32.ofNat len)), .val (.int 0), .unset] [])) := c1.trans (by
    refine iconstV X0.here hexec rfl 0 (hb hbytes d0) (by decide) ?_
    refine XS.istore X0.here hexec rfl (hb hbytes d1) rfl rfl ?_
    exact Steps.refl _)
  have loop : ∀ (r i : Nat), i + r = len → ∀ (z : Slot), (z = .unset ∨ ∃ w, z = .val w ∧ w.category = 1) → ∀ (Tl : State) (Bk : Cell), Stand p l e { frames := 0, locals := 0, cells := 0, slots := 0 } s m #[.ref b, .int (Int32.ofNat o), .ref d, .int (Int32.ofNat q), .int (Int32.ofNat len)] below meth c Tl ([] ++ copyLocs d q i) 0 0 → Put d Bk s₁ Tl → Laid B Bk q (q + i) (fun j => Value.int (lo8 (cv A (o + (j - q))))) →
      Steps p.tables e below (s₁.setTop (entryFrame m #[.ref b, .int (Int32.ofNat o), .ref d, .int (Int32.ofNat q), .int (Int32.ofNat len)] 7)) (Tl.setTop (mkF m 3 #[.val (.ref b), .val (.int (Int32.ofNat (o + i))), .val (.ref d), .val (.int (Int32.ofNat (q + i))), .val (.int (Int32.ofNat len)), .val (.int (Int32.ofNat i)), z] [])) → ∃ (T' : State) (B' : Cell) (z' : Slot), Stand p l e { frames := 0, locals := 0, cells := 0, slots := 0 } s m #[.ref b, .int (Int32.ofNat o), .ref d, .int (Int32.ofNat q), .int (Int32.ofNat len)] below meth c T' ([] ++ copyLocs d q len) 0 0 ∧ Put d B' s₁ T' ∧ Laid B B' q (q + len) (fun j => Value.int (lo8 (cv A (o + (j - q))))) ∧
      Steps p.tables e below (s₁.setTop (entryFrame m #[.ref b, .int (Int32.ofNat o), .ref d, .int (Int32.ofNat q), .int (Int32.ofNat len)] 7)) (T'.setTop (mkF m 3 #[.val (.ref b), .val (.int (Int32.ofNat (o + len))), .val (.ref d), .val (.int (Int32.ofNat (q + len))), .val (.int (Int32.ofNat len)), .val (.int (Int32.ofNat len)), z'] [])) := by
    intro r
    induction r with
    | zero =>
      intro i hi z hz Tl Bk Xl pl fl cl
      have hil : i = len := by omega
      rw [hil] at Xl fl cl
      exact ⟨Tl, Bk, z, Xl, pl, fl, cl⟩
    | succ r ih =>
      intro i hi z hz Tl Bk Xl pl fl cl
      have all := X0.warmed.alike.symm.trans Xl.warmed.alike
      have hAl := hA0.keep all (pl.other hne hA0.1)
      have hBk := hB0.like all pl.1 fl.1 fl.2.1 fl.2.2.1
      have hlt : q + i < Bk.slots.size := by rw [fl.2.2.1]; omega
      have c3 : Steps p.tables e below (s₁.setTop (entryFrame m #[.ref b, .int (Int32.ofNat o), .ref d, .int (Int32.ofNat q), .int (Int32.ofNat len)] 7)) (Tl.setTop (mkF m 12 #[.val (.ref b), .val (.int (Int32.ofNat (o + i))), .val (.ref d), .val (.int (Int32.ofNat (q + i))), .val (.int (Int32.ofNat len)), .val (.int (Int32.ofNat i)), z] [.int (Int32.ofNat (o + i)), .ref b])) := cl.trans (by
        refine XS.iload Xl.here hexec rfl (hb hbytes d3) rfl ?_
        refine XS.iload Xl.here hexec rfl (hb hbytes d5) rfl ?_
        refine XS.icmpNo Xl.here hexec rfl (hb hbytes d7) rfl (ii_ge_f (lt32 (by omega) (by omega))) ?_
        refine XS.aloadN Xl.here hexec rfl (hb hbytes d10) rfl rfl ?_
        refine XS.iloadN Xl.here hexec rfl (hb hbytes d11) rfl ?_
        exact Steps.refl _)
      have c4 : Steps p.tables e below (s₁.setTop (entryFrame m #[.ref b, .int (Int32.ofNat o), .ref d, .int (Int32.ofNat q), .int (Int32.ofNat len)] 7)) (Tl.setTop (mkF m 13 #[.val (.ref b), .val (.int (Int32.ofNat (o + i))), .val (.ref d), .val (.int (Int32.ofNat (q + i))), .val (.int (Int32.ofNat len)), .val (.int (Int32.ofNat i)), z] [.int (cv A (o + i))])) := c3.trans (by
        refine Xl.aget hexec hAl rfl (hA.get (i := o + i) (by omega)) rfl rfl (hb hbytes d12) ?_
        exact Steps.refl _)
      have c5 : Steps p.tables e below (s₁.setTop (entryFrame m #[.ref b, .int (Int32.ofNat o), .ref d, .int (Int32.ofNat q), .int (Int32.ofNat len)] 7)) (Tl.setTop (mkF m 15 #[.val (.ref b), .val (.int (Int32.ofNat (o + i))), .val (.ref d), .val (.int (Int32.ofNat (q + i))), .val (.int (Int32.ofNat len)), .val (.int (Int32.ofNat i)), .val (.int (cv A (o + i)))] [])) := c4.trans (by
        refine XS.istoreS Xl.here hexec rfl (hb hbytes d13) rfl rfl hz ?_
        exact Steps.refl _)
      have c6 : Steps p.tables e below (s₁.setTop (entryFrame m #[.ref b, .int (Int32.ofNat o), .ref d, .int (Int32.ofNat q), .int (Int32.ofNat len)] 7)) (Tl.setTop (mkF m 31 #[.val (.ref b), .val (.int (Int32.ofNat (o + i))), .val (.ref d), .val (.int (Int32.ofNat (q + i))), .val (.int (Int32.ofNat len)), .val (.int (Int32.ofNat i)), .val (.int (cv A (o + i)))] [.int (lo8 (cv A (o + i))), .int (Int32.ofNat (q + i)), .ref d])) := c5.trans (by
        refine XS.iload Xl.here hexec rfl (hb hbytes d15) rfl ?_
        refine sipushV Xl.here hexec rfl 255 (hb hbytes d17) (by decide) ?_
        refine XS.icmpYes Xl.here hexec rfl (pc0 := 20) rfl (hb hbytes d20) rfl (ii_le_t (hp i (by omega))) (by decide) rfl ?_
        refine XS.aloadN Xl.here hexec rfl (hb hbytes d26) rfl rfl ?_
        refine XS.iloadN Xl.here hexec rfl (hb hbytes d27) rfl ?_
        refine XS.iload Xl.here hexec rfl (hb hbytes d28) rfl ?_
        refine i2b Xl.here hexec rfl (hb hbytes d30) rfl ?_
        exact Steps.refl _)
      obtain ⟨T7, X7, p7, st7⟩ := Xl.aput hexec hBk rfl hlt rfl (fits_lo8 (cv A (o + i))) (g := (mkF m 31 #[.val (.ref b), .val (.int (Int32.ofNat (o + i))), .val (.ref d), .val (.int (Int32.ofNat (q + i))), .val (.int (Int32.ofNat len)), .val (.int (Int32.ofNat i)), .val (.int (cv A (o + i)))] [.int (lo8 (cv A (o + i))), .int (Int32.ofNat (q + i)), .ref d])) rfl (rest := []) rfl (hb hbytes d31)
      have c8 : Steps p.tables e below (s₁.setTop (entryFrame m #[.ref b, .int (Int32.ofNat o), .ref d, .int (Int32.ofNat q), .int (Int32.ofNat len)] 7)) (T7.setTop (mkF m 32 #[.val (.ref b), .val (.int (Int32.ofNat (o + i))), .val (.ref d), .val (.int (Int32.ofNat (q + i))), .val (.int (Int32.ofNat len)), .val (.int (Int32.ofNat i)), .val (.int (cv A (o + i)))] [])) := c6.trans (st7 _ (Steps.refl _))
      have c9 : Steps p.tables e below (s₁.setTop (entryFrame m #[.ref b, .int (Int32.ofNat o), .ref d, .int (Int32.ofNat q), .int (Int32.ofNat len)] 7)) (T7.setTop (mkF m 3 #[.val (.ref b), .val (.int (Int32.ofNat (o + i) + 1)), .val (.ref d), .val (.int (Int32.ofNat (q + i) + 1)), .val (.int (Int32.ofNat len)), .val (.int (Int32.ofNat i + 1)), .val (.int (cv A (o + i)))] [])) := c8.trans (by
        refine iincV X7.here hexec rfl 1 (hb hbytes d32) (by decide) rfl rfl ?_
        refine iincV X7.here hexec rfl 1 (hb hbytes d35) (by decide) rfl rfl ?_
        refine iincV X7.here hexec rfl 1 (hb hbytes d38) (by decide) rfl rfl ?_
        refine XS.goto X7.here hexec rfl (pc0 := 41) rfl (hb hbytes d41) (by decide) rfl ?_
        exact Steps.refl _)
      have c10 : Steps p.tables e below (s₁.setTop (entryFrame m #[.ref b, .int (Int32.ofNat o), .ref d, .int (Int32.ofNat q), .int (Int32.ofNat len)] 7)) (T7.setTop (mkF m 3 #[.val (.ref b), .val (.int (Int32.ofNat (o + (i + 1)))), .val (.ref d), .val (.int (Int32.ofNat (q + (i + 1)))), .val (.int (Int32.ofNat len)), .val (.int (Int32.ofNat (i + 1))), .val (.int (cv A (o + i)))] [])) := by
        have := c9
        rw [succ32, succ32, succ32] at this
        exact this
      exact ih (i + 1) (by omega) _ (Or.inr ⟨_, rfl, rfl⟩) T7 _ (by rw [copyLocs_step, ← List.append_assoc]; exact X7) (pl.trans p7) (fl.step (by omega) hlt (by simp)) c10
  obtain ⟨T9, B9, z9, X9, p9, f9, g9⟩ := loop len 0 (by omega) .unset (Or.inl rfl) s₁ B (by simpa [copyLocs] using X0) ⟨hB0.1, fun _ _ => rfl, rfl⟩ (Laid.zero _ _ _) c2
  have c11 : Steps p.tables e below (s₁.setTop (entryFrame m #[.ref b, .int (Int32.ofNat o), .ref d, .int (Int32.ofNat q), .int (Int32.ofNat len)] 7)) (T9.setTop (mkF m 46 #[.val (.ref b), .val (.int (Int32.ofNat (o + len))), .val (.ref d), .val (.int (Int32.ofNat (q + len))), .val (.int (Int32.ofNat len)), .val (.int (Int32.ofNat len)), z9] [.int (Int32.ofNat len)])) := g9.trans (by
    refine XS.iload X9.here hexec rfl (hb hbytes d3) rfl ?_
    refine XS.iload X9.here hexec rfl (hb hbytes d5) rfl ?_
    refine XS.icmpYes X9.here hexec rfl (pc0 := 7) rfl (hb hbytes d7) rfl (ii_ge_t (nlt32 (by omega) (Nat.le_refl _))) (by decide) rfl ?_
    refine XS.iload X9.here hexec rfl (hb hbytes d44) rfl ?_
    exact Steps.refl _)
  exact ⟨T9, some (.int (Int32.ofNat len)), _, _, _, X9, by simp, rfl, rfl, (fun h => by cases h), ⟨rfl, B9, p9.from hh0, f9⟩, fun fs hl => c11.trans (X9.ireturnOut hexec hret rfl (Or.inl rfl) (hb hbytes d46) hl)⟩
end Cmp5
namespace Cmp3
def yN : MethodName := ⟨"java/lang/StringUTF16", "compress", "([CII)[B"⟩
abbrev yB : ByteArray := jdk_52_method_16_code
theorem d0 : decode yB 0 = .ok (.iload_n 2, 1) := by decide +kernel
theorem d1 : decode yB 1 = .ok (.newarray .byte, 2) := by decide +kernel
theorem d3 : decode yB 3 = .ok (.astore_n 3, 1) := by decide +kernel
theorem d4 : decode yB 4 = .ok (.aload_n 0, 1) := by decide +kernel
theorem d5 : decode yB 5 = .ok (.iload_n 1, 1) := by decide +kernel
theorem d6 : decode yB 6 = .ok (.aload_n 3, 1) := by decide +kernel
theorem d7 : decode yB 7 = .ok (.iconst 0, 1) := by decide +kernel
theorem d8 : decode yB 8 = .ok (.iload_n 2, 1) := by decide +kernel
theorem d9 : decode yB 9 = .ok (.invokestatic 115, 3) := by decide +kernel
theorem d12 : decode yB 12 = .ok (.istore 4, 2) := by decide +kernel
theorem d14 : decode yB 14 = .ok (.iload 4, 2) := by decide +kernel
theorem d16 : decode yB 16 = .ok (.iload_n 2, 1) := by decide +kernel
theorem d17 : decode yB 17 = .ok (.if_icmp (.eq) 40, 3) := by decide +kernel
theorem d57 : decode yB 57 = .ok (.aload_n 3, 1) := by decide +kernel
theorem d58 : decode yB 58 = .ok (.areturn, 1) := by decide +kernel
def site : List Cond := [.arrayClass .byte, Cmp5.tab] ++ staticW U16 115 Cmp5.yN
def tab : Cond := tabOf yN yB 6 (some (.array .byte)) site
def P (b : Addr) (A : Cell) (o len : Nat) (args : Array Value) (s : State) : Prop := args = #[.ref b, .int (Int32.ofNat o), .int (Int32.ofNat len)] ∧ Ch b A s ∧ o + len ≤ A.slots.size ∧ len ≤ 536870912 ∧ ∀ i, i < len → ¬ 255 < cv A (o + i)
def E (b : Addr) (A : Cell) (o len : Nat) (r : Option Value) (s u : State) : Prop := NewArr .byte "[B" len (fun j => .int (lo8 (cv A (o + j)))) r s u ∧ u.heap.size = s.heap.size + 1
/-- no char of the range above 255: a new byte[] of their low bytes -/
theorem law (l : Launch) (b : Addr) (A : Cell) (o len : Nat) : Law l yN 3 3 1 18 yB 6 (some (.array .byte)) site (P b A o len) (E b A o len) [] 1 len := by
  refine Law.of_walk (plainFor_of_name (by decide +kernel)) (by decide +kernel) (by decide +kernel) (by decide) (fun _ _ h => by rw [h.1]; rfl) (fun _ U U' hal hh h => ⟨h.1, h.2.1.mv hal hh, h.2.2⟩) (fun r U U' V V' h1 hal h2 h => ⟨NewArr.mv r U U' V V' h1 hal h2 h.1, by rw [h1, h2]; exact h.2⟩) ?_
  intro p e s m args below meth c s₁ X0 hexec hbytes hml hret hlk hnm hown hh0 W hP
  obtain ⟨rfl, hA, l1, l2, hp⟩ := hP
  have a31 := hA.1.2.2.2
  have c1 : Steps p.tables e below (s₁.setTop (entryFrame m #[.ref b, .int (Int32.ofNat o), .int (Int32.ofNat len)] 6)) (s₁.setTop (mkF m 0 #[.val (.ref b), .val (.int (Int32.ofNat o)), .val (.int (Int32.ofNat len)), .unset, .unset, .unset] [])) := entry rfl
  have c2 : Steps p.tables e below (s₁.setTop (entryFrame m #[.ref b, .int (Int32.ofNat o), .int (Int32.ofNat len)] 6)) (s₁.setTop (mkF m 1 #[.val (.ref b), .val (.int (Int32.ofNat o)), .val (.int (Int32.ofNat len)), .unset, .unset, .unset] [.int (Int32.ofNat len)])) := c1.trans (by
    refine XS.iloadN X0.here hexec rfl (hb hbytes d0) rfl ?_
    exact Steps.refl _)
  obtain ⟨T3, B3, X3, ba3, bs3, bv3, bh3, bf3, st3⟩ := X0.anew hexec (atype := .byte) (wk W (.arrayClass .byte)) rfl (by show len * 1 ≤ _; omega) (by omega) (g := (mkF m 1 #[.val (.ref b), .val (.int (Int32.ofNat o)), .val (.int (Int32.ofNat len)), .unset, .unset, .unset] [.int (Int32.ofNat len)])) rfl (hb hbytes d1) (rest := []) rfl (Nat.le_refl _) (by show 0 + len ≤ len; omega)
  rw [hh0] at ba3 st3
  have kp3 : XT.Kept s T3 := (XT.Kept.of_eq hh0).push bh3
  have hA3 := hA.keep X3.warmed.alike (kp3 _ _ hA.1.1)
  have hne : b ≠ s.heap.size := hA.1.ne
  have c4 : Steps p.tables e below (s₁.setTop (entryFrame m #[.ref b, .int (Int32.ofNat o), .int (Int32.ofNat len)] 6)) (T3.setTop (mkF m 3 #[.val (.ref b), .val (.int (Int32.ofNat o)), .val (.int (Int32.ofNat len)), .unset, .unset, .unset] [.ref s.heap.size])) := c2.trans (st3 _ (Steps.refl _))
  have c5 : Steps p.tables e below (s₁.setTop (entryFrame m #[.ref b, .int (Int32.ofNat o), .int (Int32.ofNat len)] 6)) (T3.setTop (mkF m 9 #[.val (.ref b), .val (.int (Int32.ofNat o)), .val (.int (Int32.ofNat len)), .val (.ref s.heap.size), .unset, .unset] [.int (Int32.ofNat len), .int 0, .ref s.heap.size, .int (Int32.ofNat o), .ref b])) := c4.trans (by
    refine XS.astoreN X3.here hexec rfl (hb hbytes d3) rfl rfl rfl ?_
    refine XS.aloadN X3.here hexec rfl (hb hbytes d4) rfl rfl ?_
    refine XS.iloadN X3.here hexec rfl (hb hbytes d5) rfl ?_
    refine XS.aloadN X3.here hexec rfl (hb hbytes d6) rfl rfl ?_
    refine iconstV X3.here hexec rfl 0 (hb hbytes d7) (by decide) ?_
    refine XS.iloadN X3.here hexec rfl (hb hbytes d8) rfl ?_
    exact Steps.refl _)
  obtain ⟨v6, T6, X6, E6, g6⟩ := X3.callS hexec (Cmp5.law l b A s.heap.size B3 o 0 len) hown (wks W (staticW U16 115 Cmp5.yN)) (wk W Cmp5.tab) (W := 0) (Nat.le_of_ble_eq_true rfl) (Nat.le_of_ble_eq_true rfl) (Nat.le_refl _) (by show 0 + len + 0 ≤ len; omega) (g := (mkF m 9 #[.val (.ref b), .val (.int (Int32.ofNat o)), .val (.int (Int32.ofNat len)), .val (.ref s.heap.size), .unset, .unset] [.int (Int32.ofNat len), .int (Int32.ofNat 0), .ref s.heap.size, .int (Int32.ofNat o), .ref b])) rfl (by rw [hml]; rfl) c5 (argsL := [.ref b, .int (Int32.ofNat o), .ref s.heap.size, .int (Int32.ofNat 0), .int (Int32.ofNat len)]) (rest := []) rfl rfl (by show 2 * 0 + 0 ≤ _; decide) (hb hbytes d9) (⟨rfl, hA3, ba3, hne, l1, by rw [bs3]; simp, hp⟩)
  obtain ⟨rfl, B6, p6, f6⟩ := E6
  have c7 : Steps p.tables e below (s₁.setTop (entryFrame m #[.ref b, .int (Int32.ofNat o), .int (Int32.ofNat len)] 6)) (T6.setTop (mkF m 12 #[.val (.ref b), .val (.int (Int32.ofNat o)), .val (.int (Int32.ofNat len)), .val (.ref s.heap.size), .unset, .unset] [.int (Int32.ofNat len)])) := g6
  have c8 : Steps p.tables e below (s₁.setTop (entryFrame m #[.ref b, .int (Int32.ofNat o), .int (Int32.ofNat len)] 6)) (T6.setTop (mkF m 58 #[.val (.ref b), .val (.int (Int32.ofNat o)), .val (.int (Int32.ofNat len)), .val (.ref s.heap.size), .val (.int (Int32.ofNat len)), .unset] [.ref s.heap.size])) := c7.trans (by
    refine XS.istore X6.here hexec rfl (hb hbytes d12) rfl rfl ?_
    refine XS.iload X6.here hexec rfl (hb hbytes d14) rfl ?_
    refine XS.iloadN X6.here hexec rfl (hb hbytes d16) rfl ?_
    refine XS.icmpYes X6.here hexec rfl (pc0 := 17) rfl (hb hbytes d17) rfl (ii_eq_t rfl) (by decide) rfl ?_
    refine XS.aloadN X6.here hexec rfl (hb hbytes d57) rfl rfl ?_
    exact Steps.refl _)
  have X8 := X6.wide (L' := []) (cells' := 1) (slots' := len) (fun x hx hlt => by
    simp only [List.nil_append, copyLocs, List.mem_map, List.mem_range] at hx
    obtain ⟨i, -, rfl⟩ := hx
    exact absurd hlt (Nat.lt_irrefl _)) (Nat.le_refl _) (by omega)
  exact ⟨T6, some (.ref s.heap.size), _, _, _, X8, rfl, rfl, rfl, (fun h => by cases h), ⟨⟨rfl, B6, ba3.like (X3.warmed.alike.symm.trans X6.warmed.alike) p6.1 f6.1 f6.2.1 f6.2.2.1, f6.2.1.trans bv3, by rw [X6.warmed.alike.findClass, f6.1]; exact bf3, by rw [f6.2.2.1, bs3]; simp, fun j hj => by rw [f6.2.2.2 j, if_pos (by omega)]; rfl, kp3.put p6 (Nat.le_refl _)⟩, by rw [p6.2.2, bh3, hh0]; simp⟩, fun fs hl => c8.trans (X8.areturnOut hexec rfl hret rfl (hb hbytes d58) hl)⟩
end Cmp3
namespace CodL
def yN : MethodName := ⟨"java/lang/StringUTF16", "coderFromArrayLen", "([BI)B"⟩
abbrev yB : ByteArray := jdk_52_method_15_code
theorem d0 : decode yB 0 = .ok (.iload_n 1, 1) := by decide +kernel
theorem d1 : decode yB 1 = .ok (.aload_n 0, 1) := by decide +kernel
theorem d2 : decode yB 2 = .ok (.arraylength, 1) := by decide +kernel
theorem d3 : decode yB 3 = .ok (.isub, 1) := by decide +kernel
theorem d4 : decode yB 4 = .ok (.bipush 31, 2) := by decide +kernel
theorem d6 : decode yB 6 = .ok (.iushr, 1) := by decide +kernel
theorem d7 : decode yB 7 = .ok (.i2b, 1) := by decide +kernel
theorem d8 : decode yB 8 = .ok (.ireturn, 1) := by decide +kernel
def site : List Cond := []
def tab : Cond := tabOf yN yB 2 (some .byte) site
def P (d : Addr) (B : Cell) (args : Array Value) (s : State) : Prop := args = #[.ref d, .int (Int32.ofNat B.slots.size)] ∧ Arr .byte d B s
def E (r : Option Value) (s u : State) : Prop := XT.PureE (some (.int 0)) r s u
/-- an array as long as the number of chars: LATIN1 -/
theorem law (l : Launch) (d : Addr) (B : Cell) : Law l yN 2 2 0 0 yB 2 (some .byte) site (P d B) E [] 0 0 := by
  refine Law.of_walk (plainFor_of_name (by decide +kernel)) (by decide +kernel) (by decide +kernel) (by decide) (fun _ _ h => by rw [h.1]; rfl) (fun _ U U' hal hh h => ⟨h.1, h.2.mv hal hh⟩) (fun r U U' V V' h1 hal h2 h => XT.PureE.mv r U U' V V' h1 hal h2 h) ?_
  intro p e s m args below meth c s₁ X0 hexec hbytes hml hret hlk hnm hown hh0 W hP
  obtain ⟨rfl, hB⟩ := hP
  have hB0 := hB.mv X0.warmed.alike hh0
  have c1 : Steps p.tables e below (s₁.setTop (entryFrame m #[.ref d, .int (Int32.ofNat B.slots.size)] 2)) (s₁.setTop (mkF m 0 #[.val (.ref d), .val (.int (Int32.ofNat B.slots.size))] [])) := entry rfl
  have c2 : Steps p.tables e below (s₁.setTop (entryFrame m #[.ref d, .int (Int32.ofNat B.slots.size)] 2)) (s₁.setTop (mkF m 2 #[.val (.ref d), .val (.int (Int32.ofNat B.slots.size))] [.ref d, .int (Int32.ofNat B.slots.size)])) := c1.trans (by
    refine XS.iloadN X0.here hexec rfl (hb hbytes d0) rfl ?_
    refine XS.aloadN X0.here hexec rfl (hb hbytes d1) rfl rfl ?_
    exact Steps.refl _)
  have c3 : Steps p.tables e below (s₁.setTop (entryFrame m #[.ref d, .int (Int32.ofNat B.slots.size)] 2)) (s₁.setTop (mkF m 8 #[.val (.ref d), .val (.int (Int32.ofNat B.slots.size))] [.int (lo8 (ushr (Int32.ofNat B.slots.size - Int32.ofNat B.slots.size) 31))])) := c2.trans (by
    refine X0.alen hexec hB0 rfl rfl (hb hbytes d2) ?_
    refine XS.isub X0.here hexec rfl (hb hbytes d3) rfl ?_
    refine bipushV X0.here hexec rfl 31 (hb hbytes d4) (by decide) ?_
    refine iushr X0.here hexec rfl (hb hbytes d6) rfl ?_
    refine i2b X0.here hexec rfl (hb hbytes d7) rfl ?_
    exact Steps.refl _)
  have e0 : lo8 (ushr (Int32.ofNat B.slots.size - Int32.ofNat B.slots.size) 31) = 0 := by rw [Int32.sub_self]; decide
  rw [e0] at c3
  exact ⟨s₁, some (.int 0), _, _, _, X0, rfl, rfl, rfl, (fun h => by cases h), ⟨rfl, hh0⟩, fun fs hl => c3.trans (X0.ireturnOut hexec hret rfl (Or.inr (Or.inr (Or.inl rfl))) (hb hbytes d8) hl)⟩
end CodL
/-- the String at a is Latin-1 over a new byte[] (the heap's one new cell): the low bytes of the len chars of A from o on; every cell but a is kept -/
def Got (a : Addr) (D : Cell) (fV fC : Field) (A : Cell) (o len : Nat) (r : Option Value) (s u : State) : Prop := r = none ∧ ∃ D' V : Cell, Blank "java/lang/String" a D' u ∧ Same D D' [fV.slot, fC.slot] ∧ D'.slots[fV.slot]? = some (.ref s.heap.size) ∧ D'.slots[fC.slot]? = some (.int 0) ∧ Arr .byte s.heap.size V u ∧ V.vm = .none ∧ u.vm.findClass "[B" = some V.cls ∧ V.slots.size = len ∧ (∀ j, j < len → V.slots[j]? = some (.int (lo8 (cv A (o + j))))) ∧ (∀ (y : Addr) (c : Cell), y ≠ a → s.heap[y]? = some c → u.heap[y]? = some c) ∧ u.heap.size = s.heap.size + 1
theorem Got.mv {a : Addr} {D A : Cell} {fV fC : Field} {o len : Nat} : ∀ r (U U' V V' : State), U'.heap = U.heap → V.vm.Alike V'.vm → V'.heap = V.heap → Got a D fV fC A o len r U V → Got a D fV fC A o len r U' V' :=
  fun r U U' V V' h1 hal h2 ⟨e0, D', X, a1, a2, a3, a4, a5, a6, a7, a8, a9, a10, a11⟩ => ⟨e0, D', X, a1.mv hal h2, a2, by rw [h1]; exact a3, a4, by rw [h1]; exact a5.mv hal h2, a6, by rw [hal.findClass]; exact a7, a8, a9, by rw [h1, h2]; exact a10, by rw [h1, h2]; exact a11⟩
namespace New4
def yN : MethodName := ⟨"java/lang/String", "<init>", "([CIILjava/lang/Void;)V"⟩
abbrev yB : ByteArray := jdk_42_method_149_code
theorem d0 : decode yB 0 = .ok (.aload_n 0, 1) := by decide +kernel
theorem d1 : decode yB 1 = .ok (.invokespecial 1, 3) := by decide +kernel
theorem d4 : decode yB 4 = .ok (.iload_n 3, 1) := by decide +kernel
theorem d5 : decode yB 5 = .ok (.ifCond (.ne) 22, 3) := by decide +kernel
theorem d27 : decode yB 27 = .ok (.getstatic 38, 3) := by decide +kernel
theorem d30 : decode yB 30 = .ok (.ifCond (.eq) 28, 3) := by decide +kernel
theorem d33 : decode yB 33 = .ok (.aload_n 1, 1) := by decide +kernel
theorem d34 : decode yB 34 = .ok (.iload_n 2, 1) := by decide +kernel
theorem d35 : decode yB 35 = .ok (.iload_n 3, 1) := by decide +kernel
theorem d36 : decode yB 36 = .ok (.invokestatic 177, 3) := by decide +kernel
theorem d39 : decode yB 39 = .ok (.astore 5, 2) := by decide +kernel
theorem d41 : decode yB 41 = .ok (.aload_n 0, 1) := by decide +kernel
theorem d42 : decode yB 42 = .ok (.aload 5, 2) := by decide +kernel
theorem d44 : decode yB 44 = .ok (.iload_n 3, 1) := by decide +kernel
theorem d45 : decode yB 45 = .ok (.invokestatic 47, 3) := by decide +kernel
theorem d48 : decode yB 48 = .ok (.putfield 15, 3) := by decide +kernel
theorem d51 : decode yB 51 = .ok (.aload_n 0, 1) := by decide +kernel
theorem d52 : decode yB 52 = .ok (.aload 5, 2) := by decide +kernel
theorem d54 : decode yB 54 = .ok (.putfield 9, 3) := by decide +kernel
theorem d57 : decode yB 57 = .ok (.return_, 1) := by decide +kernel
def site : List Cond := [.fieldLink "java/lang/String" 38 "java/lang/String" "COMPACT_STRINGS" "Z", Cmp3.tab, CodL.tab, .laysFinal "java/lang/String" "java/lang/String" "value" "[B", .fieldLink "java/lang/String" 9 "java/lang/String" "value" "[B", .laysFinal "java/lang/String" "java/lang/String" "coder" "B", .fieldLink "java/lang/String" 15 "java/lang/String" "coder" "B"] ++ objW "java/lang/String" 1 ++ staticW "java/lang/String" 177 Cmp3.yN ++ staticW "java/lang/String" 47 CodL.yN
def tab : Cond := tabOf yN yB 6 none site
def P (a : Addr) (D : Cell) (fV fC : Field) (b : Addr) (A : Cell) (z : Int32) (o len : Nat) (args : Array Value) (s : State) : Prop := args = #[.ref a, .ref b, .int (Int32.ofNat o), .int (Int32.ofNat len), .null] ∧ Blank "java/lang/String" a D s ∧ Found "java/lang/String" "value" "[B" fV s ∧ Found "java/lang/String" "coder" "B" fC s ∧ Ch b A s ∧ StaticIs s "java/lang/String" "COMPACT_STRINGS" "Z" (.int z) ∧ ¬ z = 0 ∧ 0 < len ∧ o + len ≤ A.slots.size ∧ len ≤ 536870912 ∧ ∀ i, i < len → ¬ 255 < cv A (o + i)
def E (a : Addr) (D : Cell) (fV fC : Field) (A : Cell) (o len : Nat) (r : Option Value) (s u : State) : Prop := Got a D fV fC A o len r s u
/-- len > 0, no char of the range above 255: a Latin-1 String of their low bytes -/
theorem law (l : Launch) (a : Addr) (D : Cell) (fV fC : Field) (b : Addr) (A : Cell) (z : Int32) (o len : Nat) : Law l yN 5 4 2 35 yB 6 none site (P a D fV fC b A z o len) (E a D fV fC A o len) [⟨a, fC.slot⟩, ⟨a, fV.slot⟩] 1 len := by
  refine Law.of_walk (plainFor_of_name (by decide +kernel)) (by decide +kernel) (by decide +kernel) (by decide) (fun _ _ h => by rw [h.1]; rfl) (fun _ U U' hal hh h => ⟨h.1, h.2.1.mv hal hh, h.2.2.1.al hal, h.2.2.2.1.al hal, h.2.2.2.2.1.mv hal hh, h.2.2.2.2.2.1.there hal hh, h.2.2.2.2.2.2⟩) (fun r U U' V V' h1 hal h2 h => Got.mv r U U' V V' h1 hal h2 h) ?_
  intro p e s m args below meth c s₁ X0 hexec hbytes hml hret hlk hnm hown hh0 W hP
  obtain ⟨rfl, hB, f1, f2, hA, s1, hz, l0, l1, l2, hp⟩ := hP
  have a31 := hA.1.2.2.2
  have c1 : Steps p.tables e below (s₁.setTop (entryFrame m #[.ref a, .ref b, .int (Int32.ofNat o), .int (Int32.ofNat len), .null] 6)) (s₁.setTop (mkF m 0 #[.val (.ref a), .val (.ref b), .val (.int (Int32.ofNat o)), .val (.int (Int32.ofNat len)), .val .null, .unset] [])) := entry rfl
  have c2 : Steps p.tables e below (s₁.setTop (entryFrame m #[.ref a, .ref b, .int (Int32.ofNat o), .int (Int32.ofNat len), .null] 6)) (s₁.setTop (mkF m 1 #[.val (.ref a), .val (.ref b), .val (.int (Int32.ofNat o)), .val (.int (Int32.ofNat len)), .val .null, .unset] [.ref a])) := c1.trans (by
    refine XS.aloadN X0.here hexec rfl (hb hbytes d0) rfl rfl ?_
    exact Steps.refl _)
  obtain ⟨T3, X3, q3, st3⟩ := X0.oinit hexec hown (wks W (objW "java/lang/String" 1)) (g := (mkF m 1 #[.val (.ref a), .val (.ref b), .val (.int (Int32.ofNat o)), .val (.int (Int32.ofNat len)), .val .null, .unset] [.ref a])) rfl (by rw [hml]; rfl) (rest := []) rfl (hb hbytes d1) (W := 0) (by show 2 * 0 + 0 ≤ _; decide) (Nat.le_of_ble_eq_true rfl) (Nat.le_of_ble_eq_true rfl)
  have hh3 := q3.trans hh0
  have c4 : Steps p.tables e below (s₁.setTop (entryFrame m #[.ref a, .ref b, .int (Int32.ofNat o), .int (Int32.ofNat len), .null] 6)) (T3.setTop (mkF m 27 #[.val (.ref a), .val (.ref b), .val (.int (Int32.ofNat o)), .val (.int (Int32.ofNat len)), .val .null, .unset] [])) := (c2.trans (st3 _ (Steps.refl _))).trans (by
    refine XS.iloadN X3.here hexec rfl (hb hbytes d4) rfl ?_
    refine XS.ifYes X3.here hexec rfl (pc0 := 5) rfl (hb hbytes d5) rfl (i0_ne_t (nz32 (by omega) l0)) (by decide) rfl ?_
    exact Steps.refl _)
  obtain ⟨T5, X5, q5, st5⟩ := X3.sget hexec hown (wk W (.fieldLink "java/lang/String" 38 "java/lang/String" "COMPACT_STRINGS" "Z")) s1 (fun _ _ h => by rw [hh3]; exact h) (g := (mkF m 27 #[.val (.ref a), .val (.ref b), .val (.int (Int32.ofNat o)), .val (.int (Int32.ofNat len)), .val .null, .unset] [])) rfl (hb hbytes d27)
  have hh5 := q5.trans hh3
  have c6 : Steps p.tables e below (s₁.setTop (entryFrame m #[.ref a, .ref b, .int (Int32.ofNat o), .int (Int32.ofNat len), .null] 6)) (T5.setTop (mkF m 30 #[.val (.ref a), .val (.ref b), .val (.int (Int32.ofNat o)), .val (.int (Int32.ofNat len)), .val .null, .unset] [.int z])) := c4.trans (st5 _ (Steps.refl _))
  have c7 : Steps p.tables e below (s₁.setTop (entryFrame m #[.ref a, .ref b, .int (Int32.ofNat o), .int (Int32.ofNat len), .null] 6)) (T5.setTop (mkF m 36 #[.val (.ref a), .val (.ref b), .val (.int (Int32.ofNat o)), .val (.int (Int32.ofNat len)), .val .null, .unset] [.int (Int32.ofNat len), .int (Int32.ofNat o), .ref b])) := c6.trans (by
    refine XS.ifNo X5.here hexec rfl (hb hbytes d30) rfl (i0_eq_f hz) ?_
    refine XS.aloadN X5.here hexec rfl (hb hbytes d33) rfl rfl ?_
    refine XS.iloadN X5.here hexec rfl (hb hbytes d34) rfl ?_
    refine XS.iloadN X5.here hexec rfl (hb hbytes d35) rfl ?_
    exact Steps.refl _)
  obtain ⟨v8, T8, X8, E8, g8⟩ := X5.callS hexec (Cmp3.law l b A o len) hown (wks W (staticW "java/lang/String" 177 Cmp3.yN)) (wk W Cmp3.tab) (W := 0) (Nat.le_of_ble_eq_true rfl) (Nat.le_of_ble_eq_true rfl) (Nat.le_refl _) (by show 0 + len ≤ len; omega) (g := (mkF m 36 #[.val (.ref a), .val (.ref b), .val (.int (Int32.ofNat o)), .val (.int (Int32.ofNat len)), .val .null, .unset] [.int (Int32.ofNat len), .int (Int32.ofNat o), .ref b])) rfl (by rw [hml]; rfl) c7 (argsL := [.ref b, .int (Int32.ofNat o), .int (Int32.ofNat len)]) (rest := []) rfl rfl (by show 2 * 0 + 0 ≤ _; decide) (hb hbytes d36) (⟨rfl, hA.mv X5.warmed.alike hh5, l1, l2, hp⟩)
  obtain ⟨e8, z8⟩ := E8
  obtain ⟨rfl, N, n1, n2, n3, n4, n5, n6⟩ := NewArr.mv _ T5 s _ _ hh5.symm (Vm.Alike.refl _) rfl e8
  rw [hh5] at z8
  have hB1 := hB.keep X8.warmed.alike (n6 _ _ hB.1)
  have hne : s.heap.size ≠ a := (Nat.ne_of_lt (Array.getElem?_eq_some_iff.mp hB.1).1).symm
  have c9 : Steps p.tables e below (s₁.setTop (entryFrame m #[.ref a, .ref b, .int (Int32.ofNat o), .int (Int32.ofNat len), .null] 6)) (T8.setTop (mkF m 39 #[.val (.ref a), .val (.ref b), .val (.int (Int32.ofNat o)), .val (.int (Int32.ofNat len)), .val .null, .unset] [.ref s.heap.size])) := g8
  have c10 : Steps p.tables e below (s₁.setTop (entryFrame m #[.ref a, .ref b, .int (Int32.ofNat o), .int (Int32.ofNat len), .null] 6)) (T8.setTop (mkF m 45 #[.val (.ref a), .val (.ref b), .val (.int (Int32.ofNat o)), .val (.int (Int32.ofNat len)), .val .null, .val (.ref s.heap.size)] [.int (Int32.ofNat N.slots.size), .ref s.heap.size, .ref a])) := by
    have hc : Steps p.tables e below (s₁.setTop (entryFrame m #[.ref a, .ref b, .int (Int32.ofNat o), .int (Int32.ofNat len), .null] 6)) (T8.setTop (mkF m 45 #[.val (.ref a), .val (.ref b), .val (.int (Int32.ofNat o)), .val (.int (Int32.ofNat len)), .val .null, .val (.ref s.heap.size)] [.int (Int32.ofNat len), .ref s.heap.size, .ref a])) := c9.trans (by
      refine XS.astore X8.here hexec rfl (hb hbytes d39) rfl rfl rfl ?_
      refine XS.aloadN X8.here hexec rfl (hb hbytes d41) rfl rfl ?_
      refine XS.aload X8.here hexec rfl (hb hbytes d42) rfl rfl ?_
      refine XS.iloadN X8.here hexec rfl (hb hbytes d44) rfl ?_
      exact Steps.refl _)
    rw [n4]; exact hc
  obtain ⟨v11, T11, X11, E11, g11⟩ := X8.callS hexec (CodL.law l s.heap.size N) hown (wks W (staticW "java/lang/String" 47 CodL.yN)) (wk W CodL.tab) (W := 1) (Nat.le_of_ble_eq_true rfl) (Nat.le_of_ble_eq_true rfl) (Nat.le_refl _) (by show 0 + len + 0 ≤ len; omega) (g := (mkF m 45 #[.val (.ref a), .val (.ref b), .val (.int (Int32.ofNat o)), .val (.int (Int32.ofNat len)), .val .null, .val (.ref s.heap.size)] [.int (Int32.ofNat N.slots.size), .ref s.heap.size, .ref a])) rfl (by rw [hml]; rfl) c10 (argsL := [.ref s.heap.size, .int (Int32.ofNat N.slots.size)]) (rest := [.ref a]) rfl rfl (by show 2 * 0 + (1 + 0) ≤ _; decide) (hb hbytes d45) (⟨rfl, n1⟩)
  obtain ⟨rfl, q11⟩ := E11
  have hB11 := hB1.mv (X8.warmed.alike.symm.trans X11.warmed.alike) q11
  have c12 : Steps p.tables e below (s₁.setTop (entryFrame m #[.ref a, .ref b, .int (Int32.ofNat o), .int (Int32.ofNat len), .null] 6)) (T11.setTop (mkF m 48 #[.val (.ref a), .val (.ref b), .val (.int (Int32.ofNat o)), .val (.int (Int32.ofNat len)), .val .null, .val (.ref s.heap.size)] [.int 0, .ref a])) := g11
  obtain ⟨T13, X13, p13, bl13, sl13, st13⟩ := X11.finit hexec hown (wk W (.fieldLink "java/lang/String" 15 "java/lang/String" "coder" "B")) (Or.inr ⟨_, (wk W (.laysFinal "java/lang/String" "java/lang/String" "coder" "B"))⟩) (Or.inl ⟨rfl, hnm⟩) f2 (Or.inl rfl) hB11 (t := .byte) (by decide +kernel) rfl (g := (mkF m 48 #[.val (.ref a), .val (.ref b), .val (.int (Int32.ofNat o)), .val (.int (Int32.ofNat len)), .val .null, .val (.ref s.heap.size)] [.int 0, .ref a])) rfl (rest := []) rfl (hb hbytes d48)
  have c14 : Steps p.tables e below (s₁.setTop (entryFrame m #[.ref a, .ref b, .int (Int32.ofNat o), .int (Int32.ofNat len), .null] 6)) (T13.setTop (mkF m 54 #[.val (.ref a), .val (.ref b), .val (.int (Int32.ofNat o)), .val (.int (Int32.ofNat len)), .val .null, .val (.ref s.heap.size)] [.ref s.heap.size, .ref a])) := (c12.trans (st13 _ (Steps.refl _))).trans (by
    refine XS.aloadN X13.here hexec rfl (hb hbytes d51) rfl rfl ?_
    refine XS.aload X13.here hexec rfl (hb hbytes d52) rfl rfl ?_
    exact Steps.refl _)
  obtain ⟨T15, X15, p15, bl15, sl15, st15⟩ := X13.finit hexec hown (wk W (.fieldLink "java/lang/String" 9 "java/lang/String" "value" "[B")) (Or.inr ⟨_, (wk W (.laysFinal "java/lang/String" "java/lang/String" "value" "[B"))⟩) (Or.inl ⟨rfl, hnm⟩) f1 (Or.inl rfl) bl13 (t := (.array .byte)) (by decide +kernel) rfl (g := (mkF m 54 #[.val (.ref a), .val (.ref b), .val (.int (Int32.ofNat o)), .val (.int (Int32.ofNat len)), .val .null, .val (.ref s.heap.size)] [.ref s.heap.size, .ref a])) rfl (rest := []) rfl (hb hbytes d54)
  have c16 : Steps p.tables e below (s₁.setTop (entryFrame m #[.ref a, .ref b, .int (Int32.ofNat o), .int (Int32.ofNat len), .null] 6)) (T15.setTop (mkF m 57 #[.val (.ref a), .val (.ref b), .val (.int (Int32.ofNat o)), .val (.int (Int32.ofNat len)), .val .null, .val (.ref s.heap.size)] [])) := c14.trans (st15 _ (Steps.refl _))
  have ap := apart (Or.inr ⟨_, (wk W (.laysFinal "java/lang/String" "java/lang/String" "value" "[B"))⟩) (Or.inr ⟨_, (wk W (.laysFinal "java/lang/String" "java/lang/String" "coder" "B"))⟩) f1 f2 (t₁ := .array .byte) (t₂ := .byte) (by decide +kernel) (by decide +kernel) (by decide)
  have al := X8.warmed.alike.symm.trans X15.warmed.alike
  have n7 : T11.heap[s.heap.size]? = some N := by rw [q11]; exact n1.1
  exact ⟨T15, none, _, _, _, X15, by simp, rfl, by omega, (fun _ => rfl), ⟨rfl, _, N, bl15, ((Same.refl D _).set _ (by simp)).set _ (by simp), sl15, (Cell.slots_setSlot_ne _ ap).trans sl13, n1.keep al (p15.other hne (p13.other hne n7)), n2, by rw [al.findClass]; exact n3, n4, n5, fun y c h1 h2 => p15.other h1 (p13.other h1 (by rw [q11]; exact n6 y c h2)), by rw [p15.2.2, p13.2.2, q11]; exact z8⟩, fun fs hl => c16.trans (X15.returnOut hexec hret (hb hbytes d57) hl)⟩
end New4
namespace New1
def yN : MethodName := ⟨"java/lang/String", "<init>", "([C)V"⟩
abbrev yB : ByteArray := jdk_42_method_3_code
theorem d0 : decode yB 0 = .ok (.aload_n 0, 1) := by decide +kernel
theorem d1 : decode yB 1 = .ok (.aload_n 1, 1) := by decide +kernel
theorem d2 : decode yB 2 = .ok (.iconst 0, 1) := by decide +kernel
theorem d3 : decode yB 3 = .ok (.aload_n 1, 1) := by decide +kernel
theorem d4 : decode yB 4 = .ok (.arraylength, 1) := by decide +kernel
theorem d5 : decode yB 5 = .ok (.aconst_null, 1) := by decide +kernel
theorem d6 : decode yB 6 = .ok (.invokespecial 27, 3) := by decide +kernel
theorem d9 : decode yB 9 = .ok (.return_, 1) := by decide +kernel
def site : List Cond := [New4.tab] ++ initW "java/lang/String" 27 New4.yN
def tab : Cond := tabOf yN yB 2 none site
def P (a : Addr) (D : Cell) (fV fC : Field) (b : Addr) (A : Cell) (z : Int32) (args : Array Value) (s : State) : Prop := args = #[.ref a, .ref b] ∧ Blank "java/lang/String" a D s ∧ Found "java/lang/String" "value" "[B" fV s ∧ Found "java/lang/String" "coder" "B" fC s ∧ Ch b A s ∧ StaticIs s "java/lang/String" "COMPACT_STRINGS" "Z" (.int z) ∧ ¬ z = 0 ∧ 0 < A.slots.size ∧ A.slots.size ≤ 536870912 ∧ ∀ i, i < A.slots.size → ¬ 255 < cv A i
def E (a : Addr) (D : Cell) (fV fC : Field) (A : Cell) (r : Option Value) (s u : State) : Prop := Got a D fV fC A 0 A.slots.size r s u
/-- new String(chars), not empty, no char above 255: a Latin-1 String of their low bytes -/
theorem law (l : Launch) (a : Addr) (D : Cell) (fV fC : Field) (b : Addr) (A : Cell) (z : Int32) : Law l yN 2 1 3 52 yB 2 none site (P a D fV fC b A z) (E a D fV fC A) [⟨a, fC.slot⟩, ⟨a, fV.slot⟩] 1 A.slots.size := by
  refine Law.of_walk (plainFor_of_name (by decide +kernel)) (by decide +kernel) (by decide +kernel) (by decide) (fun _ _ h => by rw [h.1]; rfl) (fun _ U U' hal hh h => ⟨h.1, h.2.1.mv hal hh, h.2.2.1.al hal, h.2.2.2.1.al hal, h.2.2.2.2.1.mv hal hh, h.2.2.2.2.2.1.there hal hh, h.2.2.2.2.2.2⟩) (fun r U U' V V' h1 hal h2 h => Got.mv r U U' V V' h1 hal h2 h) ?_
  intro p e s m args below meth c s₁ X0 hexec hbytes hml hret hlk hnm hown hh0 W hP
  obtain ⟨rfl, hB, f1, f2, hA, s1, hz, l0, l2, hp⟩ := hP
  have c1 : Steps p.tables e below (s₁.setTop (entryFrame m #[.ref a, .ref b] 2)) (s₁.setTop (mkF m 0 #[.val (.ref a), .val (.ref b)] [])) := entry rfl
  have c2 : Steps p.tables e below (s₁.setTop (entryFrame m #[.ref a, .ref b] 2)) (s₁.setTop (mkF m 6 #[.val (.ref a), .val (.ref b)] [.null, .int (Int32.ofNat A.slots.size), .int 0, .ref b, .ref a])) := c1.trans (by
    refine XS.aloadN X0.here hexec rfl (hb hbytes d0) rfl rfl ?_
    refine XS.aloadN X0.here hexec rfl (hb hbytes d1) rfl rfl ?_
    refine iconstV X0.here hexec rfl 0 (hb hbytes d2) (by decide) ?_
    refine XS.aloadN X0.here hexec rfl (hb hbytes d3) rfl rfl ?_
    refine X0.alen hexec (hA.1.mv X0.warmed.alike hh0) rfl rfl (hb hbytes d4) ?_
    refine XS.aconstNull X0.here hexec rfl (hb hbytes d5) ?_
    exact Steps.refl _)
  obtain ⟨v3, T3, X3, E3, g3⟩ := X0.callN hexec (New4.law l a D fV fC b A z 0 A.slots.size) rfl hown (wks W (initW "java/lang/String" 27 New4.yN)) (W New4.tab (by simp only [site, List.mem_cons, List.mem_append, true_or, or_true])) (W := 0) (Nat.le_of_ble_eq_true rfl) (Nat.le_of_ble_eq_true rfl) (Nat.le_refl _) (by show 0 + A.slots.size ≤ A.slots.size; omega) (g := (mkF m 6 #[.val (.ref a), .val (.ref b)] [.null, .int (Int32.ofNat A.slots.size), .int (Int32.ofNat 0), .ref b, .ref a])) rfl (by rw [hml]; rfl) c2 (argsL := [.ref b, .int (Int32.ofNat 0), .int (Int32.ofNat A.slots.size), .null]) (rest := []) rfl rfl (by show 2 * 0 + 0 ≤ _; decide) (hb hbytes d6) (⟨rfl, hB.mv X0.warmed.alike hh0, f1.al X0.warmed.alike, f2.al X0.warmed.alike, hA.mv X0.warmed.alike hh0, s1.there X0.warmed.alike hh0, hz, l0, by omega, l2, fun i hi => by rw [Nat.zero_add]; exact hp i hi⟩)
  have e0 := Got.mv _ s₁ s _ _ hh0.symm (Vm.Alike.refl _) rfl E3
  obtain rfl := e0.1
  have c4 : Steps p.tables e below (s₁.setTop (entryFrame m #[.ref a, .ref b] 2)) (T3.setTop (mkF m 9 #[.val (.ref a), .val (.ref b)] [])) := g3
  exact ⟨T3, none, _, _, _, X3, by simp, rfl, by omega, (fun _ => rfl), e0, fun fs hl => c4.trans (X3.returnOut hexec hret (hb hbytes d9) hl)⟩
theorem pays {l : Launch} {R : Room} {p : Program} {e : Env} {below : List Frame} {s : State} {sargs : Array Value} {len W : Nat} (a : Addr) (D : Cell) (fV fC : Field) (b : Addr) (A : Cell) (z : Int32) (htab : tab.before sargs s = true) (hfr : 4 ≤ R.frames) (hlo : W + 65 ≤ R.locals) :
    Back l R p e below s sargs yN len W (fun A₁ a₁ => A₁.cells + 1 ≤ R.cells ∧ A₁.slots + A.slots.size ≤ R.slots ∧ P a D fV fC b A z a₁ A₁.U) (fun A₁ _ v₁ B₁ => E a D fV fC A v₁ A₁.U B₁.U ∧ B₁.locs = A₁.locs ++ [⟨a, fC.slot⟩, ⟨a, fV.slot⟩] ∧ B₁.cells = A₁.cells + 1 ∧ B₁.slots = A₁.slots + A.slots.size) :=
  (law l a D fV fC b A z).pays htab hfr (by omega)
end New1
end StrChars
namespace StrChars.Road
open Jvm Sem ClassFile Op Lib Jvm.Stand Jvm.Free Jvm.Free.XT
open Jvm.Lib.Cold (StaticIs)
abbrev ST : String := "java/lang/String"
/-- every table word that New1's law asks, flat -/
abbrev words : List Jvm.Cond := [.code New1.yN New1.yB 2 none, .initialized ST, .methodLink ST 27 New4.yN, .instanceMethod New4.yN,
  .code New4.yN New4.yB 6 none, .fieldLink ST 38 ST "COMPACT_STRINGS" "Z", .laysFinal ST ST "value" "[B", .fieldLink ST 9 ST "value" "[B", .laysFinal ST ST "coder" "B", .fieldLink ST 15 ST "coder" "B",
  .methodLink ST 1 Lib.objectInit, .instanceMethod Lib.objectInit, .code Lib.objectInit ⟨#[0xb1]⟩ 1 none, .methodLink ST 177 Cmp3.yN, .static Cmp3.yN, .methodLink ST 47 CodL.yN, .static CodL.yN,
  .code Cmp3.yN Cmp3.yB 6 (some (.array .byte)), .initialized U16, .arrayClass .byte, .methodLink U16 115 Cmp5.yN, .static Cmp5.yN, .code Cmp5.yN Cmp5.yB 7 (some .int), .code CodL.yN CodL.yB 2 (some .byte)]
theorem tab_of {a : Array Value} {s : State} (h : ∀ w ∈ words, w.before a s = true) : New1.tab.before a s = true := by
  have h5 : Cmp5.tab.before a s = true := unparts (wk h (.code Cmp5.yN Cmp5.yB 7 (some .int))) (wks h (.initialized Cmp5.yN.cls :: Cmp5.site))
  have hc : CodL.tab.before a s = true := unparts (wk h (.code CodL.yN CodL.yB 2 (some .byte))) (wks h (.initialized CodL.yN.cls :: CodL.site))
  have q5 : ∀ w ∈ Cmp5.tab :: words, w.before a s = true := fun w hw => (List.mem_cons.mp hw).elim (fun e => e ▸ h5) (h w)
  have h3 : Cmp3.tab.before a s = true := unparts (wk q5 (.code Cmp3.yN Cmp3.yB 6 (some (.array .byte)))) (wks q5 (.initialized Cmp3.yN.cls :: Cmp3.site))
  have q3 : ∀ w ∈ Cmp3.tab :: CodL.tab :: words, w.before a s = true := fun w hw => (List.mem_cons.mp hw).elim (fun e => e ▸ h3) fun hw => (List.mem_cons.mp hw).elim (fun e => e ▸ hc) (h w)
  have h4 : New4.tab.before a s = true := unparts (wk q3 (.code New4.yN New4.yB 6 none)) (wks q3 (.initialized New4.yN.cls :: New4.site))
  have q4 : ∀ w ∈ New4.tab :: words, w.before a s = true := fun w hw => (List.mem_cons.mp hw).elim (fun e => e ▸ h4) (h w)
  exact unparts (wk q4 (.code New1.yN New1.yB 2 none)) (wks q4 (.initialized New1.yN.cls :: New1.site))
/-- the words ride from the start Z to the walk's own state -/
theorem moved {Z s : State} {a0 args : Array Value} (hZ : Z.Warmed39 s.vm) (hw : ∀ d ∈ words, d.before a0 Z = true) : ∀ d ∈ words, d.before args s = true := fun d hd => by
  have q := hw d hd
  have t : ∀ d ∈ words, d = .arrayClass .byte ∨ (d.onTables && d.keepsFace) = true := by decide +kernel
  rcases t d hd with rfl | t
  · exact RoadKit.mvA hZ q
  · exact RoadKit.mv hZ q t
/-- WHAT COMES BACK, over the tables of the start Z: h the heap at the call, h' behind it -/
def Q (Z : State) (x : Addr) (A : Cell) (h : Heap) (v : Option Value) (h' : Heap) (L : List Loc) : Prop := v = none ∧ (∀ y ∈ L, y.base = x) ∧ RoadKit.Keep h h' [x] ∧ h'.size = h.size + 1 ∧ RoadKit.Exa Z h' x ST ∧ RoadKit.Fld Z h' x ST "value" "[B" (.ref h.size) ∧ RoadKit.Fld Z h' x ST "coder" "B" (.int 0) ∧
  (∃ V : Cell, RoadKit.Arr Z h' h.size V .byte ∧ V.vm = .none ∧ Z.vm.findClass "[B" = some V.cls ∧ V.slots.size = A.slots.size ∧ ∀ j, j < A.slots.size → V.slots[j]? = some (.int (lo8 (cv A j)))) ∧
  ∀ (O n d : String) (w : Value), RoadKit.Fld Z h x O n d w → RoadKit.slotOf Z O n d ≠ RoadKit.slotOf Z ST "value" "[B" → RoadKit.slotOf Z O n d ≠ RoadKit.slotOf Z ST "coder" "B" → RoadKit.Fld Z h' x O n d w
/-- **new String(chars) AT A CALL, IN THE ROAD'S FORM**: for specialBack behind newO: x the fresh String, b the char[] with the cell A -/
theorem back {p : Program} {l : Launch} {e : Env} {R : Room} {s : State} {args : Array Value} {below : List Frame} {len W : Nat} {Z : State} {a0 : Array Value} {h : Heap} (hZ : Z.Warmed39 s.vm) (hw : ∀ d ∈ words, d.before a0 Z = true) {kI : Nat} (wi : (Jvm.Cond.instantiable ST kI).before a0 Z = true)
    {x b : Addr} {A : Cell} {z : Int32} {v0 c0 : Value} (E : RoadKit.Exa Z h x ST) (V : RoadKit.Fld Z h x ST "value" "[B" v0) (C : RoadKit.Fld Z h x ST "coder" "B" c0) (K : RoadKit.Arr Z h b A .char) (hty : Typed .char A) (S : RoadKit.Sta Z h ST "COMPACT_STRINGS" "Z" (.int z)) (hz : ¬ z = 0)
    (l0 : 0 < A.slots.size) (l2 : A.slots.size ≤ 536870912) (hp : ∀ i, i < A.slots.size → ¬ 255 < cv A i) (hfr : 4 ≤ R.frames) (hlo : W + 65 ≤ R.locals) :
    Back l R p e below s args New1.yN len W (fun P a => a = #[.ref x, .ref b] ∧ P.U.heap = h ∧ P.cells + 1 ≤ R.cells ∧ P.slots + A.slots.size ≤ R.slots)
      (fun P _ v B => ∃ L, Q Z x A h v B.U.heap L ∧ B.locs = P.locs ++ L ∧ B.cells = P.cells + 1 ∧ B.slots = P.slots + A.slots.size) := by
  intro m meth c P g ig mk a X hg hsize hdg hW hn hp'
  obtain ⟨rfl, rfl, r1, r2⟩ := hp'
  have al : Z.vm.Alike P.U.vm := hZ.alike.trans X.warmed.alike
  obtain ⟨D, cfV, kV, iV, fV, hD, gV, stV, knV, obV, asV, slV⟩ := id V
  obtain ⟨D', cfC, kC, iC, fC, hD', gC, stC, -, -, asC, slC⟩ := id C
  cases hD.symm.trans hD'
  obtain ⟨D2, kD, e1, e2, e3, e4, e5⟩ := id E
  cases hD.symm.trans e1
  obtain ⟨c2, k2, i1, i2, i3, -⟩ := Cond.instantiable_spec wi
  cases e2.symm.trans i1
  cases e3.symm.trans i2
  obtain ⟨kU, u1, u2⟩ := al.2.2 _ _ e3
  have hB : Blank ST x D P.U := ⟨hD, ⟨knV, fun q hq => by rw [hq] at obV; cases obV⟩, by rw [al.findClass]; exact e2, kU, u1, by rw [u2]; exact i3, by rw [u2]; exact e5 i3⟩
  have F1 : Found ST "value" "[B" fV P.U := ⟨SBG.found_only al ⟨cfV, kV, iV, gV⟩, stV⟩
  have F2 : Found ST "coder" "B" fC P.U := ⟨SBG.found_only al ⟨cfC, kC, iC, gC⟩, stC⟩
  have hA : Ch b A P.U := ⟨⟨K.1, State.isArrayOf_alike al K.2.1, K.2.2, by omega⟩, hty⟩
  have hS : StaticIs P.U ST "COMPACT_STRINGS" "Z" (.int z) := by
    obtain ⟨cfS, iS, kS, fS, st, cS, t1, t2, t3, t4, t5, t6, t7⟩ := S
    exact StaticIs.there (s := { Z with heap := P.U.heap }) ⟨cfS, iS, kS, fS, st, cS, t1, t2, t3, t4, t5, (fun q => by rw [q] at t6; cases t6), t7⟩ al rfl
  obtain ⟨v, B, X', ⟨⟨hv, E', V', q1, q2, q3, q4, q5, q6, q7, q8, q9, q10, q11⟩, hl, hc, hs⟩, st⟩ := New1.pays x D fV fC b A z (tab_of (moved hZ hw)) hfr hlo m meth c P g ig mk _ X hg hsize hdg hW hn ⟨r1, r2, rfl, hB, F1, F2, hA, hS, hz, l0, l2, hp⟩
  have al' : Z.vm.Alike B.U.vm := hZ.alike.trans X'.warmed.alike
  have hsz : E'.slots.size = D.slots.size := by
    obtain ⟨-, -, -, kB, w1, w2, w3⟩ := q1
    obtain ⟨kB', y1, y2⟩ := al'.2.2 _ _ e3
    rw [q2.2.1] at w1
    cases w1.symm.trans y1
    rw [w3, e5 i3, y2]
  refine ⟨v, B, X', ⟨_, ⟨hv, ?_, ⟨by omega, fun y cy hy hn' => q10 y cy (by simpa using hn') hy, fun y cy hy => ?_⟩, q11, ⟨E', _, q1.1, by rw [q2.2.1]; exact e2, by rw [q2.2.1]; exact e3, by rw [q2.1]; exact obV, fun _ => by rw [hsz]; exact e5 i3⟩,
    ⟨E', cfV, kV, iV, fV, q1.1, gV, stV, by rw [q2.1]; exact knV, by rw [q2.1]; exact obV, by rw [q2.2.1]; exact asV, q3⟩, ⟨E', cfC, kC, iC, fC, q1.1, gC, stC, by rw [q2.1]; exact knV, by rw [q2.1]; exact obV, by rw [q2.2.1]; exact asC, q4⟩,
    ⟨V', ⟨q5.1, State.isArrayOf_alike al'.symm q5.2.1, q5.2.2.1⟩, q6, by rw [← al'.findClass]; exact q7, q8, fun j hj => by have := q9 j hj; rwa [Nat.zero_add] at this⟩, fun O n d w F n1 n2 => ?_⟩, hl, hc, hs⟩, st⟩
  · intro y hy
    simp only [List.mem_cons, List.not_mem_nil, or_false] at hy
    rcases hy with rfl | rfl <;> rfl
  · by_cases q : y = x
    · subst q
      cases hD.symm.trans hy
      exact ⟨E', q1.1, q2.2.1, q2.1, hsz⟩
    · exact ⟨cy, q10 y cy q hy, rfl, rfl, rfl⟩
  · obtain ⟨D3, cf, k, i, f, g1, g2, g3, g4, g5, g6, g7⟩ := F
    cases hD.symm.trans g1
    simp only [RoadKit.slotOf, g2, gV, gC, Option.map_some, Option.getD_some] at n1 n2
    exact ⟨E', cf, k, i, f, q1.1, g2, g3, by rw [q2.1]; exact g4, by rw [q2.1]; exact g5, by rw [q2.2.1]; exact g6, by rw [q2.2.2 f.slot (by simp [n1, n2])]; exact g7⟩
end StrChars.Road
namespace StrChars.Road
open Jvm Sem ClassFile Op Lib Jvm.Stand Jvm.Free Jvm.Free.XT
/-- WHAT COMES BACK, the byte[] as a list of values -/
def QA (Z : State) (x : Addr) (zn : Int32) (cs : List Int32) (h : Heap) (v : Option Value) (h' : Heap) (L : List Loc) : Prop := v = none ∧ (∀ y ∈ L, y.base = x) ∧ RoadKit.Keep h h' [x] ∧ h'.size = h.size + 1 ∧ RoadKit.Exa Z h' x ST ∧ RoadKit.Fld Z h' x ST "value" "[B" (.ref h.size) ∧ RoadKit.Fld Z h' x ST "coder" "B" (.int 0) ∧
  (∃ kb, Z.vm.findClass "[B" = some kb ∧ RoadKit.Arv Z h' h.size kb .byte zn (cs.map fun c => .int (lo8 c)) (.int 0)) ∧
  ∀ (O n d : String) (w : Value), RoadKit.Fld Z h x O n d w → RoadKit.slotOf Z O n d ≠ RoadKit.slotOf Z ST "value" "[B" → RoadKit.slotOf Z O n d ≠ RoadKit.slotOf Z ST "coder" "B" → RoadKit.Fld Z h' x O n d w
/-- **new String(chars) AT A CALL, THE ARRAYS AS LISTS**: the char[] at b holds cs, not empty, no char above 255 -/
theorem backArv {p : Program} {l : Launch} {e : Env} {R : Room} {s : State} {args : Array Value} {below : List Frame} {len W : Nat} {Z : State} {a0 : Array Value} {h : Heap} (hZ : Z.Warmed39 s.vm) (hw : ∀ d ∈ words, d.before a0 Z = true) {kI : Nat} (wi : (Jvm.Cond.instantiable ST kI).before a0 Z = true)
    {x b : Addr} {k : ClassId} {zn z : Int32} {cs : List Int32} {dv v0 c0 : Value} (E : RoadKit.Exa Z h x ST) (V : RoadKit.Fld Z h x ST "value" "[B" v0) (C : RoadKit.Fld Z h x ST "coder" "B" c0) (K : RoadKit.Arv Z h b k .char zn (cs.map Value.int) dv) (S : RoadKit.Sta Z h ST "COMPACT_STRINGS" "Z" (.int z)) (hz : ¬ z = 0)
    (hlen : zn.toNatClampNeg = cs.length) (h0 : 0 < cs.length) (hbig : cs.length ≤ 536870912) (hall : ∀ c ∈ cs, ¬ 255 < c) (hfr : 4 ≤ R.frames) (hlo : W + 65 ≤ R.locals) :
    Back l R p e below s args New1.yN len W (fun P a => a = #[.ref x, .ref b] ∧ P.U.heap = h ∧ P.cells + 1 ≤ R.cells ∧ P.slots + cs.length ≤ R.slots)
      (fun P _ v B => ∃ L, QA Z x zn cs h v B.U.heap L ∧ B.locs = P.locs ++ L ∧ B.cells = P.cells + 1 ∧ B.slots = P.slots + cs.length) := by
  obtain ⟨A, K1, K2, K3, K4, K5, K6⟩ := K
  have e : A.slots.size = cs.length := K3.trans hlen
  have hat : ∀ (i : Nat) (hi : i < cs.length), A.slots[i]? = some (.int cs[i]) := fun i hi => by rw [K5 i (by omega)]; simp [List.getD_eq_getElem?_getD, hi]
  have hcv : ∀ (i : Nat) (hi : i < cs.length), cv A i = cs[i] := fun i hi => by unfold cv; rw [hat i hi]
  have hty : Typed .char A := fun i v hv => by
    have hi : i < A.slots.size := (Array.getElem?_eq_some_iff.mp hv).1
    have q := K5 i hi
    rw [hv] at q
    rw [Option.some.inj q]
    exact K6 i hi
  refine Back.mono (back hZ hw wi E V C K1 hty S hz (by omega) (by omega) (fun i hi => by rw [hcv i (by omega)]; exact hall _ (List.getElem_mem _)) hfr hlo) (fun P a hp => ⟨hp.1, hp.2.1, hp.2.2.1, by rw [e]; exact hp.2.2.2⟩) (fun P a v B hp hq => ?_)
  obtain ⟨L, ⟨q1, q2, q3, q4, q5, q6, q7, ⟨V', v1, v2, v3, v4, v5⟩, q9⟩, hl, hc, hs⟩ := hq
  refine ⟨L, ⟨q1, q2, q3, q4, q5, q6, q7, ⟨V'.cls, v3, V', v1, rfl, by rw [v4, e, hlen], K4, fun i hi => ?_, fun i hi => ?_⟩, q9⟩, hl, hc, by rw [hs, e]⟩
  · have hi' : i < cs.length := by omega
    rw [v5 i (by omega), hcv i hi']; simp [List.getD_eq_getElem?_getD, hi']
  · have hi' : i < cs.length := by omega
    simp only [List.getD_eq_getElem?_getD, List.getElem?_map, List.getElem?_eq_getElem hi', Option.map_some, Option.getD_some]
    exact fits_lo8 _
end StrChars.Road
namespace StrChars.Road
open Jvm Sem ClassFile Op Lib Jvm.Stand Jvm.Free Jvm.Free.XT
/-- WHAT COMES BACK, in the writer's own shape -/
def QV (Z : State) (x : Addr) (N : Int32) (bs : List Int32) (h : Heap) (n0 : Nat) (v : Option Value) (h' : Heap) (L : List Loc) : Prop := v = none ∧ RoadKit.Fr n0 L ∧ RoadKit.Keep h h' [x] ∧ RoadKit.Exa Z h' x ST ∧ RoadKit.Fld Z h' x ST "coder" "B" (.int 0) ∧
  ∃ (t : Addr) (kb : ClassId), n0 ≤ t ∧ h.size ≤ t ∧ ¬ t = x ∧ RoadKit.Fld Z h' x ST "value" "[B" (.ref t) ∧ RoadKit.Arv Z h' t kb .byte N (bs.map Value.int) (.int 0)
/-- **new String(chars) AT A CALL, FOR THE WRITER**: a char[] of n known ints, each 0 to 255 -/
theorem backV {p : Program} {l : Launch} {e : Env} {R : Room} {s : State} {args : Array Value} {below : List Frame} {len W : Nat} {Z : State} {a0 : Array Value} {h : Heap} (hZ : Z.Warmed39 s.vm) (hw : ∀ d ∈ words, d.before a0 Z = true) {kI : Nat} (wi : (Jvm.Cond.instantiable ST kI).before a0 Z = true)
    {x b : Addr} {kC : ClassId} {cs bs : List Int32} {d v0 c0 : Value} {z N : Int32} {n n0 : Nat} (hx0 : n0 ≤ x) (hh0 : n0 ≤ h.size) (E : RoadKit.Exa Z h x ST) (V : RoadKit.Fld Z h x ST "value" "[B" v0) (C : RoadKit.Fld Z h x ST "coder" "B" c0) (K : RoadKit.Arv Z h b kC .char N (cs.map Value.int) d) (S : RoadKit.Sta Z h ST "COMPACT_STRINGS" "Z" (.int z)) (hz : ¬ z = 0)
    (hn : cs.length = n) (hN : N = Int32.ofNat n) (l0 : 0 < n) (l2 : n ≤ 4000) (hp : ∀ c ∈ cs, ¬ c < 0 ∧ ¬ (255 : Int32) < c) (hb : bs = cs.map (fun c => c.toInt8.toInt32)) (hfr : 4 ≤ R.frames) (hlo : W + 65 ≤ R.locals) :
    Back l R p e below s args (⟨"java/lang/String", "<init>", "([C)V"⟩ : MethodName) len W (fun P a => a = #[.ref x, .ref b] ∧ P.U.heap = h ∧ P.cells + 1 ≤ R.cells ∧ P.slots + n ≤ R.slots)
      (fun P _ v B => ∃ L, QV Z x N bs h n0 v B.U.heap L ∧ B.locs = P.locs ++ L ∧ B.cells = P.cells + 1 ∧ B.slots = P.slots + n) := by
  subst hn hN hb
  refine Back.mono (backArv hZ hw wi E V C K S hz (n32 (by omega)) l0 (by omega) (fun c hc => (hp c hc).2) hfr hlo) (fun P a hp => hp) (fun P a v B hp hq => ?_)
  obtain ⟨L, ⟨q1, q2, q3, q4, q5, q6, q7, ⟨kb, v1, v2⟩, q9⟩, hl, hc, hs⟩ := hq
  exact ⟨L, ⟨q1, fun y hy => by rw [q2 y hy]; exact hx0, q3, q5, q7, h.size, kb, hh0, Nat.le_refl _, Nat.ne_of_gt E.lt, q6, by rw [List.map_map]; exact v2⟩, hl, hc, hs⟩
end StrChars.Road
end Jvm.Pilot.@@N@@

namespace Jvm.Pilot.@@N@@
open Jvm Jvm.ClassFile Sem Op Lib Jvm.Free Jvm.Stand Jvm.LawKit Jvm.RoadKit Bundle Jvm.Pilot.@@N@@.Jvm.D
/-- what is left of a walk: from the frame f of T the run comes to its end, where Qe holds -/
def own_Rest (p : Program) (e : Env) (below : List Frame) (Qe : Outcome → State → Prop) (T : State) (f : JFrame) : Prop :=
  ∃ s₂ o, Steps p.tables e below (T.setTop f) s₂ ∧ s₂.status = .running ∧ Ended s₂ below o ∧ Qe o s₂
abbrev own_S (p : Program) (e : Env) (below : List Frame) (T : State) (f : JFrame) (t : State) : Prop := Steps p.tables e below (T.setTop f) t
theorem own_by {p : Program} {e : Env} {below : List Frame} {Qe : Outcome → State → Prop} {T T' : State} {f f' : JFrame}
    (h : ∀ t, Steps p.tables e below (T'.setTop f') t → Steps p.tables e below (T.setTop f) t) (k : own_Rest p e below Qe T' f') : own_Rest p e below Qe T f := by
  obtain ⟨s₂, o, h1, h2⟩ := k
  exact ⟨s₂, o, h _ h1, h2⟩
theorem own_at {p : Program} {e : Env} {below : List Frame} {Qe : Outcome → State → Prop} {T : State} {f f' : JFrame}
    (h : ∀ {t}, Steps p.tables e below (T.setTop f') t → Steps p.tables e below (T.setTop f) t) (k : own_Rest p e below Qe T f') :
    ∃ s₂ o, Steps p.tables e below (T.setTop f) s₂ ∧ s₂.status = .running ∧ Ended s₂ below o ∧ Qe o s₂ := by
  obtain ⟨s₂, o, h1, h2⟩ := k
  exact ⟨s₂, o, h h1, h2⟩
theorem own_c255 (x : Int32) : ¬ (x &&& (255 : Int32)).toUInt32.toUInt16.toUInt32.toInt32 < 0 ∧ ¬ (255 : Int32) < (x &&& (255 : Int32)).toUInt32.toUInt16.toUInt32.toInt32 := by
  have h1 := c_mask x 255 8 (by decide) (by decide)
  have h2 := c_i2c (x &&& (255 : Int32))
  simp only [Int32.lt_iff_toInt_lt, Int32.reduceToInt]
  omega
theorem own_narc {z : Int32} (h : ¬ z < 0 ∧ ¬ (255 : Int32) < z) : nar .char z = z := by
  have h2 := c_i2c z
  obtain ⟨h3, h4⟩ := h
  simp only [Int32.lt_iff_toInt_lt, Int32.reduceToInt] at h3 h4
  have e : (nar .char z).toInt = z.toInt := by
    show z.toUInt32.toUInt16.toUInt32.toInt32.toInt = z.toInt
    omega
  exact Int32.toInt_inj.mp e
theorem own_nrb {z : Int32} (h : z = 0 ∨ z = 1) : narrow .boolean (.int z) = .int z := by rcases h with rfl | rfl <;> rfl
theorem own_ftb {z : Int32} (h : z = 0 ∨ z = 1) : fits .boolean (.int z) = true := by rcases h with rfl | rfl <;> rfl
theorem own_eqi {t : Term} {n : Int32} {args : Array Value} {Z : State} (h : (Jvm.Cond.eq t (.int n)).value args Z none Z [] = some true) : t.eval args Z none [] Z = some (.int n) := by
  obtain ⟨x, y, h1, h2, h3, -⟩ := cmp_v (Or.inl h)
  have e : y = .int n := (Option.some.inj h2).symm
  subst e
  cases x <;> simp [Kin, Value.isRef] at h3
  rename_i z
  have : z = n := by simpa [Cond.value, h1, Term.eval] using h
  rw [h1, this]
theorem own_fld {t : Term} {n : Int32} {args : Array Value} {Z : State} {a : Addr} {C f d : String} (ev : t.eval args Z none [] Z = some (.ref a)) (h : (Jvm.Cond.eq (.field t C f d) (.int n)).value args Z none Z [] = some true) : Fld Z Z.heap a C f d (.int n) :=
  Fld.start ((fld_at ev).symm.trans (own_eqi h))
theorem own_nb {z : Int32} (h : z = 0 ∨ z = 1) : nar .boolean z = z := by rcases h with rfl | rfl <;> rfl
abbrev own_ARRJWJWI (x0 : Addr) (x1 : Addr) (x2 : Int64) (x4 : Int64) (x6 : Int32) : Array Slot := #[.val (.ref x0), .val (.ref x1), .val (.long x2), .second, .val (.long x4), .second, .val (.int x6)]
abbrev own_ARRJWJW (x0 : Addr) (x1 : Addr) (x2 : Int64) (x4 : Int64) : Array Slot := #[.val (.ref x0), .val (.ref x1), .val (.long x2), .second, .val (.long x4), .second]
abbrev own_AIIJWJWUUUUU (x0 : Int32) (x1 : Int32) (x2 : Int64) (x4 : Int64) : Array Slot := #[.val (.int x0), .val (.int x1), .val (.long x2), .second, .val (.long x4), .second, .unset, .unset, .unset, .unset, .unset]
abbrev own_AIIJWJWRUUUU (x0 : Int32) (x1 : Int32) (x2 : Int64) (x4 : Int64) (x6 : Addr) : Array Slot := #[.val (.int x0), .val (.int x1), .val (.long x2), .second, .val (.long x4), .second, .val (.ref x6), .unset, .unset, .unset, .unset]
abbrev own_AIIJWJWRRUUU (x0 : Int32) (x1 : Int32) (x2 : Int64) (x4 : Int64) (x6 : Addr) (x7 : Addr) : Array Slot := #[.val (.int x0), .val (.int x1), .val (.long x2), .second, .val (.long x4), .second, .val (.ref x6), .val (.ref x7), .unset, .unset, .unset]
abbrev own_AIIJWJWRRRUU (x0 : Int32) (x1 : Int32) (x2 : Int64) (x4 : Int64) (x6 : Addr) (x7 : Addr) (x8 : Addr) : Array Slot := #[.val (.int x0), .val (.int x1), .val (.long x2), .second, .val (.long x4), .second, .val (.ref x6), .val (.ref x7), .val (.ref x8), .unset, .unset]
abbrev own_AIIJWJWRRRRU (x0 : Int32) (x1 : Int32) (x2 : Int64) (x4 : Int64) (x6 : Addr) (x7 : Addr) (x8 : Addr) (x9 : Addr) : Array Slot := #[.val (.int x0), .val (.int x1), .val (.long x2), .second, .val (.long x4), .second, .val (.ref x6), .val (.ref x7), .val (.ref x8), .val (.ref x9), .unset]
abbrev own_AIIJWJWRRRRR (x0 : Int32) (x1 : Int32) (x2 : Int64) (x4 : Int64) (x6 : Addr) (x7 : Addr) (x8 : Addr) (x9 : Addr) (x10 : Addr) : Array Slot := #[.val (.int x0), .val (.int x1), .val (.long x2), .second, .val (.long x4), .second, .val (.ref x6), .val (.ref x7), .val (.ref x8), .val (.ref x9), .val (.ref x10)]
theorem d8_0 : decode jdk_31_method_11_code 0 = .ok (.aload_n 0, 1) := by decide +kernel
theorem d8_1 : decode jdk_31_method_11_code 1 = .ok (.ifnonnull 12, 3) := by decide +kernel
theorem d8_13 : decode jdk_31_method_11_code 13 = .ok (.aload_n 0, 1) := by decide +kernel
theorem d8_14 : decode jdk_31_method_11_code 14 = .ok (.areturn, 1) := by decide +kernel
theorem pn_8 : plainFor (⟨"java/util/Objects", "requireNonNull", "(Ljava/lang/Object;Ljava/lang/String;)Ljava/lang/Object;"⟩ : MethodName) = true := by first | exact plainFor_of_name (by first | (simp [plainName, overriddenIn]; done) | decide +kernel) | decide +kernel | exact Jvm.Free.JP.mathPlain rfl (by decide +kernel)
theorem ef_8 (m : MethodId) (a1 : Addr) (a2 : Addr) : entryFrame m #[(.ref a1), (.ref a2)] 2 = mkF m 0 #[.val (.ref a1), .val (.ref a2)] [] := by first | (simp [entryFrame, mkF, argsToLocals, Value.category]; done) | rfl
def Q8 (Z : State) (a1 : Addr) (a2 : Addr) (h0 : Heap) (n0 : Nat) (v : Option Value) (h : Heap) (L : List Loc) : Prop := v = some (.ref a1) ∧ Fr n0 L ∧ h = h0
set_option maxRecDepth 65536 in
set_option maxHeartbeats 40000000 in
theorem rm8 (l : Launch) (Z : State) (a0 : Array Value) (hw : ∀ d ∈ tables_1, d.before a0 Z = true) (ws : List Jvm.Cond) (a1 : Addr) (a2 : Addr) (h0 : Heap) (n0 : Nat) (Z0 : n0 ≤ h0.size) :
    MetFree l (⟨"java/util/Objects", "requireNonNull", "(Ljava/lang/Object;Ljava/lang/String;)Ljava/lang/Object;"⟩ : MethodName) (head1 (Jvm.Cond.code (⟨"java/util/Objects", "requireNonNull", "(Ljava/lang/Object;Ljava/lang/String;)Ljava/lang/Object;"⟩ : MethodName) jdk_31_method_11_code 2 (some (.object "java/lang/Object")) :: ws) ({ frames := 0, cells := 0, slots := 0, locals := 0 } : Room)) (fun a U => a = #[(.ref a1), (.ref a2)] ∧ Z.Warmed39 U.vm ∧ U.heap = h0) (fun _ _ _ _ _ => True) (fun _ U o U' => ∃ v L, o = .returned v ∧ Q8 Z a1 a2 h0 n0 v U'.heap L ∧ FrameEnd U o U' L ({ frames := 0, cells := 0, slots := 0, locals := 0 } : Room).cells ({ frames := 0, cells := 0, slots := 0, locals := 0 } : Room).slots) := by
  refine MetFree.of_bodySF pn_8 hisR ?_
  intro p e s m args below meth c s₁ Bd hml0 hP hK
  obtain ⟨rfl, hZ, hh⟩ := hP
  have hx := Bd.exec
  have hby := Bd.bytes
  have hml : c.maxLocals = 2 := hml0
  have hown : s.vm.findClass "java/util/Objects" = some m.cls := findClass_of_methodNamed Bd.named
  have hnm := (name_of_methodNamed Bd.named Bd.method).1
  have X0 : Stand p l e ({ frames := 0, cells := 0, slots := 0, locals := 0 } : Room) s m #[(.ref a1), (.ref a2)] below meth c s₁ [] 0 0 := Stand.of_body Bd
  have e0 : s₁.heap = h0 := by rw [← hh, Bd.state]; rfl
  have N0 := Fr.nil n0
  refine own_at (castTop (ef_8 m a1 a2)) ?_
  have sg14 : ∀ t, own_S p e below s₁ (mkF m 14 #[.val (.ref a1), .val (.ref a2)] [(.ref a1)]) t → own_S p e below s₁ (mkF m 0 #[.val (.ref a1), .val (.ref a2)] []) t := by
    intro t k
    show own_S p e below s₁ (mkF m 0 #[.val (.ref a1), .val (.ref a2)] []) _
    refine XS.aloadN X0.here hx rfl (hb hby d8_0) rfl rfl ?_
    show own_S p e below s₁ (mkF m 1 #[.val (.ref a1), .val (.ref a2)] [(.ref a1)]) _
    refine XS.ifnonnullYes X0.here hx rfl (pc0 := 1) (pc' := 13) rfl (hb hby d8_1) rfl (by decide) (by decide) ?_
    show own_S p e below s₁ (mkF m 13 #[.val (.ref a1), .val (.ref a2)] []) _
    refine XS.aloadN X0.here hx rfl (hb hby d8_13) rfl rfl ?_
    exact k
  refine own_by sg14 ?_
  obtain ⟨fs, hr, hrun, hended, hW, hsame⟩ := X0.leave (v := some (.ref a1)) (fun h => by rw [Bd.returns] at h; cases h)
  refine ⟨_, _, ?_, hrun, hended, _, _, rfl, ?_, ⟨_, rfl⟩, hW, hsame.mono (by decide) (by decide)⟩
  · show Steps p.tables e below (s₁.setTop (mkF m 14 #[.val (.ref a1), .val (.ref a2)] [(.ref a1)])) _
    jvm_step X0.here [X0.here.top, hx, (hb hby d8_14), X0.method', Bd.returns, Value.isRef, FieldType.isReference]
    first | (intro acts; rw [hr _ acts rfl rfl rfl]) | rw [hr _ _ rfl rfl rfl]
    exact Steps.refl _
  · show Q8 Z a1 a2 h0 n0 _ s₁.heap _
    rw [e0]
    exact ⟨rfl, N0, rfl⟩
theorem d7_0 : decode prog_13_method_1_code 0 = .ok (.aload_n 0, 1) := by decide +kernel
theorem d7_1 : decode prog_13_method_1_code 1 = .ok (.invokespecial 1, 3) := by decide +kernel
theorem d7_4 : decode prog_13_method_1_code 4 = .ok (.aload_n 0, 1) := by decide +kernel
theorem d7_5 : decode prog_13_method_1_code 5 = .ok (.aload_n 1, 1) := by decide +kernel
theorem d7_6 : decode prog_13_method_1_code 6 = .ok (.ldc 7, 2) := by decide +kernel
theorem d7_8 : decode prog_13_method_1_code 8 = .ok (.invokestatic 9, 3) := by decide +kernel
theorem d7_11 : decode prog_13_method_1_code 11 = .ok (.checkcast 15, 3) := by decide +kernel
theorem d7_14 : decode prog_13_method_1_code 14 = .ok (.putfield 17, 3) := by decide +kernel
theorem d7_17 : decode prog_13_method_1_code 17 = .ok (.aload_n 0, 1) := by decide +kernel
theorem d7_18 : decode prog_13_method_1_code 18 = .ok (.aload_n 2, 1) := by decide +kernel
theorem d7_19 : decode prog_13_method_1_code 19 = .ok (.ldc 22, 2) := by decide +kernel
theorem d7_21 : decode prog_13_method_1_code 21 = .ok (.invokestatic 9, 3) := by decide +kernel
theorem d7_24 : decode prog_13_method_1_code 24 = .ok (.checkcast 15, 3) := by decide +kernel
theorem d7_27 : decode prog_13_method_1_code 27 = .ok (.putfield 24, 3) := by decide +kernel
theorem d7_30 : decode prog_13_method_1_code 30 = .ok (.return_, 1) := by decide +kernel
theorem pn_7 : plainFor (⟨"com/example/forget_by_time/forgetbytime/engine/TableName", "<init>", "(Ljava/lang/String;Ljava/lang/String;)V"⟩ : MethodName) = true := by first | exact plainFor_of_name (by first | (simp [plainName, overriddenIn]; done) | decide +kernel) | decide +kernel | exact Jvm.Free.JP.mathPlain rfl (by decide +kernel)
theorem pd_7_0 : parseMethodDescriptor "(Ljava/lang/Object;Ljava/lang/String;)Ljava/lang/Object;" = some ⟨[(.object "java/lang/Object"), (.object "java/lang/String")], some (.object "java/lang/Object")⟩ := by decide +kernel
theorem ef_7 (m : MethodId) (a1 : Addr) (s1 : Addr) (s2 : Addr) : entryFrame m #[(.ref a1), (.ref s1), (.ref s2)] 3 = mkF m 0 #[.val (.ref a1), .val (.ref s1), .val (.ref s2)] [] := by first | (simp [entryFrame, mkF, argsToLocals, Value.category]; done) | rfl
def Q7 (Z : State) (a1 : Addr) (s1 : Addr) (s2 : Addr) (h0 : Heap) (n0 : Nat) (v : Option Value) (h : Heap) (L : List Loc) : Prop := v = none ∧ Fr n0 L ∧ Keep h0 h [a1] ∧ Exa Z h a1 "com/example/forget_by_time/forgetbytime/engine/TableName" ∧ Fld Z h a1 "com/example/forget_by_time/forgetbytime/engine/TableName" "schema" "Ljava/lang/String;" (.ref s1) ∧ Fld Z h a1 "com/example/forget_by_time/forgetbytime/engine/TableName" "name" "Ljava/lang/String;" (.ref s2)
set_option maxRecDepth 65536 in
set_option maxHeartbeats 40000000 in
theorem rm7 (l : Launch) (Z : State) (a0 : Array Value) (hw : ∀ d ∈ tables_1, d.before a0 Z = true) (ws : List Jvm.Cond) (a1 : Addr) (s1 : Addr) (s2 : Addr) (h0 : Heap) (n0 : Nat) (Z0 : n0 ≤ h0.size) (E_a1 : Exa Z h0 a1 "com/example/forget_by_time/forgetbytime/engine/TableName") (F_schema : Fld Z h0 a1 "com/example/forget_by_time/forgetbytime/engine/TableName" "schema" "Ljava/lang/String;" .null) (F_name : Fld Z h0 a1 "com/example/forget_by_time/forgetbytime/engine/TableName" "name" "Ljava/lang/String;" .null) (g_a1 : n0 ≤ a1) (E_s1 : Exa Z h0 s1 "java/lang/String") (E_s2 : Exa Z h0 s2 "java/lang/String") :
    MetFree l (⟨"com/example/forget_by_time/forgetbytime/engine/TableName", "<init>", "(Ljava/lang/String;Ljava/lang/String;)V"⟩ : MethodName) (head1 (Jvm.Cond.code (⟨"com/example/forget_by_time/forgetbytime/engine/TableName", "<init>", "(Ljava/lang/String;Ljava/lang/String;)V"⟩ : MethodName) prog_13_method_1_code 3 none :: ws) ({ frames := 1, cells := 4, slots := 48, locals := 14 } : Room)) (fun a U => a = #[(.ref a1), (.ref s1), (.ref s2)] ∧ Z.Warmed39 U.vm ∧ U.heap = h0) (fun _ _ _ _ _ => True) (fun _ U o U' => ∃ v L, o = .returned v ∧ Q7 Z a1 s1 s2 h0 n0 v U'.heap L ∧ ReturnedEndW U o U' L ({ frames := 1, cells := 4, slots := 48, locals := 14 } : Room).cells ({ frames := 1, cells := 4, slots := 48, locals := 14 } : Room).slots) := by
  refine MetFree.of_bodySF pn_7 hisR ?_
  intro p e s m args below meth c s₁ Bd hml0 hP hK
  obtain ⟨rfl, hZ, hh⟩ := hP
  have hx := Bd.exec
  have hby := Bd.bytes
  have hml : c.maxLocals = 3 := hml0
  have hown : s.vm.findClass "com/example/forget_by_time/forgetbytime/engine/TableName" = some m.cls := findClass_of_methodNamed Bd.named
  have hnm := (name_of_methodNamed Bd.named Bd.method).1
  have X0 : Stand p l e ({ frames := 1, cells := 4, slots := 48, locals := 14 } : Room) (s.setVm s.vm) m #[(.ref a1), (.ref s1), (.ref s2)] below meth c s₁ [] 0 0 := Stand.of_body Bd
  have e0 : s₁.heap = h0 := by rw [← hh, Bd.state]; rfl
  have N0 := Fr.nil n0
  have hS0 : s.Since s.vm 0 := (State.WarmedH.refl s).since 0
  refine own_at (castTop (ef_7 m a1 s1 s2)) ?_
  have K0 := Keep.refl h0 [a1]
  have wS : ∀ a ∈ Bundle.stringAtoms, a.before a0 Z = true := fun d hd => hw d ((by decide +kernel : ∀ d ∈ Bundle.stringAtoms, d ∈ tables_1) d hd)
  have sg1 : ∀ t, own_S p e below s₁ (mkF m 1 #[.val (.ref a1), .val (.ref s1), .val (.ref s2)] [(.ref a1)]) t → own_S p e below s₁ (mkF m 0 #[.val (.ref a1), .val (.ref s1), .val (.ref s2)] []) t := by
    intro t k
    show own_S p e below s₁ (mkF m 0 #[.val (.ref a1), .val (.ref s1), .val (.ref s2)] []) _
    refine XS.aloadN X0.here hx rfl (hb hby d7_0) rfl rfl ?_
    exact k
  refine own_by sg1 ?_
  obtain ⟨T1, X1, e1, st1⟩ := initO X0 hx hZ hown (hw _ (List.mem_of_getElem? (i := 36) rfl)) (hw _ (List.mem_of_getElem? (i := 15) rfl)) (hw _ (List.mem_of_getElem? (i := 16) rfl)) e0 (g := (mkF m 1 #[.val (.ref a1), .val (.ref s1), .val (.ref s2)] [(.ref a1)])) rfl (by rw [hml]; rfl) rfl (hb hby d7_1) (by decide) (W := 0) (by show 2 * 0 + _ ≤ _; exact Nat.le_of_eq rfl) (by decide)
  refine own_by st1 ?_
  have sg6 : ∀ t, own_S p e below T1 (mkF m 6 #[.val (.ref a1), .val (.ref s1), .val (.ref s2)] [(.ref s1), (.ref a1)]) t → own_S p e below T1 (mkF m 4 #[.val (.ref a1), .val (.ref s1), .val (.ref s2)] []) t := by
    intro t k
    show own_S p e below T1 (mkF m 4 #[.val (.ref a1), .val (.ref s1), .val (.ref s2)] []) _
    refine XS.aloadN X1.here hx rfl (hb hby d7_4) rfl rfl ?_
    show own_S p e below T1 (mkF m 5 #[.val (.ref a1), .val (.ref s1), .val (.ref s2)] [(.ref a1)]) _
    refine XS.aloadN X1.here hx rfl (hb hby d7_5) rfl rfl ?_
    exact k
  refine own_by sg6 ?_
  obtain ⟨l6a, T6, h6, ks6, X6, e6, E6, hS6, hk6, hZ6, hown6, st6⟩ := ldcS X1 hx hZ hown (hw _ (List.mem_of_getElem? (i := 37) rfl)) wS e1 hS0 (Nat.zero_le _) (g := (mkF m 6 #[.val (.ref a1), .val (.ref s1), .val (.ref s2)] [(.ref s1), (.ref a1)])) rfl (hb hby d7_6) (n := 24) (by decide) (by decide) (by decide) (by decide)
  have K6 := K0.ext E6
  have Z6 : n0 ≤ h6.size := Nat.le_trans Z0 E6.1
  refine own_by st6 ?_
  obtain ⟨_, _, ⟨T8, L8, k8, n8⟩, -, X8, ⟨Lc8, hQ8, l8, y8, z8⟩, st8⟩ := Jvm.LawKit.callS X6 hx (y := (⟨"java/util/Objects", "requireNonNull", "(Ljava/lang/Object;Ljava/lang/String;)Ljava/lang/Object;"⟩ : MethodName)) hown6 (mvT hZ6 (hw _ (List.mem_of_getElem? (i := 40) rfl))) (mvT hZ6 (hw _ (List.mem_of_getElem? (i := 41) rfl))) (mvT hZ6 (hw _ (List.mem_of_getElem? (i := 42) rfl))) (mvT hZ6 (hw _ (List.mem_of_getElem? (i := 43) rfl))) (by decide) (backOf (W := 1) (rm8 l Z a0 hw [] s1 l6a h6 n0 Z6) hZ6 (hw _ (List.mem_of_getElem? (i := 43) rfl)) (hw _ (List.mem_of_getElem? (i := 42) rfl)) (by decide) (by decide)) (g := (mkF m 8 #[.val (.ref a1), .val (.ref s1), .val (.ref s2)] [(.ref l6a), (.ref s1), (.ref a1)])) rfl (by rw [hml]; rfl) (argsL := [(.ref s1), (.ref l6a)]) (rest := [(.ref a1)]) (lenOf pd_7_0 rfl) rfl (by show 2 * 0 + _ ≤ _; exact Nat.le_of_eq rfl) (hb hby d7_8) (fun _ _ => ⟨rfl, e6, (by decide : 2 + 0 ≤ _), (by decide : 28 + 0 ≤ _)⟩)
  dsimp only [Pt.U, Pt.locs, Pt.cells, Pt.slots] at X8 l8 y8 z8 st8 hQ8
  subst l8 y8 z8
  obtain ⟨rfl, N8q, hq8⟩ := hQ8
  have N8 := Fr.app N0 N8q
  refine own_by st8 ?_
  obtain ⟨T11, X11, e11, st11⟩ := castY X8 hx hZ6 hown6 (hw _ (List.mem_of_getElem? (i := 44) rfl)) hq8 (Ins.self (E_s1.ext E6)) (g := (mkF m 11 #[.val (.ref a1), .val (.ref s1), .val (.ref s2)] [(.ref s1), (.ref a1)])) rfl rfl (hb hby d7_11)
  refine own_by st11 ?_
  obtain ⟨T14, h14, X14, e14, W14, st14⟩ := putF X11 hx hZ6 hown6 (host := "") (Or.inl (hw _ (List.mem_of_getElem? (i := 45) rfl))) Via.refl e11 (F_schema.ext E6) (E_a1.ext E6) (Or.inr ⟨(hw _ (List.mem_of_getElem? (i := 46) rfl)), rfl, hnm⟩) (hw _ (List.mem_of_getElem? (i := 2) rfl)) (ty := (.object "java/lang/String")) (by decide) rfl rfl (g := (mkF m 14 #[.val (.ref a1), .val (.ref s1), .val (.ref s2)] [(.ref s1), (.ref a1)])) rfl rfl (hb hby d7_14)
  have Fw14 := (F_schema.ext E6).same W14
  have fc := ((F_name.ext E6).other W14 (Or.inr (slot_ne (Or.inr (hw _ (List.mem_of_getElem? (i := 49) rfl))) (Or.inr (hw _ (List.mem_of_getElem? (i := 46) rfl))) (by decide) (t := (.object "java/lang/String")) (t' := (.object "java/lang/String")) (by decide) (by decide))))
  have K14 : Keep h0 h14 [a1] := K6.wr W14 (Or.inl (List.mem_of_getElem? (i := 0) rfl))
  have Z14 : n0 ≤ h14.size := Nat.le_trans Z6 (Keep.of_wr W14).1
  have N14 := Fr.snoc X14 N8 g_a1
  refine own_by st14 ?_
  have sg19 : ∀ t, own_S p e below T14 (mkF m 19 #[.val (.ref a1), .val (.ref s1), .val (.ref s2)] [(.ref s2), (.ref a1)]) t → own_S p e below T14 (mkF m 17 #[.val (.ref a1), .val (.ref s1), .val (.ref s2)] []) t := by
    intro t k
    show own_S p e below T14 (mkF m 17 #[.val (.ref a1), .val (.ref s1), .val (.ref s2)] []) _
    refine XS.aloadN X14.here hx rfl (hb hby d7_17) rfl rfl ?_
    show own_S p e below T14 (mkF m 18 #[.val (.ref a1), .val (.ref s1), .val (.ref s2)] [(.ref a1)]) _
    refine XS.aloadN X14.here hx rfl (hb hby d7_18) rfl rfl ?_
    exact k
  refine own_by sg19 ?_
  obtain ⟨l19a, T19, h19, ks19, X19, e19, E19, hS19, hk19, hZ19, hown19, st19⟩ := ldcS X14 hx hZ6 hown6 (hw _ (List.mem_of_getElem? (i := 47) rfl)) wS e14 hS6 (Nat.le_trans hk6 (Keep.of_wr W14).1) (g := (mkF m 19 #[.val (.ref a1), .val (.ref s1), .val (.ref s2)] [(.ref s2), (.ref a1)])) rfl (hb hby d7_19) (n := 16) (by decide) (by decide) (by decide) (by decide)
  have K19 := K14.ext E19
  have Z19 : n0 ≤ h19.size := Nat.le_trans Z14 E19.1
  refine own_by st19 ?_
  obtain ⟨_, _, ⟨T21, L21, k21, n21⟩, -, X21, ⟨Lc21, hQ21, l21, y21, z21⟩, st21⟩ := Jvm.LawKit.callS X19 hx (y := (⟨"java/util/Objects", "requireNonNull", "(Ljava/lang/Object;Ljava/lang/String;)Ljava/lang/Object;"⟩ : MethodName)) hown19 (mvT hZ19 (hw _ (List.mem_of_getElem? (i := 40) rfl))) (mvT hZ19 (hw _ (List.mem_of_getElem? (i := 41) rfl))) (mvT hZ19 (hw _ (List.mem_of_getElem? (i := 42) rfl))) (mvT hZ19 (hw _ (List.mem_of_getElem? (i := 43) rfl))) (by decide) (backOf (W := 1) (rm8 l Z a0 hw [] s2 l19a h19 n0 Z19) hZ19 (hw _ (List.mem_of_getElem? (i := 43) rfl)) (hw _ (List.mem_of_getElem? (i := 42) rfl)) (by decide) (by decide)) (g := (mkF m 21 #[.val (.ref a1), .val (.ref s1), .val (.ref s2)] [(.ref l19a), (.ref s2), (.ref a1)])) rfl (by rw [hml]; rfl) (argsL := [(.ref s2), (.ref l19a)]) (rest := [(.ref a1)]) (lenOf pd_7_0 rfl) rfl (by show 2 * 0 + _ ≤ _; exact Nat.le_of_eq rfl) (hb hby d7_21) (fun _ _ => ⟨rfl, e19, (by decide : 4 + 0 ≤ _), (by decide : 48 + 0 ≤ _)⟩)
  dsimp only [Pt.U, Pt.locs, Pt.cells, Pt.slots] at X21 l21 y21 z21 st21 hQ21
  subst l21 y21 z21
  obtain ⟨rfl, N21q, hq21⟩ := hQ21
  have N21 := Fr.app N14 N21q
  refine own_by st21 ?_
  obtain ⟨T24, X24, e24, st24⟩ := castY X21 hx hZ19 hown19 (hw _ (List.mem_of_getElem? (i := 44) rfl)) hq21 (Ins.self (((E_s2.ext E6).wr W14).ext E19)) (g := (mkF m 24 #[.val (.ref a1), .val (.ref s1), .val (.ref s2)] [(.ref s2), (.ref a1)])) rfl rfl (hb hby d7_24)
  refine own_by st24 ?_
  obtain ⟨T27, h27, X27, e27, W27, st27⟩ := putF X24 hx hZ19 hown19 (host := "") (Or.inl (hw _ (List.mem_of_getElem? (i := 48) rfl))) Via.refl e24 (fc.ext E19) (((E_a1.ext E6).wr W14).ext E19) (Or.inr ⟨(hw _ (List.mem_of_getElem? (i := 49) rfl)), rfl, hnm⟩) (hw _ (List.mem_of_getElem? (i := 2) rfl)) (ty := (.object "java/lang/String")) (by decide) rfl rfl (g := (mkF m 27 #[.val (.ref a1), .val (.ref s1), .val (.ref s2)] [(.ref s2), (.ref a1)])) rfl rfl (hb hby d7_27)
  have Fw27 := (fc.ext E19).same W27
  have fc_2 := ((Fw14.ext E19).other W27 (Or.inr (slot_ne (Or.inr (hw _ (List.mem_of_getElem? (i := 46) rfl))) (Or.inr (hw _ (List.mem_of_getElem? (i := 49) rfl))) (by decide) (t := (.object "java/lang/String")) (t' := (.object "java/lang/String")) (by decide) (by decide))))
  have K27 : Keep h0 h27 [a1] := K19.wr W27 (Or.inl (List.mem_of_getElem? (i := 0) rfl))
  have Z27 : n0 ≤ h27.size := Nat.le_trans Z19 (Keep.of_wr W27).1
  have N27 := Fr.snoc X27 N21 g_a1
  refine own_by st27 ?_
  obtain ⟨fs, hr, hrun, hended, hW⟩ := X27.leaveW hS19 (by rw [e27]; exact (Nat.le_trans hk19 (Keep.of_wr W27).1)) (v := none) (fun _ => rfl)
  refine ⟨_, _, ?_, hrun, hended, _, _, rfl, ?_, hW.1, hW.2.1, hW.2.2.1, hW.2.2.2.mono (by decide) (by decide)⟩
  · exact X27.returnOut hx Bd.returns (hb hby d7_30) hr
  · show Q7 Z a1 s1 s2 h0 n0 _ T27.heap _
    rw [e27]
    exact ⟨rfl, N27, K27, ((((E_a1.ext E6).wr W14).ext E19).wr W27), fc_2, Fw27⟩
theorem d10_0 : decode prog_15_method_2_code 0 = .ok (.aload_n 0, 1) := by decide +kernel
theorem d10_1 : decode prog_15_method_2_code 1 = .ok (.invokespecial 7, 3) := by decide +kernel
theorem d10_4 : decode prog_15_method_2_code 4 = .ok (.aload_n 0, 1) := by decide +kernel
theorem d10_5 : decode prog_15_method_2_code 5 = .ok (.aload_n 1, 1) := by decide +kernel
theorem d10_6 : decode prog_15_method_2_code 6 = .ok (.putfield 12, 3) := by decide +kernel
theorem d10_9 : decode prog_15_method_2_code 9 = .ok (.aload_n 0, 1) := by decide +kernel
theorem d10_10 : decode prog_15_method_2_code 10 = .ok (.lload_n 2, 1) := by decide +kernel
theorem d10_11 : decode prog_15_method_2_code 11 = .ok (.putfield 16, 3) := by decide +kernel
theorem d10_14 : decode prog_15_method_2_code 14 = .ok (.aload_n 0, 1) := by decide +kernel
theorem d10_15 : decode prog_15_method_2_code 15 = .ok (.lload 4, 2) := by decide +kernel
theorem d10_17 : decode prog_15_method_2_code 17 = .ok (.putfield 20, 3) := by decide +kernel
theorem d10_20 : decode prog_15_method_2_code 20 = .ok (.aload_n 0, 1) := by decide +kernel
theorem d10_21 : decode prog_15_method_2_code 21 = .ok (.iload 6, 2) := by decide +kernel
theorem d10_23 : decode prog_15_method_2_code 23 = .ok (.putfield 23, 3) := by decide +kernel
theorem d10_26 : decode prog_15_method_2_code 26 = .ok (.return_, 1) := by decide +kernel
theorem pn_10 : plainFor (⟨"com/example/forget_by_time/forgetbytime/engine/TableSweep", "<init>", "(Lcom/example/forget_by_time/forgetbytime/engine/TableName;JJZ)V"⟩ : MethodName) = true := by first | exact plainFor_of_name (by first | (simp [plainName, overriddenIn]; done) | decide +kernel) | decide +kernel | exact Jvm.Free.JP.mathPlain rfl (by decide +kernel)
theorem ef_10 (m : MethodId) (a1 : Addr) (t1 : Addr) (q2 : Int64) (q3 : Int64) (p4 : Int32) : entryFrame m #[(.ref a1), (.ref t1), (.long q2), (.long q3), (.int p4)] 7 = mkF m 0 #[.val (.ref a1), .val (.ref t1), .val (.long q2), .second, .val (.long q3), .second, .val (.int p4)] [] := by first | (simp [entryFrame, mkF, argsToLocals, Value.category]; done) | rfl
def Q10 (Z : State) (a1 : Addr) (t1 : Addr) (q2 : Int64) (q3 : Int64) (p4 : Int32) (h0 : Heap) (n0 : Nat) (v : Option Value) (h : Heap) (L : List Loc) : Prop := v = none ∧ Fr n0 L ∧ Keep h0 h [a1] ∧ Exa Z h a1 "com/example/forget_by_time/forgetbytime/engine/TableSweep" ∧ Fld Z h a1 "com/example/forget_by_time/forgetbytime/engine/TableSweep" "table" "Lcom/example/forget_by_time/forgetbytime/engine/TableName;" (.ref t1) ∧ Fld Z h a1 "com/example/forget_by_time/forgetbytime/engine/TableSweep" "deleted" "J" (.long q2) ∧ Fld Z h a1 "com/example/forget_by_time/forgetbytime/engine/TableSweep" "remainingExpired" "J" (.long q3) ∧ Fld Z h a1 "com/example/forget_by_time/forgetbytime/engine/TableSweep" "paused" "Z" (.int p4)
set_option maxRecDepth 65536 in
set_option maxHeartbeats 40000000 in
theorem rm10 (l : Launch) (Z : State) (a0 : Array Value) (hw : ∀ d ∈ tables_1, d.before a0 Z = true) (ws : List Jvm.Cond) (a1 : Addr) (t1 : Addr) (q2 : Int64) (q3 : Int64) (p4 : Int32) (h0 : Heap) (n0 : Nat) (Z0 : n0 ≤ h0.size) (E_a1 : Exa Z h0 a1 "com/example/forget_by_time/forgetbytime/engine/TableSweep") (F_table : Fld Z h0 a1 "com/example/forget_by_time/forgetbytime/engine/TableSweep" "table" "Lcom/example/forget_by_time/forgetbytime/engine/TableName;" .null) (F_deleted : Fld Z h0 a1 "com/example/forget_by_time/forgetbytime/engine/TableSweep" "deleted" "J" (.long (0 : Int64))) (F_remainingExpired : Fld Z h0 a1 "com/example/forget_by_time/forgetbytime/engine/TableSweep" "remainingExpired" "J" (.long (0 : Int64))) (F_paused : Fld Z h0 a1 "com/example/forget_by_time/forgetbytime/engine/TableSweep" "paused" "Z" (.int (0 : Int32))) (g_a1 : n0 ≤ a1) (hb_p4 : p4 = 0 ∨ p4 = 1) :
    MetFree l (⟨"com/example/forget_by_time/forgetbytime/engine/TableSweep", "<init>", "(Lcom/example/forget_by_time/forgetbytime/engine/TableName;JJZ)V"⟩ : MethodName) (head1 (Jvm.Cond.code (⟨"com/example/forget_by_time/forgetbytime/engine/TableSweep", "<init>", "(Lcom/example/forget_by_time/forgetbytime/engine/TableName;JJZ)V"⟩ : MethodName) prog_15_method_2_code 7 none :: ws) ({ frames := 1, cells := 0, slots := 0, locals := 12 } : Room)) (fun a U => a = #[(.ref a1), (.ref t1), (.long q2), (.long q3), (.int p4)] ∧ Z.Warmed39 U.vm ∧ U.heap = h0) (fun _ _ _ _ _ => True) (fun _ U o U' => ∃ v L, o = .returned v ∧ Q10 Z a1 t1 q2 q3 p4 h0 n0 v U'.heap L ∧ FrameEnd U o U' L ({ frames := 1, cells := 0, slots := 0, locals := 12 } : Room).cells ({ frames := 1, cells := 0, slots := 0, locals := 12 } : Room).slots) := by
  refine MetFree.of_bodySF pn_10 hisR ?_
  intro p e s m args below meth c s₁ Bd hml0 hP hK
  obtain ⟨rfl, hZ, hh⟩ := hP
  have hx := Bd.exec
  have hby := Bd.bytes
  have hml : c.maxLocals = 7 := hml0
  have hown : s.vm.findClass "com/example/forget_by_time/forgetbytime/engine/TableSweep" = some m.cls := findClass_of_methodNamed Bd.named
  have hnm := (name_of_methodNamed Bd.named Bd.method).1
  have X0 : Stand p l e ({ frames := 1, cells := 0, slots := 0, locals := 12 } : Room) s m #[(.ref a1), (.ref t1), (.long q2), (.long q3), (.int p4)] below meth c s₁ [] 0 0 := Stand.of_body Bd
  have e0 : s₁.heap = h0 := by rw [← hh, Bd.state]; rfl
  have N0 := Fr.nil n0
  refine own_at (castTop (ef_10 m a1 t1 q2 q3 p4)) ?_
  have K0 := Keep.refl h0 [a1]
  have sg1 : ∀ t, own_S p e below s₁ (mkF m 1 (own_ARRJWJWI a1 t1 q2 q3 p4) [(.ref a1)]) t → own_S p e below s₁ (mkF m 0 (own_ARRJWJWI a1 t1 q2 q3 p4) []) t := by
    intro t k
    show own_S p e below s₁ (mkF m 0 (own_ARRJWJWI a1 t1 q2 q3 p4) []) _
    refine XS.aloadN X0.here hx rfl (hb hby d10_0) rfl rfl ?_
    exact k
  refine own_by sg1 ?_
  obtain ⟨T1, X1, e1, st1⟩ := initO X0 hx hZ hown (hw _ (List.mem_of_getElem? (i := 59) rfl)) (hw _ (List.mem_of_getElem? (i := 15) rfl)) (hw _ (List.mem_of_getElem? (i := 16) rfl)) e0 (g := (mkF m 1 (own_ARRJWJWI a1 t1 q2 q3 p4) [(.ref a1)])) rfl (by rw [hml]; rfl) rfl (hb hby d10_1) (by decide) (W := 0) (by show 2 * 0 + _ ≤ _; exact Nat.le_of_eq rfl) (by decide)
  refine own_by st1 ?_
  have sg6 : ∀ t, own_S p e below T1 (mkF m 6 (own_ARRJWJWI a1 t1 q2 q3 p4) [(.ref t1), (.ref a1)]) t → own_S p e below T1 (mkF m 4 (own_ARRJWJWI a1 t1 q2 q3 p4) []) t := by
    intro t k
    show own_S p e below T1 (mkF m 4 (own_ARRJWJWI a1 t1 q2 q3 p4) []) _
    refine XS.aloadN X1.here hx rfl (hb hby d10_4) rfl rfl ?_
    show own_S p e below T1 (mkF m 5 (own_ARRJWJWI a1 t1 q2 q3 p4) [(.ref a1)]) _
    refine XS.aloadN X1.here hx rfl (hb hby d10_5) rfl rfl ?_
    exact k
  refine own_by sg6 ?_
  obtain ⟨T6, h6, X6, e6, W6, st6⟩ := putF X1 hx hZ hown (host := "") (Or.inl (hw _ (List.mem_of_getElem? (i := 60) rfl))) Via.refl e1 F_table E_a1 (Or.inr ⟨(hw _ (List.mem_of_getElem? (i := 61) rfl)), rfl, hnm⟩) (hw _ (List.mem_of_getElem? (i := 55) rfl)) (ty := (.object "com/example/forget_by_time/forgetbytime/engine/TableName")) (by decide) rfl rfl (g := (mkF m 6 (own_ARRJWJWI a1 t1 q2 q3 p4) [(.ref t1), (.ref a1)])) rfl rfl (hb hby d10_6)
  have Fw6 := F_table.same W6
  have fc := (F_deleted.other W6 (Or.inr (slot_ne (Or.inr (hw _ (List.mem_of_getElem? (i := 63) rfl))) (Or.inr (hw _ (List.mem_of_getElem? (i := 61) rfl))) (by decide) (t := .long) (t' := (.object "com/example/forget_by_time/forgetbytime/engine/TableName")) (by decide) (by decide))))
  have fc_2 := (F_remainingExpired.other W6 (Or.inr (slot_ne (Or.inr (hw _ (List.mem_of_getElem? (i := 65) rfl))) (Or.inr (hw _ (List.mem_of_getElem? (i := 61) rfl))) (by decide) (t := .long) (t' := (.object "com/example/forget_by_time/forgetbytime/engine/TableName")) (by decide) (by decide))))
  have fc_3 := (F_paused.other W6 (Or.inr (slot_ne (Or.inr (hw _ (List.mem_of_getElem? (i := 67) rfl))) (Or.inr (hw _ (List.mem_of_getElem? (i := 61) rfl))) (by decide) (t := .boolean) (t' := (.object "com/example/forget_by_time/forgetbytime/engine/TableName")) (by decide) (by decide))))
  have K6 : Keep h0 h6 [a1] := K0.wr W6 (Or.inl (List.mem_of_getElem? (i := 0) rfl))
  have Z6 : n0 ≤ h6.size := Nat.le_trans Z0 (Keep.of_wr W6).1
  have N6 := Fr.snoc X6 N0 g_a1
  refine own_by st6 ?_
  have sg11 : ∀ t, own_S p e below T6 (mkF m 11 (own_ARRJWJWI a1 t1 q2 q3 p4) [(.long q2), (.ref a1)]) t → own_S p e below T6 (mkF m 9 (own_ARRJWJWI a1 t1 q2 q3 p4) []) t := by
    intro t k
    show own_S p e below T6 (mkF m 9 (own_ARRJWJWI a1 t1 q2 q3 p4) []) _
    refine XS.aloadN X6.here hx rfl (hb hby d10_9) rfl rfl ?_
    show own_S p e below T6 (mkF m 10 (own_ARRJWJWI a1 t1 q2 q3 p4) [(.ref a1)]) _
    refine XS.lloadN X6.here hx rfl (hb hby d10_10) rfl ?_
    exact k
  refine own_by sg11 ?_
  obtain ⟨T11, h11, X11, e11, W11, st11⟩ := putF X6 hx hZ hown (host := "") (Or.inl (hw _ (List.mem_of_getElem? (i := 62) rfl))) Via.refl e6 fc (E_a1.wr W6) (Or.inr ⟨(hw _ (List.mem_of_getElem? (i := 63) rfl)), rfl, hnm⟩) (hw _ (List.mem_of_getElem? (i := 55) rfl)) (ty := .long) (by decide) rfl rfl (g := (mkF m 11 (own_ARRJWJWI a1 t1 q2 q3 p4) [(.long q2), (.ref a1)])) rfl rfl (hb hby d10_11)
  have Fw11 := fc.same W11
  have fc_4 := (Fw6.other W11 (Or.inr (slot_ne (Or.inr (hw _ (List.mem_of_getElem? (i := 61) rfl))) (Or.inr (hw _ (List.mem_of_getElem? (i := 63) rfl))) (by decide) (t := (.object "com/example/forget_by_time/forgetbytime/engine/TableName")) (t' := .long) (by decide) (by decide))))
  have fc_5 := (fc_2.other W11 (Or.inr (slot_ne (Or.inr (hw _ (List.mem_of_getElem? (i := 65) rfl))) (Or.inr (hw _ (List.mem_of_getElem? (i := 63) rfl))) (by decide) (t := .long) (t' := .long) (by decide) (by decide))))
  have fc_6 := (fc_3.other W11 (Or.inr (slot_ne (Or.inr (hw _ (List.mem_of_getElem? (i := 67) rfl))) (Or.inr (hw _ (List.mem_of_getElem? (i := 63) rfl))) (by decide) (t := .boolean) (t' := .long) (by decide) (by decide))))
  have K11 : Keep h0 h11 [a1] := K6.wr W11 (Or.inl (List.mem_of_getElem? (i := 0) rfl))
  have Z11 : n0 ≤ h11.size := Nat.le_trans Z6 (Keep.of_wr W11).1
  have N11 := Fr.snoc X11 N6 g_a1
  refine own_by st11 ?_
  have sg17 : ∀ t, own_S p e below T11 (mkF m 17 (own_ARRJWJWI a1 t1 q2 q3 p4) [(.long q3), (.ref a1)]) t → own_S p e below T11 (mkF m 14 (own_ARRJWJWI a1 t1 q2 q3 p4) []) t := by
    intro t k
    show own_S p e below T11 (mkF m 14 (own_ARRJWJWI a1 t1 q2 q3 p4) []) _
    refine XS.aloadN X11.here hx rfl (hb hby d10_14) rfl rfl ?_
    show own_S p e below T11 (mkF m 15 (own_ARRJWJWI a1 t1 q2 q3 p4) [(.ref a1)]) _
    refine XS.lload X11.here hx rfl (hb hby d10_15) rfl ?_
    exact k
  refine own_by sg17 ?_
  obtain ⟨T17, h17, X17, e17, W17, st17⟩ := putF X11 hx hZ hown (host := "") (Or.inl (hw _ (List.mem_of_getElem? (i := 64) rfl))) Via.refl e11 fc_5 ((E_a1.wr W6).wr W11) (Or.inr ⟨(hw _ (List.mem_of_getElem? (i := 65) rfl)), rfl, hnm⟩) (hw _ (List.mem_of_getElem? (i := 55) rfl)) (ty := .long) (by decide) rfl rfl (g := (mkF m 17 (own_ARRJWJWI a1 t1 q2 q3 p4) [(.long q3), (.ref a1)])) rfl rfl (hb hby d10_17)
  have Fw17 := fc_5.same W17
  have fc_7 := (fc_4.other W17 (Or.inr (slot_ne (Or.inr (hw _ (List.mem_of_getElem? (i := 61) rfl))) (Or.inr (hw _ (List.mem_of_getElem? (i := 65) rfl))) (by decide) (t := (.object "com/example/forget_by_time/forgetbytime/engine/TableName")) (t' := .long) (by decide) (by decide))))
  have fc_8 := (Fw11.other W17 (Or.inr (slot_ne (Or.inr (hw _ (List.mem_of_getElem? (i := 63) rfl))) (Or.inr (hw _ (List.mem_of_getElem? (i := 65) rfl))) (by decide) (t := .long) (t' := .long) (by decide) (by decide))))
  have fc_9 := (fc_6.other W17 (Or.inr (slot_ne (Or.inr (hw _ (List.mem_of_getElem? (i := 67) rfl))) (Or.inr (hw _ (List.mem_of_getElem? (i := 65) rfl))) (by decide) (t := .boolean) (t' := .long) (by decide) (by decide))))
  have K17 : Keep h0 h17 [a1] := K11.wr W17 (Or.inl (List.mem_of_getElem? (i := 0) rfl))
  have Z17 : n0 ≤ h17.size := Nat.le_trans Z11 (Keep.of_wr W17).1
  have N17 := Fr.snoc X17 N11 g_a1
  refine own_by st17 ?_
  have sg23 : ∀ t, own_S p e below T17 (mkF m 23 (own_ARRJWJWI a1 t1 q2 q3 p4) [(.int p4), (.ref a1)]) t → own_S p e below T17 (mkF m 20 (own_ARRJWJWI a1 t1 q2 q3 p4) []) t := by
    intro t k
    show own_S p e below T17 (mkF m 20 (own_ARRJWJWI a1 t1 q2 q3 p4) []) _
    refine XS.aloadN X17.here hx rfl (hb hby d10_20) rfl rfl ?_
    show own_S p e below T17 (mkF m 21 (own_ARRJWJWI a1 t1 q2 q3 p4) [(.ref a1)]) _
    refine XS.iload X17.here hx rfl (hb hby d10_21) rfl ?_
    exact k
  refine own_by sg23 ?_
  obtain ⟨T23, h23, X23, e23, W23, st23⟩ := putF X17 hx hZ hown (host := "") (Or.inl (hw _ (List.mem_of_getElem? (i := 66) rfl))) Via.refl e17 fc_9 (((E_a1.wr W6).wr W11).wr W17) (Or.inr ⟨(hw _ (List.mem_of_getElem? (i := 67) rfl)), rfl, hnm⟩) (hw _ (List.mem_of_getElem? (i := 55) rfl)) (ty := .boolean) (by decide) (own_nrb hb_p4) (own_ftb hb_p4) (g := (mkF m 23 (own_ARRJWJWI a1 t1 q2 q3 p4) [(.int p4), (.ref a1)])) rfl rfl (hb hby d10_23)
  have Fw23 := fc_9.same W23
  have fc_10 := (fc_7.other W23 (Or.inr (slot_ne (Or.inr (hw _ (List.mem_of_getElem? (i := 61) rfl))) (Or.inr (hw _ (List.mem_of_getElem? (i := 67) rfl))) (by decide) (t := (.object "com/example/forget_by_time/forgetbytime/engine/TableName")) (t' := .boolean) (by decide) (by decide))))
  have fc_11 := (fc_8.other W23 (Or.inr (slot_ne (Or.inr (hw _ (List.mem_of_getElem? (i := 63) rfl))) (Or.inr (hw _ (List.mem_of_getElem? (i := 67) rfl))) (by decide) (t := .long) (t' := .boolean) (by decide) (by decide))))
  have fc_12 := (Fw17.other W23 (Or.inr (slot_ne (Or.inr (hw _ (List.mem_of_getElem? (i := 65) rfl))) (Or.inr (hw _ (List.mem_of_getElem? (i := 67) rfl))) (by decide) (t := .long) (t' := .boolean) (by decide) (by decide))))
  have K23 : Keep h0 h23 [a1] := K17.wr W23 (Or.inl (List.mem_of_getElem? (i := 0) rfl))
  have Z23 : n0 ≤ h23.size := Nat.le_trans Z17 (Keep.of_wr W23).1
  have N23 := Fr.snoc X23 N17 g_a1
  refine own_by st23 ?_
  obtain ⟨fs, hr, hrun, hended, hW, hsame⟩ := X23.leave (v := none) (fun _ => rfl)
  refine ⟨_, _, ?_, hrun, hended, _, _, rfl, ?_, ⟨_, rfl⟩, hW, hsame.mono (by decide) (by decide)⟩
  · exact X23.returnOut hx Bd.returns (hb hby d10_26) hr
  · show Q10 Z a1 t1 q2 q3 p4 h0 n0 _ T23.heap _
    rw [e23]
    exact ⟨rfl, N23, K23, ((((E_a1.wr W6).wr W11).wr W17).wr W23), fc_10, fc_11, fc_12, Fw23⟩
theorem d9_0 : decode prog_15_method_3_code 0 = .ok (.new 2, 3) := by decide +kernel
theorem d9_3 : decode prog_15_method_3_code 3 = .ok (.dup, 1) := by decide +kernel
theorem d9_4 : decode prog_15_method_3_code 4 = .ok (.aload_n 0, 1) := by decide +kernel
theorem d9_5 : decode prog_15_method_3_code 5 = .ok (.lconst 0, 1) := by decide +kernel
theorem d9_6 : decode prog_15_method_3_code 6 = .ok (.lconst 0, 1) := by decide +kernel
theorem d9_7 : decode prog_15_method_3_code 7 = .ok (.iconst 1, 1) := by decide +kernel
theorem d9_8 : decode prog_15_method_3_code 8 = .ok (.invokespecial 1, 3) := by decide +kernel
theorem d9_11 : decode prog_15_method_3_code 11 = .ok (.areturn, 1) := by decide +kernel
theorem pn_9 : plainFor (⟨"com/example/forget_by_time/forgetbytime/engine/TableSweep", "paused", "(Lcom/example/forget_by_time/forgetbytime/engine/TableName;)Lcom/example/forget_by_time/forgetbytime/engine/TableSweep;"⟩ : MethodName) = true := by first | exact plainFor_of_name (by first | (simp [plainName, overriddenIn]; done) | decide +kernel) | decide +kernel | exact Jvm.Free.JP.mathPlain rfl (by decide +kernel)
theorem pd_9_0 : parseMethodDescriptor "(Lcom/example/forget_by_time/forgetbytime/engine/TableName;JJZ)V" = some ⟨[(.object "com/example/forget_by_time/forgetbytime/engine/TableName"), .long, .long, .boolean], none⟩ := by decide +kernel
theorem ef_9 (m : MethodId) (t1 : Addr) : entryFrame m #[(.ref t1)] 1 = mkF m 0 #[.val (.ref t1)] [] := by first | (simp [entryFrame, mkF, argsToLocals, Value.category]; done) | rfl
def Q9 (Z : State) (t1 : Addr) (h0 : Heap) (n0 : Nat) (v : Option Value) (h : Heap) (L : List Loc) : Prop := ∃ r, v = some (.ref r) ∧ h0.size ≤ r ∧ Fr n0 L ∧ Keep h0 h [] ∧ Exa Z h r "com/example/forget_by_time/forgetbytime/engine/TableSweep" ∧ Fld Z h r "com/example/forget_by_time/forgetbytime/engine/TableSweep" "table" "Lcom/example/forget_by_time/forgetbytime/engine/TableName;" (.ref t1) ∧ Fld Z h r "com/example/forget_by_time/forgetbytime/engine/TableSweep" "deleted" "J" (.long (0 : Int64)) ∧ Fld Z h r "com/example/forget_by_time/forgetbytime/engine/TableSweep" "remainingExpired" "J" (.long (0 : Int64)) ∧ Fld Z h r "com/example/forget_by_time/forgetbytime/engine/TableSweep" "paused" "Z" (.int (1 : Int32))
set_option maxRecDepth 65536 in
set_option maxHeartbeats 40000000 in
theorem rm9 (l : Launch) (Z : State) (a0 : Array Value) (hw : ∀ d ∈ tables_1, d.before a0 Z = true) (ws : List Jvm.Cond) (t1 : Addr) (h0 : Heap) (n0 : Nat) (Z0 : n0 ≤ h0.size) :
    MetFree l (⟨"com/example/forget_by_time/forgetbytime/engine/TableSweep", "paused", "(Lcom/example/forget_by_time/forgetbytime/engine/TableName;)Lcom/example/forget_by_time/forgetbytime/engine/TableSweep;"⟩ : MethodName) (head1 (Jvm.Cond.code (⟨"com/example/forget_by_time/forgetbytime/engine/TableSweep", "paused", "(Lcom/example/forget_by_time/forgetbytime/engine/TableName;)Lcom/example/forget_by_time/forgetbytime/engine/TableSweep;"⟩ : MethodName) prog_15_method_3_code 1 (some (.object "com/example/forget_by_time/forgetbytime/engine/TableSweep")) :: ws) ({ frames := 2, cells := 1, slots := 4, locals := 31 } : Room)) (fun a U => a = #[(.ref t1)] ∧ Z.Warmed39 U.vm ∧ U.heap = h0) (fun _ _ _ _ _ => True) (fun _ U o U' => ∃ v L, o = .returned v ∧ Q9 Z t1 h0 n0 v U'.heap L ∧ FrameEnd U o U' L ({ frames := 2, cells := 1, slots := 4, locals := 31 } : Room).cells ({ frames := 2, cells := 1, slots := 4, locals := 31 } : Room).slots) := by
  refine MetFree.of_bodySF pn_9 hisR ?_
  intro p e s m args below meth c s₁ Bd hml0 hP hK
  obtain ⟨rfl, hZ, hh⟩ := hP
  have hx := Bd.exec
  have hby := Bd.bytes
  have hml : c.maxLocals = 1 := hml0
  have hown : s.vm.findClass "com/example/forget_by_time/forgetbytime/engine/TableSweep" = some m.cls := findClass_of_methodNamed Bd.named
  have hnm := (name_of_methodNamed Bd.named Bd.method).1
  have X0 : Stand p l e ({ frames := 2, cells := 1, slots := 4, locals := 31 } : Room) s m #[(.ref t1)] below meth c s₁ [] 0 0 := Stand.of_body Bd
  have e0 : s₁.heap = h0 := by rw [← hh, Bd.state]; rfl
  have N0 := Fr.nil n0
  refine own_at (castTop (ef_9 m t1)) ?_
  have K0 := Keep.refl h0 []
  obtain ⟨T00, h00, X00, e00, E00, A00, D00, -, st00⟩ := newO X0 hx hZ hown (hw _ (List.mem_of_getElem? (i := 54) rfl)) (hw _ (List.mem_of_getElem? (i := 55) rfl)) (hw _ (List.mem_of_getElem? (i := 52) rfl)) e0 (g := (mkF m 0 #[.val (.ref t1)] [])) rfl (hb hby d9_0) (by decide) (by decide)
  obtain ⟨b00, g00⟩ : ∃ z, z = h0.size := ⟨_, rfl⟩
  rw [← g00] at A00 D00 st00
  have g_b00 : n0 ≤ b00 := Nat.le_trans Z0 (Nat.le_of_eq g00.symm)
  have sz_b00 : h0.size ≤ b00 := Nat.le_trans K0.1 (Nat.le_of_eq g00.symm)
  have K00 := K0.ext E00
  have Z00 : n0 ≤ h00.size := Nat.le_trans Z0 E00.1
  have F_table_b00 : Fld Z h00 b00 "com/example/forget_by_time/forgetbytime/engine/TableSweep" "table" "Lcom/example/forget_by_time/forgetbytime/engine/TableName;" .null := D00 (Or.inr (hw _ (List.mem_of_getElem? (i := 61) rfl))) (ty := (.object "com/example/forget_by_time/forgetbytime/engine/TableName")) (by decide)
  have F_deleted_b00 : Fld Z h00 b00 "com/example/forget_by_time/forgetbytime/engine/TableSweep" "deleted" "J" (.long (0 : Int64)) := D00 (Or.inr (hw _ (List.mem_of_getElem? (i := 63) rfl))) (ty := .long) (by decide)
  have F_remainingExpired_b00 : Fld Z h00 b00 "com/example/forget_by_time/forgetbytime/engine/TableSweep" "remainingExpired" "J" (.long (0 : Int64)) := D00 (Or.inr (hw _ (List.mem_of_getElem? (i := 65) rfl))) (ty := .long) (by decide)
  have F_paused_b00 : Fld Z h00 b00 "com/example/forget_by_time/forgetbytime/engine/TableSweep" "paused" "Z" (.int (0 : Int32)) := D00 (Or.inr (hw _ (List.mem_of_getElem? (i := 67) rfl))) (ty := .boolean) (by decide)
  refine own_by st00 ?_
  have sg8 : ∀ t, own_S p e below T00 (mkF m 8 #[.val (.ref t1)] [(.int (1 : Int32)), (.long (0 : Int64)), (.long (0 : Int64)), (.ref t1), (.ref b00), (.ref b00)]) t → own_S p e below T00 (mkF m 3 #[.val (.ref t1)] [(.ref b00)]) t := by
    intro t k
    show own_S p e below T00 (mkF m 3 #[.val (.ref t1)] [(.ref b00)]) _
    refine XS.dup X00.here hx rfl (hb hby d9_3) rfl rfl ?_
    show own_S p e below T00 (mkF m 4 #[.val (.ref t1)] [(.ref b00), (.ref b00)]) _
    refine XS.aloadN X00.here hx rfl (hb hby d9_4) rfl rfl ?_
    show own_S p e below T00 (mkF m 5 #[.val (.ref t1)] [(.ref t1), (.ref b00), (.ref b00)]) _
    refine XS.lconst X00.here hx rfl (hb hby d9_5) ?_
    show own_S p e below T00 (mkF m 6 #[.val (.ref t1)] [(.long (0 : Int64)), (.ref t1), (.ref b00), (.ref b00)]) _
    refine XS.lconst X00.here hx rfl (hb hby d9_6) ?_
    show own_S p e below T00 (mkF m 7 #[.val (.ref t1)] [(.long (0 : Int64)), (.long (0 : Int64)), (.ref t1), (.ref b00), (.ref b00)]) _
    refine XS.iconst X00.here hx rfl (hb hby d9_7) ?_
    exact k
  refine own_by sg8 ?_
  obtain ⟨_, _, ⟨T8, L8, k8, n8⟩, -, X8, ⟨Lc8, hQ8, l8, y8, z8⟩, st8⟩ := X00.specialBack hx (y := (⟨"com/example/forget_by_time/forgetbytime/engine/TableSweep", "<init>", "(Lcom/example/forget_by_time/forgetbytime/engine/TableName;JJZ)V"⟩ : MethodName)) rfl hown (mvT hZ (hw _ (List.mem_of_getElem? (i := 56) rfl))) (mvT hZ (hw _ (List.mem_of_getElem? (i := 57) rfl))) (mvT hZ (hw _ (List.mem_of_getElem? (i := 58) rfl))) (by decide) (backOf (W := 1) (rm10 l Z a0 hw [] b00 t1 (0 : Int64) (0 : Int64) (1 : Int32) h00 n0 Z00 A00 F_table_b00 F_deleted_b00 F_remainingExpired_b00 F_paused_b00 g_b00 (by decide)) hZ (hw _ (List.mem_of_getElem? (i := 58) rfl)) (hw _ (List.mem_of_getElem? (i := 52) rfl)) (by decide) (by decide)) (g := (mkF m 8 #[.val (.ref t1)] [(.int (1 : Int32)), (.long (0 : Int64)), (.long (0 : Int64)), (.ref t1), (.ref b00), (.ref b00)])) rfl (by rw [hml]; rfl) (Steps.refl _) (a := b00) (argsL := [(.ref t1), (.long (0 : Int64)), (.long (0 : Int64)), (.int (1 : Int32))]) (rest := [(.ref b00)]) (lenOf pd_9_0 rfl) rfl (by show 2 * 0 + _ ≤ _; exact Nat.le_of_eq rfl) (hb hby d9_8) (fun _ _ => ⟨rfl, e00, (by decide : 1 + 0 ≤ _), (by decide : 4 + 0 ≤ _)⟩)
  dsimp only [Pt.U, Pt.locs, Pt.cells, Pt.slots] at X8 l8 y8 z8 st8 hQ8
  subst l8 y8 z8
  obtain ⟨rfl, N8q, Kq8, Eq8, Ftable_8, Fdeleted_8, FremainingExpired_8, Fpaused_8⟩ := hQ8
  have N8 := Fr.app N0 N8q
  have K8 : Keep h0 T8.heap [] := K00.trans Kq8 (fun x hx => by cases List.mem_singleton.mp hx; exact Or.inr sz_b00)
  have Z8 : n0 ≤ T8.heap.size := Nat.le_trans Z00 Kq8.1
  refine own_by (fun t k => st8.trans k) ?_
  obtain ⟨fs, hr, hrun, hended, hW, hsame⟩ := X8.leave (v := some (.ref b00)) (fun h => by rw [Bd.returns] at h; cases h)
  refine ⟨_, _, ?_, hrun, hended, _, _, rfl, ?_, ⟨_, rfl⟩, hW, hsame.mono (by decide) (by decide)⟩
  · show Steps p.tables e below (T8.setTop (mkF m 11 #[.val (.ref t1)] [(.ref b00)])) _
    jvm_step X8.here [X8.here.top, hx, (hb hby d9_11), X8.method', Bd.returns, Value.isRef, FieldType.isReference]
    first | (intro acts; rw [hr _ acts rfl rfl rfl]) | rw [hr _ _ rfl rfl rfl]
    exact Steps.refl _
  · show Q9 Z t1 h0 n0 _ T8.heap _
    exact ⟨b00, rfl, sz_b00, N8, K8, Eq8, Ftable_8, Fdeleted_8, FremainingExpired_8, Fpaused_8⟩
theorem d11_0 : decode prog_15_method_1_code 0 = .ok (.aload_n 0, 1) := by decide +kernel
theorem d11_1 : decode prog_15_method_1_code 1 = .ok (.aload_n 1, 1) := by decide +kernel
theorem d11_2 : decode prog_15_method_1_code 2 = .ok (.lload_n 2, 1) := by decide +kernel
theorem d11_3 : decode prog_15_method_1_code 3 = .ok (.lload 4, 2) := by decide +kernel
theorem d11_5 : decode prog_15_method_1_code 5 = .ok (.iconst 0, 1) := by decide +kernel
theorem d11_6 : decode prog_15_method_1_code 6 = .ok (.invokespecial 1, 3) := by decide +kernel
theorem d11_9 : decode prog_15_method_1_code 9 = .ok (.return_, 1) := by decide +kernel
theorem pn_11 : plainFor (⟨"com/example/forget_by_time/forgetbytime/engine/TableSweep", "<init>", "(Lcom/example/forget_by_time/forgetbytime/engine/TableName;JJ)V"⟩ : MethodName) = true := by first | exact plainFor_of_name (by first | (simp [plainName, overriddenIn]; done) | decide +kernel) | decide +kernel | exact Jvm.Free.JP.mathPlain rfl (by decide +kernel)
theorem pd_11_0 : parseMethodDescriptor "(Lcom/example/forget_by_time/forgetbytime/engine/TableName;JJZ)V" = some ⟨[(.object "com/example/forget_by_time/forgetbytime/engine/TableName"), .long, .long, .boolean], none⟩ := by decide +kernel
theorem ef_11 (m : MethodId) (a1 : Addr) (t1 : Addr) (q2 : Int64) (q3 : Int64) : entryFrame m #[(.ref a1), (.ref t1), (.long q2), (.long q3)] 6 = mkF m 0 #[.val (.ref a1), .val (.ref t1), .val (.long q2), .second, .val (.long q3), .second] [] := by first | (simp [entryFrame, mkF, argsToLocals, Value.category]; done) | rfl
def Q11 (Z : State) (a1 : Addr) (t1 : Addr) (q2 : Int64) (q3 : Int64) (h0 : Heap) (n0 : Nat) (v : Option Value) (h : Heap) (L : List Loc) : Prop := v = none ∧ Fr n0 L ∧ Keep h0 h [a1] ∧ Exa Z h a1 "com/example/forget_by_time/forgetbytime/engine/TableSweep" ∧ Fld Z h a1 "com/example/forget_by_time/forgetbytime/engine/TableSweep" "table" "Lcom/example/forget_by_time/forgetbytime/engine/TableName;" (.ref t1) ∧ Fld Z h a1 "com/example/forget_by_time/forgetbytime/engine/TableSweep" "deleted" "J" (.long q2) ∧ Fld Z h a1 "com/example/forget_by_time/forgetbytime/engine/TableSweep" "remainingExpired" "J" (.long q3) ∧ Fld Z h a1 "com/example/forget_by_time/forgetbytime/engine/TableSweep" "paused" "Z" (.int (0 : Int32))
set_option maxRecDepth 65536 in
set_option maxHeartbeats 40000000 in
theorem rm11 (l : Launch) (Z : State) (a0 : Array Value) (hw : ∀ d ∈ tables_1, d.before a0 Z = true) (ws : List Jvm.Cond) (a1 : Addr) (t1 : Addr) (q2 : Int64) (q3 : Int64) (h0 : Heap) (n0 : Nat) (Z0 : n0 ≤ h0.size) (E_a1 : Exa Z h0 a1 "com/example/forget_by_time/forgetbytime/engine/TableSweep") (F_table : Fld Z h0 a1 "com/example/forget_by_time/forgetbytime/engine/TableSweep" "table" "Lcom/example/forget_by_time/forgetbytime/engine/TableName;" .null) (F_deleted : Fld Z h0 a1 "com/example/forget_by_time/forgetbytime/engine/TableSweep" "deleted" "J" (.long (0 : Int64))) (F_remainingExpired : Fld Z h0 a1 "com/example/forget_by_time/forgetbytime/engine/TableSweep" "remainingExpired" "J" (.long (0 : Int64))) (F_paused : Fld Z h0 a1 "com/example/forget_by_time/forgetbytime/engine/TableSweep" "paused" "Z" (.int (0 : Int32))) (g_a1 : n0 ≤ a1) :
    MetFree l (⟨"com/example/forget_by_time/forgetbytime/engine/TableSweep", "<init>", "(Lcom/example/forget_by_time/forgetbytime/engine/TableName;JJ)V"⟩ : MethodName) (head1 (Jvm.Cond.code (⟨"com/example/forget_by_time/forgetbytime/engine/TableSweep", "<init>", "(Lcom/example/forget_by_time/forgetbytime/engine/TableName;JJ)V"⟩ : MethodName) prog_15_method_1_code 6 none :: ws) ({ frames := 2, cells := 0, slots := 0, locals := 30 } : Room)) (fun a U => a = #[(.ref a1), (.ref t1), (.long q2), (.long q3)] ∧ Z.Warmed39 U.vm ∧ U.heap = h0) (fun _ _ _ _ _ => True) (fun _ U o U' => ∃ v L, o = .returned v ∧ Q11 Z a1 t1 q2 q3 h0 n0 v U'.heap L ∧ FrameEnd U o U' L ({ frames := 2, cells := 0, slots := 0, locals := 30 } : Room).cells ({ frames := 2, cells := 0, slots := 0, locals := 30 } : Room).slots) := by
  refine MetFree.of_bodySF pn_11 hisR ?_
  intro p e s m args below meth c s₁ Bd hml0 hP hK
  obtain ⟨rfl, hZ, hh⟩ := hP
  have hx := Bd.exec
  have hby := Bd.bytes
  have hml : c.maxLocals = 6 := hml0
  have hown : s.vm.findClass "com/example/forget_by_time/forgetbytime/engine/TableSweep" = some m.cls := findClass_of_methodNamed Bd.named
  have hnm := (name_of_methodNamed Bd.named Bd.method).1
  have X0 : Stand p l e ({ frames := 2, cells := 0, slots := 0, locals := 30 } : Room) s m #[(.ref a1), (.ref t1), (.long q2), (.long q3)] below meth c s₁ [] 0 0 := Stand.of_body Bd
  have e0 : s₁.heap = h0 := by rw [← hh, Bd.state]; rfl
  have N0 := Fr.nil n0
  refine own_at (castTop (ef_11 m a1 t1 q2 q3)) ?_
  have K0 := Keep.refl h0 [a1]
  have sg6 : ∀ t, own_S p e below s₁ (mkF m 6 (own_ARRJWJW a1 t1 q2 q3) [(.int (0 : Int32)), (.long q3), (.long q2), (.ref t1), (.ref a1)]) t → own_S p e below s₁ (mkF m 0 (own_ARRJWJW a1 t1 q2 q3) []) t := by
    intro t k
    show own_S p e below s₁ (mkF m 0 (own_ARRJWJW a1 t1 q2 q3) []) _
    refine XS.aloadN X0.here hx rfl (hb hby d11_0) rfl rfl ?_
    show own_S p e below s₁ (mkF m 1 (own_ARRJWJW a1 t1 q2 q3) [(.ref a1)]) _
    refine XS.aloadN X0.here hx rfl (hb hby d11_1) rfl rfl ?_
    show own_S p e below s₁ (mkF m 2 (own_ARRJWJW a1 t1 q2 q3) [(.ref t1), (.ref a1)]) _
    refine XS.lloadN X0.here hx rfl (hb hby d11_2) rfl ?_
    show own_S p e below s₁ (mkF m 3 (own_ARRJWJW a1 t1 q2 q3) [(.long q2), (.ref t1), (.ref a1)]) _
    refine XS.lload X0.here hx rfl (hb hby d11_3) rfl ?_
    show own_S p e below s₁ (mkF m 5 (own_ARRJWJW a1 t1 q2 q3) [(.long q3), (.long q2), (.ref t1), (.ref a1)]) _
    refine XS.iconst X0.here hx rfl (hb hby d11_5) ?_
    exact k
  refine own_by sg6 ?_
  obtain ⟨_, _, ⟨T6, L6, k6, n6⟩, -, X6, ⟨Lc6, hQ6, l6, y6, z6⟩, st6⟩ := X0.specialBack hx (y := (⟨"com/example/forget_by_time/forgetbytime/engine/TableSweep", "<init>", "(Lcom/example/forget_by_time/forgetbytime/engine/TableName;JJZ)V"⟩ : MethodName)) rfl hown (mvT hZ (hw _ (List.mem_of_getElem? (i := 56) rfl))) (mvT hZ (hw _ (List.mem_of_getElem? (i := 57) rfl))) (mvT hZ (hw _ (List.mem_of_getElem? (i := 58) rfl))) (by decide) (backOf (W := 0) (rm10 l Z a0 hw [] a1 t1 q2 q3 (0 : Int32) h0 n0 Z0 E_a1 F_table F_deleted F_remainingExpired F_paused g_a1 (by decide)) hZ (hw _ (List.mem_of_getElem? (i := 58) rfl)) (hw _ (List.mem_of_getElem? (i := 52) rfl)) (by decide) (by decide)) (g := (mkF m 6 (own_ARRJWJW a1 t1 q2 q3) [(.int (0 : Int32)), (.long q3), (.long q2), (.ref t1), (.ref a1)])) rfl (by rw [hml]; rfl) (Steps.refl _) (a := a1) (argsL := [(.ref t1), (.long q2), (.long q3), (.int (0 : Int32))]) (rest := []) (lenOf pd_11_0 rfl) rfl (by show 2 * 0 + _ ≤ _; exact Nat.le_of_eq rfl) (hb hby d11_6) (fun _ _ => ⟨rfl, e0, (by decide : 0 + 0 ≤ _), (by decide : 0 + 0 ≤ _)⟩)
  dsimp only [Pt.U, Pt.locs, Pt.cells, Pt.slots] at X6 l6 y6 z6 st6 hQ6
  subst l6 y6 z6
  obtain ⟨rfl, N6q, Kq6, Eq6, Ftable_6, Fdeleted_6, FremainingExpired_6, Fpaused_6⟩ := hQ6
  have N6 := Fr.app N0 N6q
  have K6 : Keep h0 T6.heap [a1] := K0.trans Kq6 (fun x hx => by cases List.mem_singleton.mp hx; exact Or.inl (List.mem_of_getElem? (i := 0) rfl))
  have Z6 : n0 ≤ T6.heap.size := Nat.le_trans Z0 Kq6.1
  refine own_by (fun t k => st6.trans k) ?_
  obtain ⟨fs, hr, hrun, hended, hW, hsame⟩ := X6.leave (v := none) (fun _ => rfl)
  refine ⟨_, _, ?_, hrun, hended, _, _, rfl, ?_, ⟨_, rfl⟩, hW, hsame.mono (by decide) (by decide)⟩
  · exact X6.returnOut hx Bd.returns (hb hby d11_9) hr
  · show Q11 Z a1 t1 q2 q3 h0 n0 _ T6.heap _
    exact ⟨rfl, N6, K6, Eq6, Ftable_6, Fdeleted_6, FremainingExpired_6, Fpaused_6⟩
theorem d12_0 : decode prog_15_method_4_code 0 = .ok (.aload_n 0, 1) := by decide +kernel
theorem d12_1 : decode prog_15_method_4_code 1 = .ok (.getfield 12, 3) := by decide +kernel
theorem d12_4 : decode prog_15_method_4_code 4 = .ok (.areturn, 1) := by decide +kernel
theorem pn_12 : plainFor (⟨"com/example/forget_by_time/forgetbytime/engine/TableSweep", "table", "()Lcom/example/forget_by_time/forgetbytime/engine/TableName;"⟩ : MethodName) = true := by first | exact plainFor_of_name (by first | (simp [plainName, overriddenIn]; done) | decide +kernel) | decide +kernel | exact Jvm.Free.JP.mathPlain rfl (by decide +kernel)
theorem ef_12 (m : MethodId) (a1 : Addr) : entryFrame m #[(.ref a1)] 1 = mkF m 0 #[.val (.ref a1)] [] := by first | (simp [entryFrame, mkF, argsToLocals, Value.category]; done) | rfl
def Q12 (Z : State) (a1 : Addr) (z : Addr) (h0 : Heap) (n0 : Nat) (v : Option Value) (h : Heap) (L : List Loc) : Prop := v = some (.ref z) ∧ Fr n0 L ∧ h = h0
set_option maxRecDepth 65536 in
set_option maxHeartbeats 40000000 in
theorem rm12 (l : Launch) (Z : State) (a0 : Array Value) (hw : ∀ d ∈ tables_1, d.before a0 Z = true) (ws : List Jvm.Cond) (a1 : Addr) (z : Addr) (h0 : Heap) (n0 : Nat) (Z0 : n0 ≤ h0.size) (F : Fld Z h0 a1 "com/example/forget_by_time/forgetbytime/engine/TableSweep" "table" "Lcom/example/forget_by_time/forgetbytime/engine/TableName;" (.ref z)) :
    MetFree l (⟨"com/example/forget_by_time/forgetbytime/engine/TableSweep", "table", "()Lcom/example/forget_by_time/forgetbytime/engine/TableName;"⟩ : MethodName) (head1 (Jvm.Cond.code (⟨"com/example/forget_by_time/forgetbytime/engine/TableSweep", "table", "()Lcom/example/forget_by_time/forgetbytime/engine/TableName;"⟩ : MethodName) prog_15_method_4_code 1 (some (.object "com/example/forget_by_time/forgetbytime/engine/TableName")) :: ws) ({ frames := 0, cells := 0, slots := 0, locals := 0 } : Room)) (fun a U => a = #[(.ref a1)] ∧ Z.Warmed39 U.vm ∧ U.heap = h0) (fun _ _ _ _ _ => True) (fun _ U o U' => ∃ v L, o = .returned v ∧ Q12 Z a1 z h0 n0 v U'.heap L ∧ FrameEnd U o U' L ({ frames := 0, cells := 0, slots := 0, locals := 0 } : Room).cells ({ frames := 0, cells := 0, slots := 0, locals := 0 } : Room).slots) := by
  refine MetFree.of_bodySF pn_12 hisR ?_
  intro p e s m args below meth c s₁ Bd hml0 hP hK
  obtain ⟨rfl, hZ, hh⟩ := hP
  have hx := Bd.exec
  have hby := Bd.bytes
  have hml : c.maxLocals = 1 := hml0
  have hown : s.vm.findClass "com/example/forget_by_time/forgetbytime/engine/TableSweep" = some m.cls := findClass_of_methodNamed Bd.named
  have hnm := (name_of_methodNamed Bd.named Bd.method).1
  have X0 : Stand p l e ({ frames := 0, cells := 0, slots := 0, locals := 0 } : Room) s m #[(.ref a1)] below meth c s₁ [] 0 0 := Stand.of_body Bd
  have e0 : s₁.heap = h0 := by rw [← hh, Bd.state]; rfl
  have N0 := Fr.nil n0
  refine own_at (castTop (ef_12 m a1)) ?_
  have sg1 : ∀ t, own_S p e below s₁ (mkF m 1 #[.val (.ref a1)] [(.ref a1)]) t → own_S p e below s₁ (mkF m 0 #[.val (.ref a1)] []) t := by
    intro t k
    show own_S p e below s₁ (mkF m 0 #[.val (.ref a1)] []) _
    refine XS.aloadN X0.here hx rfl (hb hby d12_0) rfl rfl ?_
    exact k
  refine own_by sg1 ?_
  obtain ⟨T1, X1, e1, st1⟩ := getF X0 hx hZ hown (host := "") (Or.inl (hw _ (List.mem_of_getElem? (i := 60) rfl))) Via.refl e0 F (g := (mkF m 1 #[.val (.ref a1)] [(.ref a1)])) rfl rfl (hb hby d12_1)
  refine own_by st1 ?_
  obtain ⟨fs, hr, hrun, hended, hW, hsame⟩ := X1.leave (v := some (.ref z)) (fun h => by rw [Bd.returns] at h; cases h)
  refine ⟨_, _, ?_, hrun, hended, _, _, rfl, ?_, ⟨_, rfl⟩, hW, hsame.mono (by decide) (by decide)⟩
  · show Steps p.tables e below (T1.setTop (mkF m 4 #[.val (.ref a1)] [(.ref z)])) _
    jvm_step X1.here [X1.here.top, hx, (hb hby d12_4), X1.method', Bd.returns, Value.isRef, FieldType.isReference]
    first | (intro acts; rw [hr _ acts rfl rfl rfl]) | rw [hr _ _ rfl rfl rfl]
    exact Steps.refl _
  · show Q12 Z a1 z h0 n0 _ T1.heap _
    rw [e1]
    exact ⟨rfl, N0, rfl⟩
theorem d13_0 : decode prog_15_method_5_code 0 = .ok (.aload_n 0, 1) := by decide +kernel
theorem d13_1 : decode prog_15_method_5_code 1 = .ok (.getfield 16, 3) := by decide +kernel
theorem d13_4 : decode prog_15_method_5_code 4 = .ok (.lreturn, 1) := by decide +kernel
theorem pn_13 : plainFor (⟨"com/example/forget_by_time/forgetbytime/engine/TableSweep", "deleted", "()J"⟩ : MethodName) = true := by first | exact plainFor_of_name (by first | (simp [plainName, overriddenIn]; done) | decide +kernel) | decide +kernel | exact Jvm.Free.JP.mathPlain rfl (by decide +kernel)
theorem ef_13 (m : MethodId) (a1 : Addr) : entryFrame m #[(.ref a1)] 1 = mkF m 0 #[.val (.ref a1)] [] := by first | (simp [entryFrame, mkF, argsToLocals, Value.category]; done) | rfl
def Q13 (Z : State) (a1 : Addr) (z : Int64) (h0 : Heap) (n0 : Nat) (v : Option Value) (h : Heap) (L : List Loc) : Prop := v = some (.long z) ∧ Fr n0 L ∧ h = h0
set_option maxRecDepth 65536 in
set_option maxHeartbeats 40000000 in
theorem rm13 (l : Launch) (Z : State) (a0 : Array Value) (hw : ∀ d ∈ tables_1, d.before a0 Z = true) (ws : List Jvm.Cond) (a1 : Addr) (z : Int64) (h0 : Heap) (n0 : Nat) (Z0 : n0 ≤ h0.size) (F : Fld Z h0 a1 "com/example/forget_by_time/forgetbytime/engine/TableSweep" "deleted" "J" (.long z)) :
    MetFree l (⟨"com/example/forget_by_time/forgetbytime/engine/TableSweep", "deleted", "()J"⟩ : MethodName) (head1 (Jvm.Cond.code (⟨"com/example/forget_by_time/forgetbytime/engine/TableSweep", "deleted", "()J"⟩ : MethodName) prog_15_method_5_code 1 (some .long) :: ws) ({ frames := 0, cells := 0, slots := 0, locals := 0 } : Room)) (fun a U => a = #[(.ref a1)] ∧ Z.Warmed39 U.vm ∧ U.heap = h0) (fun _ _ _ _ _ => True) (fun _ U o U' => ∃ v L, o = .returned v ∧ Q13 Z a1 z h0 n0 v U'.heap L ∧ FrameEnd U o U' L ({ frames := 0, cells := 0, slots := 0, locals := 0 } : Room).cells ({ frames := 0, cells := 0, slots := 0, locals := 0 } : Room).slots) := by
  refine MetFree.of_bodySF pn_13 hisR ?_
  intro p e s m args below meth c s₁ Bd hml0 hP hK
  obtain ⟨rfl, hZ, hh⟩ := hP
  have hx := Bd.exec
  have hby := Bd.bytes
  have hml : c.maxLocals = 1 := hml0
  have hown : s.vm.findClass "com/example/forget_by_time/forgetbytime/engine/TableSweep" = some m.cls := findClass_of_methodNamed Bd.named
  have hnm := (name_of_methodNamed Bd.named Bd.method).1
  have X0 : Stand p l e ({ frames := 0, cells := 0, slots := 0, locals := 0 } : Room) s m #[(.ref a1)] below meth c s₁ [] 0 0 := Stand.of_body Bd
  have e0 : s₁.heap = h0 := by rw [← hh, Bd.state]; rfl
  have N0 := Fr.nil n0
  refine own_at (castTop (ef_13 m a1)) ?_
  have sg1 : ∀ t, own_S p e below s₁ (mkF m 1 #[.val (.ref a1)] [(.ref a1)]) t → own_S p e below s₁ (mkF m 0 #[.val (.ref a1)] []) t := by
    intro t k
    show own_S p e below s₁ (mkF m 0 #[.val (.ref a1)] []) _
    refine XS.aloadN X0.here hx rfl (hb hby d13_0) rfl rfl ?_
    exact k
  refine own_by sg1 ?_
  obtain ⟨T1, X1, e1, st1⟩ := getF X0 hx hZ hown (host := "") (Or.inl (hw _ (List.mem_of_getElem? (i := 62) rfl))) Via.refl e0 F (g := (mkF m 1 #[.val (.ref a1)] [(.ref a1)])) rfl rfl (hb hby d13_1)
  refine own_by st1 ?_
  obtain ⟨fs, hr, hrun, hended, hW, hsame⟩ := X1.leave (v := some (.long z)) (fun h => by rw [Bd.returns] at h; cases h)
  refine ⟨_, _, ?_, hrun, hended, _, _, rfl, ?_, ⟨_, rfl⟩, hW, hsame.mono (by decide) (by decide)⟩
  · exact X1.lreturnOut hx Bd.returns (hb hby d13_4) hr
  · show Q13 Z a1 z h0 n0 _ T1.heap _
    rw [e1]
    exact ⟨rfl, N0, rfl⟩
theorem d14_0 : decode prog_15_method_6_code 0 = .ok (.aload_n 0, 1) := by decide +kernel
theorem d14_1 : decode prog_15_method_6_code 1 = .ok (.getfield 20, 3) := by decide +kernel
theorem d14_4 : decode prog_15_method_6_code 4 = .ok (.lreturn, 1) := by decide +kernel
theorem pn_14 : plainFor (⟨"com/example/forget_by_time/forgetbytime/engine/TableSweep", "remainingExpired", "()J"⟩ : MethodName) = true := by first | exact plainFor_of_name (by first | (simp [plainName, overriddenIn]; done) | decide +kernel) | decide +kernel | exact Jvm.Free.JP.mathPlain rfl (by decide +kernel)
theorem ef_14 (m : MethodId) (a1 : Addr) : entryFrame m #[(.ref a1)] 1 = mkF m 0 #[.val (.ref a1)] [] := by first | (simp [entryFrame, mkF, argsToLocals, Value.category]; done) | rfl
def Q14 (Z : State) (a1 : Addr) (z : Int64) (h0 : Heap) (n0 : Nat) (v : Option Value) (h : Heap) (L : List Loc) : Prop := v = some (.long z) ∧ Fr n0 L ∧ h = h0
set_option maxRecDepth 65536 in
set_option maxHeartbeats 40000000 in
theorem rm14 (l : Launch) (Z : State) (a0 : Array Value) (hw : ∀ d ∈ tables_1, d.before a0 Z = true) (ws : List Jvm.Cond) (a1 : Addr) (z : Int64) (h0 : Heap) (n0 : Nat) (Z0 : n0 ≤ h0.size) (F : Fld Z h0 a1 "com/example/forget_by_time/forgetbytime/engine/TableSweep" "remainingExpired" "J" (.long z)) :
    MetFree l (⟨"com/example/forget_by_time/forgetbytime/engine/TableSweep", "remainingExpired", "()J"⟩ : MethodName) (head1 (Jvm.Cond.code (⟨"com/example/forget_by_time/forgetbytime/engine/TableSweep", "remainingExpired", "()J"⟩ : MethodName) prog_15_method_6_code 1 (some .long) :: ws) ({ frames := 0, cells := 0, slots := 0, locals := 0 } : Room)) (fun a U => a = #[(.ref a1)] ∧ Z.Warmed39 U.vm ∧ U.heap = h0) (fun _ _ _ _ _ => True) (fun _ U o U' => ∃ v L, o = .returned v ∧ Q14 Z a1 z h0 n0 v U'.heap L ∧ FrameEnd U o U' L ({ frames := 0, cells := 0, slots := 0, locals := 0 } : Room).cells ({ frames := 0, cells := 0, slots := 0, locals := 0 } : Room).slots) := by
  refine MetFree.of_bodySF pn_14 hisR ?_
  intro p e s m args below meth c s₁ Bd hml0 hP hK
  obtain ⟨rfl, hZ, hh⟩ := hP
  have hx := Bd.exec
  have hby := Bd.bytes
  have hml : c.maxLocals = 1 := hml0
  have hown : s.vm.findClass "com/example/forget_by_time/forgetbytime/engine/TableSweep" = some m.cls := findClass_of_methodNamed Bd.named
  have hnm := (name_of_methodNamed Bd.named Bd.method).1
  have X0 : Stand p l e ({ frames := 0, cells := 0, slots := 0, locals := 0 } : Room) s m #[(.ref a1)] below meth c s₁ [] 0 0 := Stand.of_body Bd
  have e0 : s₁.heap = h0 := by rw [← hh, Bd.state]; rfl
  have N0 := Fr.nil n0
  refine own_at (castTop (ef_14 m a1)) ?_
  have sg1 : ∀ t, own_S p e below s₁ (mkF m 1 #[.val (.ref a1)] [(.ref a1)]) t → own_S p e below s₁ (mkF m 0 #[.val (.ref a1)] []) t := by
    intro t k
    show own_S p e below s₁ (mkF m 0 #[.val (.ref a1)] []) _
    refine XS.aloadN X0.here hx rfl (hb hby d14_0) rfl rfl ?_
    exact k
  refine own_by sg1 ?_
  obtain ⟨T1, X1, e1, st1⟩ := getF X0 hx hZ hown (host := "") (Or.inl (hw _ (List.mem_of_getElem? (i := 64) rfl))) Via.refl e0 F (g := (mkF m 1 #[.val (.ref a1)] [(.ref a1)])) rfl rfl (hb hby d14_1)
  refine own_by st1 ?_
  obtain ⟨fs, hr, hrun, hended, hW, hsame⟩ := X1.leave (v := some (.long z)) (fun h => by rw [Bd.returns] at h; cases h)
  refine ⟨_, _, ?_, hrun, hended, _, _, rfl, ?_, ⟨_, rfl⟩, hW, hsame.mono (by decide) (by decide)⟩
  · exact X1.lreturnOut hx Bd.returns (hb hby d14_4) hr
  · show Q14 Z a1 z h0 n0 _ T1.heap _
    rw [e1]
    exact ⟨rfl, N0, rfl⟩
theorem d15_0 : decode prog_15_method_7_code 0 = .ok (.aload_n 0, 1) := by decide +kernel
theorem d15_1 : decode prog_15_method_7_code 1 = .ok (.getfield 23, 3) := by decide +kernel
theorem d15_4 : decode prog_15_method_7_code 4 = .ok (.ireturn, 1) := by decide +kernel
theorem pn_15 : plainFor (⟨"com/example/forget_by_time/forgetbytime/engine/TableSweep", "paused", "()Z"⟩ : MethodName) = true := by first | exact plainFor_of_name (by first | (simp [plainName, overriddenIn]; done) | decide +kernel) | decide +kernel | exact Jvm.Free.JP.mathPlain rfl (by decide +kernel)
theorem ef_15 (m : MethodId) (a1 : Addr) : entryFrame m #[(.ref a1)] 1 = mkF m 0 #[.val (.ref a1)] [] := by first | (simp [entryFrame, mkF, argsToLocals, Value.category]; done) | rfl
def Q15 (Z : State) (a1 : Addr) (z : Int32) (h0 : Heap) (n0 : Nat) (v : Option Value) (h : Heap) (L : List Loc) : Prop := v = some (.int z) ∧ Fr n0 L ∧ h = h0
set_option maxRecDepth 65536 in
set_option maxHeartbeats 40000000 in
theorem rm15 (l : Launch) (Z : State) (a0 : Array Value) (hw : ∀ d ∈ tables_1, d.before a0 Z = true) (ws : List Jvm.Cond) (a1 : Addr) (z : Int32) (h0 : Heap) (n0 : Nat) (Z0 : n0 ≤ h0.size) (F : Fld Z h0 a1 "com/example/forget_by_time/forgetbytime/engine/TableSweep" "paused" "Z" (.int z)) (hz : z = 0 ∨ z = 1) :
    MetFree l (⟨"com/example/forget_by_time/forgetbytime/engine/TableSweep", "paused", "()Z"⟩ : MethodName) (head1 (Jvm.Cond.code (⟨"com/example/forget_by_time/forgetbytime/engine/TableSweep", "paused", "()Z"⟩ : MethodName) prog_15_method_7_code 1 (some .boolean) :: ws) ({ frames := 0, cells := 0, slots := 0, locals := 0 } : Room)) (fun a U => a = #[(.ref a1)] ∧ Z.Warmed39 U.vm ∧ U.heap = h0) (fun _ _ _ _ _ => True) (fun _ U o U' => ∃ v L, o = .returned v ∧ Q15 Z a1 z h0 n0 v U'.heap L ∧ FrameEnd U o U' L ({ frames := 0, cells := 0, slots := 0, locals := 0 } : Room).cells ({ frames := 0, cells := 0, slots := 0, locals := 0 } : Room).slots) := by
  refine MetFree.of_bodySF pn_15 hisR ?_
  intro p e s m args below meth c s₁ Bd hml0 hP hK
  obtain ⟨rfl, hZ, hh⟩ := hP
  have hx := Bd.exec
  have hby := Bd.bytes
  have hml : c.maxLocals = 1 := hml0
  have hown : s.vm.findClass "com/example/forget_by_time/forgetbytime/engine/TableSweep" = some m.cls := findClass_of_methodNamed Bd.named
  have hnm := (name_of_methodNamed Bd.named Bd.method).1
  have X0 : Stand p l e ({ frames := 0, cells := 0, slots := 0, locals := 0 } : Room) s m #[(.ref a1)] below meth c s₁ [] 0 0 := Stand.of_body Bd
  have e0 : s₁.heap = h0 := by rw [← hh, Bd.state]; rfl
  have N0 := Fr.nil n0
  refine own_at (castTop (ef_15 m a1)) ?_
  have sg1 : ∀ t, own_S p e below s₁ (mkF m 1 #[.val (.ref a1)] [(.ref a1)]) t → own_S p e below s₁ (mkF m 0 #[.val (.ref a1)] []) t := by
    intro t k
    show own_S p e below s₁ (mkF m 0 #[.val (.ref a1)] []) _
    refine XS.aloadN X0.here hx rfl (hb hby d15_0) rfl rfl ?_
    exact k
  refine own_by sg1 ?_
  obtain ⟨T1, X1, e1, st1⟩ := getF X0 hx hZ hown (host := "") (Or.inl (hw _ (List.mem_of_getElem? (i := 66) rfl))) Via.refl e0 F (g := (mkF m 1 #[.val (.ref a1)] [(.ref a1)])) rfl rfl (hb hby d15_1)
  refine own_by st1 ?_
  obtain ⟨fs, hr, hrun, hended, hW, hsame⟩ := X1.leave (v := some (.int z)) (fun h => by rw [Bd.returns] at h; cases h)
  refine ⟨_, _, ?_, hrun, hended, _, _, rfl, ?_, ⟨_, rfl⟩, hW, hsame.mono (by decide) (by decide)⟩
  · exact retN X1 hx (t := .boolean) Bd.returns (by simp) (hb hby d15_4) (by rw [own_nb hz]; exact hr)
  · show Q15 Z a1 z h0 n0 _ T1.heap _
    rw [e1]
    exact ⟨rfl, N0, rfl⟩
theorem pn_0 : plainFor x = true := by first | exact plainFor_of_name (by first | (simp [plainName, overriddenIn]; done) | decide +kernel) | decide +kernel | exact Jvm.Free.JP.mathPlain rfl (by decide +kernel)
theorem pd_0_0 : parseMethodDescriptor "([C)V" = some ⟨[(.array .char)], none⟩ := by decide +kernel
theorem pd_0_1 : parseMethodDescriptor "(Ljava/lang/String;Ljava/lang/String;)V" = some ⟨[(.object "java/lang/String"), (.object "java/lang/String")], none⟩ := by decide +kernel
theorem pd_0_2 : parseMethodDescriptor "(Lcom/example/forget_by_time/forgetbytime/engine/TableName;)Lcom/example/forget_by_time/forgetbytime/engine/TableSweep;" = some ⟨[(.object "com/example/forget_by_time/forgetbytime/engine/TableName")], some (.object "com/example/forget_by_time/forgetbytime/engine/TableSweep")⟩ := by decide +kernel
theorem pd_0_3 : parseMethodDescriptor "(Lcom/example/forget_by_time/forgetbytime/engine/TableName;JJ)V" = some ⟨[(.object "com/example/forget_by_time/forgetbytime/engine/TableName"), .long, .long], none⟩ := by decide +kernel
theorem pd_0_4 : parseMethodDescriptor "()Lcom/example/forget_by_time/forgetbytime/engine/TableName;" = some ⟨[], some (.object "com/example/forget_by_time/forgetbytime/engine/TableName")⟩ := by decide +kernel
theorem pd_0_5 : parseMethodDescriptor "()J" = some ⟨[], some .long⟩ := by decide +kernel
theorem pd_0_6 : parseMethodDescriptor "()Z" = some ⟨[], some .boolean⟩ := by decide +kernel
theorem ef_0 (m : MethodId) (p0 : Int32) (p1 : Int32) (q2 : Int64) (q3 : Int64) : entryFrame m #[(.int p0), (.int p1), (.long q2), (.long q3)] maxLocals = mkF m 0 #[.val (.int p0), .val (.int p1), .val (.long q2), .second, .val (.long q3), .second, .unset, .unset, .unset, .unset, .unset] [] := by first | (simp [entryFrame, mkF, argsToLocals, Value.category, maxLocals]; done) | rfl
def Q0 (Z : State) (p0 : Int32) (p1 : Int32) (q2 : Int64) (q3 : Int64) (gz : Int32) (h0 : Heap) (n0 : Nat) (v : Option Value) (h : Heap) (L : List Loc) : Prop := v = some (.int 1) ∧ Fr n0 L
set_option maxRecDepth 65536 in
set_option maxHeartbeats 40000000 in
theorem rm0 (l : Launch) (Z : State) (a0 : Array Value) (hw : ∀ d ∈ tables_1, d.before a0 Z = true) (ws : List Jvm.Cond) (p0 : Int32) (p1 : Int32) (q2 : Int64) (q3 : Int64) (gz : Int32) (h0 : Heap) (n0 : Nat) (Z0 : n0 ≤ h0.size) (O : Old Z n0 h0) (O2 : Sta Z Z.heap "java/lang/String" "COMPACT_STRINGS" "Z" (.int gz)) (P5 : ¬ (gz = (0 : Int32))) :
    MetFree l x (head1 (Jvm.Cond.code x code maxLocals ret :: ws) room_1) (fun a U => a = #[(.int p0), (.int p1), (.long q2), (.long q3)] ∧ Z.Warmed39 U.vm ∧ U.heap = h0) (fun _ _ _ _ _ => True) (fun _ U o U' => ∃ v L, o = .returned v ∧ Q0 Z p0 p1 q2 q3 gz h0 n0 v U'.heap L ∧ ReturnedEndW U o U' L room_1.cells room_1.slots) := by
  refine MetFree.of_bodySF pn_0 hisR ?_
  intro p e s m args below meth c s₁ Bd hml0 hP hK
  obtain ⟨rfl, hZ, hh⟩ := hP
  have hx := Bd.exec
  have hby := Bd.bytes
  have hml : c.maxLocals = 11 := hml0
  have hown : s.vm.findClass "com/example/forget_by_time/forgetbytime/engine/TableSweepPausedPinLaw" = some m.cls := findClass_of_methodNamed Bd.named
  have hnm := (name_of_methodNamed Bd.named Bd.method).1
  have X0 : Stand p l e room_1 (s.setVm s.vm) m #[(.int p0), (.int p1), (.long q2), (.long q3)] below meth c s₁ [] 0 0 := Stand.of_body Bd
  have e0 : s₁.heap = h0 := by rw [← hh, Bd.state]; rfl
  have N0 := Fr.nil n0
  have hS0 : s.Since s.vm 0 := (State.WarmedH.refl s).since 0
  refine own_at (castTop (ef_0 m p0 p1 q2 q3)) ?_
  have K0 := Keep.refl h0 []
  have hws : ∀ d ∈ StrChars.Road.words, d.before a0 Z = true := fun d hd => hw d ((by decide +kernel : ∀ d ∈ StrChars.Road.words, d ∈ tables_1) d hd)
  have sg1 : ∀ t, own_S p e below s₁ (mkF m 1 (own_AIIJWJWUUUUU p0 p1 q2 q3) [(.int (2 : Int32))]) t → own_S p e below s₁ (mkF m 0 (own_AIIJWJWUUUUU p0 p1 q2 q3) []) t := by
    intro t k
    show own_S p e below s₁ (mkF m 0 (own_AIIJWJWUUUUU p0 p1 q2 q3) []) _
    refine XS.iconst X0.here hx rfl (hb hby at_0) ?_
    exact k
  refine own_by sg1 ?_
  obtain ⟨T1, h1, kc1, X1, e1, E1, A1, st1⟩ := newP X0 hx hZ (hw _ (List.mem_of_getElem? (i := 0) rfl)) e0 (g := (mkF m 1 (own_AIIJWJWUUUUU p0 p1 q2 q3) [(.int (2 : Int32))])) rfl (hb hby at_1) rfl (by decide) (cap := 2) (by decide) (by decide) (by decide) (by decide)
  obtain ⟨b1, g1⟩ : ∃ z, z = h0.size := ⟨_, rfl⟩
  rw [← g1] at A1 st1
  have g_b1 : n0 ≤ b1 := Nat.le_trans Z0 (Nat.le_of_eq g1.symm)
  have sz_b1 : h0.size ≤ b1 := Nat.le_trans K0.1 (Nat.le_of_eq g1.symm)
  have K1 := K0.ext E1
  have Z1 : n0 ≤ h1.size := Nat.le_trans Z0 E1.1
  have V1 : Arv Z h1 b1 kc1 .char (2 : Int32) [(.int (0 : Int32)), (.int (0 : Int32))] (.int (0 : Int32)) := (Arv.new A1 (by decide)).pad (pad_rep [] (.int (0 : Int32)) 2)
  refine own_by st1 ?_
  obtain ⟨k11, hk11⟩ : ∃ z : Int32, z = ((p0 &&& (255 : Int32)).toUInt32.toUInt16.toUInt32.toInt32) := ⟨_, rfl⟩
  have hk_k11 : ¬ k11 < 0 ∧ ¬ (255 : Int32) < k11 := by rw [hk11]; exact own_c255 _
  have sg11 : ∀ t, own_S p e below T1 (mkF m 11 (own_AIIJWJWUUUUU p0 p1 q2 q3) [(.int k11), (.int (0 : Int32)), (.ref b1), (.ref b1)]) t → own_S p e below T1 (mkF m 3 (own_AIIJWJWUUUUU p0 p1 q2 q3) [(.ref b1)]) t := by
    intro t k
    rw [hk11] at k
    show own_S p e below T1 (mkF m 3 (own_AIIJWJWUUUUU p0 p1 q2 q3) [(.ref b1)]) _
    refine XS.dup X1.here hx rfl (hb hby at_3) rfl rfl ?_
    show own_S p e below T1 (mkF m 4 (own_AIIJWJWUUUUU p0 p1 q2 q3) [(.ref b1), (.ref b1)]) _
    refine XS.iconst X1.here hx rfl (hb hby at_4) ?_
    show own_S p e below T1 (mkF m 5 (own_AIIJWJWUUUUU p0 p1 q2 q3) [(.int (0 : Int32)), (.ref b1), (.ref b1)]) _
    refine XS.iloadN X1.here hx rfl (hb hby at_5) rfl ?_
    show own_S p e below T1 (mkF m 6 (own_AIIJWJWUUUUU p0 p1 q2 q3) [(.int p0), (.int (0 : Int32)), (.ref b1), (.ref b1)]) _
    refine XS.sipush X1.here hx rfl (hb hby at_6) ?_
    show own_S p e below T1 (mkF m 9 (own_AIIJWJWUUUUU p0 p1 q2 q3) [(.int (255 : Int32)), (.int p0), (.int (0 : Int32)), (.ref b1), (.ref b1)]) _
    refine XS.iand X1.here hx rfl (hb hby at_9) rfl ?_
    show own_S p e below T1 (mkF m 10 (own_AIIJWJWUUUUU p0 p1 q2 q3) [(.int (p0 &&& (255 : Int32))), (.int (0 : Int32)), (.ref b1), (.ref b1)]) _
    refine XS.i2c X1.here hx rfl (hb hby at_10) rfl ?_
    exact k
  refine own_by sg11 ?_
  obtain ⟨cl11, Ar11, qa11, Sa11, Na11, Ha11, Ga11⟩ := V1
  obtain ⟨T11, h11, X11, e11, W11, st11⟩ := stC X1 hx hZ e1 Ar11 (j := (0 : Int32)) (inb_of Sa11 ⟨by decide, by decide⟩) (g := (mkF m 11 (own_AIIJWJWUUUUU p0 p1 q2 q3) [(.int k11), (.int (0 : Int32)), (.ref b1), (.ref b1)])) rfl rfl (hb hby at_11)
  have V11 : Arv Z h11 b1 kc1 .char (2 : Int32) [(.int k11), (.int (0 : Int32))] (.int (0 : Int32)) := by
    have q := Arv.set Ar11 qa11 Sa11 Na11 Ha11 Ga11 (fits_nar_char _) W11 0 rfl (Nat.le_of_ble_eq_true rfl)
    rw [own_narc hk_k11] at q
    exact q
  have K11 : Keep h0 h11 [] := K1.wr W11 (Or.inr sz_b1)
  have Z11 : n0 ≤ h11.size := Nat.le_trans Z1 (Keep.of_wr W11).1
  have N11 := Fr.snoc X11 N0 g_b1
  refine own_by st11 ?_
  obtain ⟨k23, hk23⟩ : ∃ z : Int32, z = ((((p0.toUInt32 >>> ((8 : Int32) &&& 31).toUInt32).toInt32) &&& (255 : Int32)).toUInt32.toUInt16.toUInt32.toInt32) := ⟨_, rfl⟩
  have hk_k23 : ¬ k23 < 0 ∧ ¬ (255 : Int32) < k23 := by rw [hk23]; exact own_c255 _
  have sg23 : ∀ t, own_S p e below T11 (mkF m 23 (own_AIIJWJWUUUUU p0 p1 q2 q3) [(.int k23), (.int (1 : Int32)), (.ref b1), (.ref b1)]) t → own_S p e below T11 (mkF m 12 (own_AIIJWJWUUUUU p0 p1 q2 q3) [(.ref b1)]) t := by
    intro t k
    rw [hk23] at k
    show own_S p e below T11 (mkF m 12 (own_AIIJWJWUUUUU p0 p1 q2 q3) [(.ref b1)]) _
    refine XS.dup X11.here hx rfl (hb hby at_12) rfl rfl ?_
    show own_S p e below T11 (mkF m 13 (own_AIIJWJWUUUUU p0 p1 q2 q3) [(.ref b1), (.ref b1)]) _
    refine XS.iconst X11.here hx rfl (hb hby at_13) ?_
    show own_S p e below T11 (mkF m 14 (own_AIIJWJWUUUUU p0 p1 q2 q3) [(.int (1 : Int32)), (.ref b1), (.ref b1)]) _
    refine XS.iloadN X11.here hx rfl (hb hby at_14) rfl ?_
    show own_S p e below T11 (mkF m 15 (own_AIIJWJWUUUUU p0 p1 q2 q3) [(.int p0), (.int (1 : Int32)), (.ref b1), (.ref b1)]) _
    refine XS.bipush X11.here hx rfl (hb hby at_15) ?_
    show own_S p e below T11 (mkF m 17 (own_AIIJWJWUUUUU p0 p1 q2 q3) [(.int (8 : Int32)), (.int p0), (.int (1 : Int32)), (.ref b1), (.ref b1)]) _
    refine XS.iushr X11.here hx rfl (hb hby at_17) rfl ?_
    show own_S p e below T11 (mkF m 18 (own_AIIJWJWUUUUU p0 p1 q2 q3) [(.int ((p0.toUInt32 >>> ((8 : Int32) &&& 31).toUInt32).toInt32)), (.int (1 : Int32)), (.ref b1), (.ref b1)]) _
    refine XS.sipush X11.here hx rfl (hb hby at_18) ?_
    show own_S p e below T11 (mkF m 21 (own_AIIJWJWUUUUU p0 p1 q2 q3) [(.int (255 : Int32)), (.int ((p0.toUInt32 >>> ((8 : Int32) &&& 31).toUInt32).toInt32)), (.int (1 : Int32)), (.ref b1), (.ref b1)]) _
    refine XS.iand X11.here hx rfl (hb hby at_21) rfl ?_
    show own_S p e below T11 (mkF m 22 (own_AIIJWJWUUUUU p0 p1 q2 q3) [(.int (((p0.toUInt32 >>> ((8 : Int32) &&& 31).toUInt32).toInt32) &&& (255 : Int32))), (.int (1 : Int32)), (.ref b1), (.ref b1)]) _
    refine XS.i2c X11.here hx rfl (hb hby at_22) rfl ?_
    exact k
  refine own_by sg23 ?_
  obtain ⟨cl23, Ar23, qa23, Sa23, Na23, Ha23, Ga23⟩ := V11
  obtain ⟨T23, h23, X23, e23, W23, st23⟩ := stC X11 hx hZ e11 Ar23 (j := (1 : Int32)) (inb_of Sa23 ⟨by decide, by decide⟩) (g := (mkF m 23 (own_AIIJWJWUUUUU p0 p1 q2 q3) [(.int k23), (.int (1 : Int32)), (.ref b1), (.ref b1)])) rfl rfl (hb hby at_23)
  have V23 : Arv Z h23 b1 kc1 .char (2 : Int32) [(.int k11), (.int k23)] (.int (0 : Int32)) := by
    have q := Arv.set Ar23 qa23 Sa23 Na23 Ha23 Ga23 (fits_nar_char _) W23 1 rfl (Nat.le_of_ble_eq_true rfl)
    rw [own_narc hk_k23] at q
    exact q
  have K23 : Keep h0 h23 [] := K11.wr W23 (Or.inr sz_b1)
  have Z23 : n0 ≤ h23.size := Nat.le_trans Z11 (Keep.of_wr W23).1
  have N23 := Fr.snoc X23 N11 g_b1
  refine own_by st23 ?_
  have sg27 : ∀ t, own_S p e below T23 (mkF m 27 (own_AIIJWJWRUUUU p0 p1 q2 q3 b1) [(.int (2 : Int32))]) t → own_S p e below T23 (mkF m 24 (own_AIIJWJWUUUUU p0 p1 q2 q3) [(.ref b1)]) t := by
    intro t k
    show own_S p e below T23 (mkF m 24 (own_AIIJWJWUUUUU p0 p1 q2 q3) [(.ref b1)]) _
    refine XS.astore X23.here hx rfl (hb hby at_24) rfl rfl (l' := (own_AIIJWJWRUUUU p0 p1 q2 q3 b1)) rfl ?_
    show own_S p e below T23 (mkF m 26 (own_AIIJWJWRUUUU p0 p1 q2 q3 b1) []) _
    refine XS.iconst X23.here hx rfl (hb hby at_26) ?_
    exact k
  refine own_by sg27 ?_
  obtain ⟨T27, h27, kc27, X27, e27, E27, A27, st27⟩ := newP X23 hx hZ (hw _ (List.mem_of_getElem? (i := 0) rfl)) e23 (g := (mkF m 27 (own_AIIJWJWRUUUU p0 p1 q2 q3 b1) [(.int (2 : Int32))])) rfl (hb hby at_27) rfl (by decide) (cap := 2) (by decide) (by decide) (by decide) (by decide)
  obtain ⟨b27, g27⟩ : ∃ z, z = h23.size := ⟨_, rfl⟩
  rw [← g27] at A27 st27
  have ne_b1_b27 : b1 ≠ b27 := Nat.ne_of_lt (Nat.lt_of_lt_of_le V23.lt (Nat.le_of_eq g27.symm))
  have g_b27 : n0 ≤ b27 := Nat.le_trans Z23 (Nat.le_of_eq g27.symm)
  have sz_b27 : h0.size ≤ b27 := Nat.le_trans K23.1 (Nat.le_of_eq g27.symm)
  have K27 := K23.ext E27
  have Z27 : n0 ≤ h27.size := Nat.le_trans Z23 E27.1
  have V27 : Arv Z h27 b27 kc27 .char (2 : Int32) [(.int (0 : Int32)), (.int (0 : Int32))] (.int (0 : Int32)) := (Arv.new A27 (by decide)).pad (pad_rep [] (.int (0 : Int32)) 2)
  refine own_by st27 ?_
  obtain ⟨k37, hk37⟩ : ∃ z : Int32, z = ((p1 &&& (255 : Int32)).toUInt32.toUInt16.toUInt32.toInt32) := ⟨_, rfl⟩
  have hk_k37 : ¬ k37 < 0 ∧ ¬ (255 : Int32) < k37 := by rw [hk37]; exact own_c255 _
  have sg37 : ∀ t, own_S p e below T27 (mkF m 37 (own_AIIJWJWRUUUU p0 p1 q2 q3 b1) [(.int k37), (.int (0 : Int32)), (.ref b27), (.ref b27)]) t → own_S p e below T27 (mkF m 29 (own_AIIJWJWRUUUU p0 p1 q2 q3 b1) [(.ref b27)]) t := by
    intro t k
    rw [hk37] at k
    show own_S p e below T27 (mkF m 29 (own_AIIJWJWRUUUU p0 p1 q2 q3 b1) [(.ref b27)]) _
    refine XS.dup X27.here hx rfl (hb hby at_29) rfl rfl ?_
    show own_S p e below T27 (mkF m 30 (own_AIIJWJWRUUUU p0 p1 q2 q3 b1) [(.ref b27), (.ref b27)]) _
    refine XS.iconst X27.here hx rfl (hb hby at_30) ?_
    show own_S p e below T27 (mkF m 31 (own_AIIJWJWRUUUU p0 p1 q2 q3 b1) [(.int (0 : Int32)), (.ref b27), (.ref b27)]) _
    refine XS.iloadN X27.here hx rfl (hb hby at_31) rfl ?_
    show own_S p e below T27 (mkF m 32 (own_AIIJWJWRUUUU p0 p1 q2 q3 b1) [(.int p1), (.int (0 : Int32)), (.ref b27), (.ref b27)]) _
    refine XS.sipush X27.here hx rfl (hb hby at_32) ?_
    show own_S p e below T27 (mkF m 35 (own_AIIJWJWRUUUU p0 p1 q2 q3 b1) [(.int (255 : Int32)), (.int p1), (.int (0 : Int32)), (.ref b27), (.ref b27)]) _
    refine XS.iand X27.here hx rfl (hb hby at_35) rfl ?_
    show own_S p e below T27 (mkF m 36 (own_AIIJWJWRUUUU p0 p1 q2 q3 b1) [(.int (p1 &&& (255 : Int32))), (.int (0 : Int32)), (.ref b27), (.ref b27)]) _
    refine XS.i2c X27.here hx rfl (hb hby at_36) rfl ?_
    exact k
  refine own_by sg37 ?_
  obtain ⟨cl37, Ar37, qa37, Sa37, Na37, Ha37, Ga37⟩ := V27
  obtain ⟨T37, h37, X37, e37, W37, st37⟩ := stC X27 hx hZ e27 Ar37 (j := (0 : Int32)) (inb_of Sa37 ⟨by decide, by decide⟩) (g := (mkF m 37 (own_AIIJWJWRUUUU p0 p1 q2 q3 b1) [(.int k37), (.int (0 : Int32)), (.ref b27), (.ref b27)])) rfl rfl (hb hby at_37)
  have V37 : Arv Z h37 b27 kc27 .char (2 : Int32) [(.int k37), (.int (0 : Int32))] (.int (0 : Int32)) := by
    have q := Arv.set Ar37 qa37 Sa37 Na37 Ha37 Ga37 (fits_nar_char _) W37 0 rfl (Nat.le_of_ble_eq_true rfl)
    rw [own_narc hk_k37] at q
    exact q
  have K37 : Keep h0 h37 [] := K27.wr W37 (Or.inr sz_b27)
  have Z37 : n0 ≤ h37.size := Nat.le_trans Z27 (Keep.of_wr W37).1
  have N37 := Fr.snoc X37 N23 g_b27
  refine own_by st37 ?_
  obtain ⟨k49, hk49⟩ : ∃ z : Int32, z = ((((p1.toUInt32 >>> ((8 : Int32) &&& 31).toUInt32).toInt32) &&& (255 : Int32)).toUInt32.toUInt16.toUInt32.toInt32) := ⟨_, rfl⟩
  have hk_k49 : ¬ k49 < 0 ∧ ¬ (255 : Int32) < k49 := by rw [hk49]; exact own_c255 _
  have sg49 : ∀ t, own_S p e below T37 (mkF m 49 (own_AIIJWJWRUUUU p0 p1 q2 q3 b1) [(.int k49), (.int (1 : Int32)), (.ref b27), (.ref b27)]) t → own_S p e below T37 (mkF m 38 (own_AIIJWJWRUUUU p0 p1 q2 q3 b1) [(.ref b27)]) t := by
    intro t k
    rw [hk49] at k
    show own_S p e below T37 (mkF m 38 (own_AIIJWJWRUUUU p0 p1 q2 q3 b1) [(.ref b27)]) _
    refine XS.dup X37.here hx rfl (hb hby at_38) rfl rfl ?_
    show own_S p e below T37 (mkF m 39 (own_AIIJWJWRUUUU p0 p1 q2 q3 b1) [(.ref b27), (.ref b27)]) _
    refine XS.iconst X37.here hx rfl (hb hby at_39) ?_
    show own_S p e below T37 (mkF m 40 (own_AIIJWJWRUUUU p0 p1 q2 q3 b1) [(.int (1 : Int32)), (.ref b27), (.ref b27)]) _
    refine XS.iloadN X37.here hx rfl (hb hby at_40) rfl ?_
    show own_S p e below T37 (mkF m 41 (own_AIIJWJWRUUUU p0 p1 q2 q3 b1) [(.int p1), (.int (1 : Int32)), (.ref b27), (.ref b27)]) _
    refine XS.bipush X37.here hx rfl (hb hby at_41) ?_
    show own_S p e below T37 (mkF m 43 (own_AIIJWJWRUUUU p0 p1 q2 q3 b1) [(.int (8 : Int32)), (.int p1), (.int (1 : Int32)), (.ref b27), (.ref b27)]) _
    refine XS.iushr X37.here hx rfl (hb hby at_43) rfl ?_
    show own_S p e below T37 (mkF m 44 (own_AIIJWJWRUUUU p0 p1 q2 q3 b1) [(.int ((p1.toUInt32 >>> ((8 : Int32) &&& 31).toUInt32).toInt32)), (.int (1 : Int32)), (.ref b27), (.ref b27)]) _
    refine XS.sipush X37.here hx rfl (hb hby at_44) ?_
    show own_S p e below T37 (mkF m 47 (own_AIIJWJWRUUUU p0 p1 q2 q3 b1) [(.int (255 : Int32)), (.int ((p1.toUInt32 >>> ((8 : Int32) &&& 31).toUInt32).toInt32)), (.int (1 : Int32)), (.ref b27), (.ref b27)]) _
    refine XS.iand X37.here hx rfl (hb hby at_47) rfl ?_
    show own_S p e below T37 (mkF m 48 (own_AIIJWJWRUUUU p0 p1 q2 q3 b1) [(.int (((p1.toUInt32 >>> ((8 : Int32) &&& 31).toUInt32).toInt32) &&& (255 : Int32))), (.int (1 : Int32)), (.ref b27), (.ref b27)]) _
    refine XS.i2c X37.here hx rfl (hb hby at_48) rfl ?_
    exact k
  refine own_by sg49 ?_
  obtain ⟨cl49, Ar49, qa49, Sa49, Na49, Ha49, Ga49⟩ := V37
  obtain ⟨T49, h49, X49, e49, W49, st49⟩ := stC X37 hx hZ e37 Ar49 (j := (1 : Int32)) (inb_of Sa49 ⟨by decide, by decide⟩) (g := (mkF m 49 (own_AIIJWJWRUUUU p0 p1 q2 q3 b1) [(.int k49), (.int (1 : Int32)), (.ref b27), (.ref b27)])) rfl rfl (hb hby at_49)
  have V49 : Arv Z h49 b27 kc27 .char (2 : Int32) [(.int k37), (.int k49)] (.int (0 : Int32)) := by
    have q := Arv.set Ar49 qa49 Sa49 Na49 Ha49 Ga49 (fits_nar_char _) W49 1 rfl (Nat.le_of_ble_eq_true rfl)
    rw [own_narc hk_k49] at q
    exact q
  have K49 : Keep h0 h49 [] := K37.wr W49 (Or.inr sz_b27)
  have Z49 : n0 ≤ h49.size := Nat.le_trans Z37 (Keep.of_wr W49).1
  have N49 := Fr.snoc X49 N37 g_b27
  refine own_by st49 ?_
  have sg52 : ∀ t, own_S p e below T49 (mkF m 52 (own_AIIJWJWRRUUU p0 p1 q2 q3 b1 b27) []) t → own_S p e below T49 (mkF m 50 (own_AIIJWJWRUUUU p0 p1 q2 q3 b1) [(.ref b27)]) t := by
    intro t k
    show own_S p e below T49 (mkF m 50 (own_AIIJWJWRUUUU p0 p1 q2 q3 b1) [(.ref b27)]) _
    refine XS.astore X49.here hx rfl (hb hby at_50) rfl rfl (l' := (own_AIIJWJWRRUUU p0 p1 q2 q3 b1 b27)) rfl ?_
    exact k
  refine own_by sg52 ?_
  obtain ⟨T52, h52, X52, e52, E52, A52, D52, -, st52⟩ := newO X49 hx hZ hown (hw _ (List.mem_of_getElem? (i := 1) rfl)) (hw _ (List.mem_of_getElem? (i := 2) rfl)) (hw _ (List.mem_of_getElem? (i := 3) rfl)) e49 (g := (mkF m 52 (own_AIIJWJWRRUUU p0 p1 q2 q3 b1 b27) [])) rfl (hb hby at_52) (by decide) (by decide)
  obtain ⟨b52, g52⟩ : ∃ z, z = h49.size := ⟨_, rfl⟩
  rw [← g52] at A52 D52 st52
  have ne_b1_b52 : b1 ≠ b52 := Nat.ne_of_lt (Nat.lt_of_lt_of_le (((V23.ext E27).other W37 ne_b1_b27).other W49 ne_b1_b27).lt (Nat.le_of_eq g52.symm))
  have ne_b27_b52 : b27 ≠ b52 := Nat.ne_of_lt (Nat.lt_of_lt_of_le V49.lt (Nat.le_of_eq g52.symm))
  have g_b52 : n0 ≤ b52 := Nat.le_trans Z49 (Nat.le_of_eq g52.symm)
  have sz_b52 : h0.size ≤ b52 := Nat.le_trans K49.1 (Nat.le_of_eq g52.symm)
  have fc := ((((V23.ext E27).other W37 ne_b1_b27).other W49 ne_b1_b27).ext E52)
  have K52 := K49.ext E52
  have Z52 : n0 ≤ h52.size := Nat.le_trans Z49 E52.1
  have F_schema_b52 : Fld Z h52 b52 "com/example/forget_by_time/forgetbytime/engine/TableName" "schema" "Ljava/lang/String;" .null := D52 (Or.inr (hw _ (List.mem_of_getElem? (i := 46) rfl))) (ty := (.object "java/lang/String")) (by decide)
  have F_name_b52 : Fld Z h52 b52 "com/example/forget_by_time/forgetbytime/engine/TableName" "name" "Ljava/lang/String;" .null := D52 (Or.inr (hw _ (List.mem_of_getElem? (i := 49) rfl))) (ty := (.object "java/lang/String")) (by decide)
  refine own_by st52 ?_
  have sg56 : ∀ t, own_S p e below T52 (mkF m 56 (own_AIIJWJWRRUUU p0 p1 q2 q3 b1 b27) [(.ref b52), (.ref b52)]) t → own_S p e below T52 (mkF m 55 (own_AIIJWJWRRUUU p0 p1 q2 q3 b1 b27) [(.ref b52)]) t := by
    intro t k
    show own_S p e below T52 (mkF m 55 (own_AIIJWJWRRUUU p0 p1 q2 q3 b1 b27) [(.ref b52)]) _
    refine XS.dup X52.here hx rfl (hb hby at_55) rfl rfl ?_
    exact k
  refine own_by sg56 ?_
  obtain ⟨T56, h56, X56, e56, E56, A56, D56, -, st56⟩ := newO X52 hx hZ hown (hw _ (List.mem_of_getElem? (i := 4) rfl)) (hw _ (List.mem_of_getElem? (i := 5) rfl)) (hw _ (List.mem_of_getElem? (i := 6) rfl)) e52 (g := (mkF m 56 (own_AIIJWJWRRUUU p0 p1 q2 q3 b1 b27) [(.ref b52), (.ref b52)])) rfl (hb hby at_56) (by decide) (by decide)
  obtain ⟨b56, g56⟩ : ∃ z, z = h52.size := ⟨_, rfl⟩
  rw [← g56] at A56 D56 st56
  have ne_b1_b56 : b1 ≠ b56 := Nat.ne_of_lt (Nat.lt_of_lt_of_le fc.lt (Nat.le_of_eq g56.symm))
  have ne_b27_b56 : b27 ≠ b56 := Nat.ne_of_lt (Nat.lt_of_lt_of_le (V49.ext E52).lt (Nat.le_of_eq g56.symm))
  have ne_b52_b56 : b52 ≠ b56 := Nat.ne_of_lt (Nat.lt_of_lt_of_le A52.lt (Nat.le_of_eq g56.symm))
  have g_b56 : n0 ≤ b56 := Nat.le_trans Z52 (Nat.le_of_eq g56.symm)
  have sz_b56 : h0.size ≤ b56 := Nat.le_trans K52.1 (Nat.le_of_eq g56.symm)
  have K56 := K52.ext E56
  have Z56 : n0 ≤ h56.size := Nat.le_trans Z52 E56.1
  have F_coder_b56 : Fld Z h56 b56 "java/lang/String" "coder" "B" (.int (0 : Int32)) := D56 (Or.inr (hw _ (List.mem_of_getElem? (i := 30) rfl))) (ty := .byte) (by decide)
  have F_value_b56 : Fld Z h56 b56 "java/lang/String" "value" "[B" .null := D56 (Or.inr (hw _ (List.mem_of_getElem? (i := 32) rfl))) (ty := (.array .byte)) (by decide)
  refine own_by st56 ?_
  have sg62 : ∀ t, own_S p e below T56 (mkF m 62 (own_AIIJWJWRRUUU p0 p1 q2 q3 b1 b27) [(.ref b1), (.ref b56), (.ref b56), (.ref b52), (.ref b52)]) t → own_S p e below T56 (mkF m 59 (own_AIIJWJWRRUUU p0 p1 q2 q3 b1 b27) [(.ref b56), (.ref b52), (.ref b52)]) t := by
    intro t k
    show own_S p e below T56 (mkF m 59 (own_AIIJWJWRRUUU p0 p1 q2 q3 b1 b27) [(.ref b56), (.ref b52), (.ref b52)]) _
    refine XS.dup X56.here hx rfl (hb hby at_59) rfl rfl ?_
    show own_S p e below T56 (mkF m 60 (own_AIIJWJWRRUUU p0 p1 q2 q3 b1 b27) [(.ref b56), (.ref b56), (.ref b52), (.ref b52)]) _
    refine XS.aload X56.here hx rfl (hb hby at_60) rfl rfl ?_
    exact k
  refine own_by sg62 ?_
  have hp62 : ∀ c ∈ ([k11, k23] : List Int32), ¬ c < 0 ∧ ¬ (255 : Int32) < c := by
    intro c hc
    simp only [List.mem_cons, List.not_mem_nil, or_false] at hc
    rcases hc with rfl | rfl
    · exact hk_k11
    · exact hk_k23
  obtain ⟨_, _, ⟨T62, L62, k62, n62⟩, -, X62, ⟨Lc62, hQ62, l62, y62, z62⟩, st62⟩ := X56.specialBack hx (y := (⟨"java/lang/String", "<init>", "([C)V"⟩ : MethodName)) rfl hown (mvT hZ (hw _ (List.mem_of_getElem? (i := 7) rfl))) (mvT hZ (hw _ (List.mem_of_getElem? (i := 8) rfl))) (mvT hZ (hw _ (List.mem_of_getElem? (i := 9) rfl))) (by decide) (StrChars.Road.backV (W := 3) hZ hws (kI := 4) (hw _ (List.mem_of_getElem? (i := 5) rfl)) (cs := ([k11, k23] : List Int32)) (bs := ([k11, k23] : List Int32).map (fun c => c.toInt8.toInt32)) (n := 2) g_b56 Z56 A56 F_value_b56 F_coder_b56 (fc.ext E56) (O2.ext ((((((((O.ext E1).wr W11 g_b1).wr W23 g_b1).ext E27).wr W37 g_b27).wr W49 g_b27).ext E52).ext E56).2) P5 rfl rfl (by decide) (by decide) hp62 rfl (by decide) (by decide)) (g := (mkF m 62 (own_AIIJWJWRRUUU p0 p1 q2 q3 b1 b27) [(.ref b1), (.ref b56), (.ref b56), (.ref b52), (.ref b52)])) rfl (by rw [hml]; rfl) (Steps.refl _) (a := b56) (argsL := [(.ref b1)]) (rest := [(.ref b56), (.ref b52), (.ref b52)]) (lenOf pd_0_0 rfl) rfl (by show 2 * 0 + _ ≤ _; exact Nat.le_of_eq rfl) (hb hby at_62) (fun _ _ => ⟨rfl, e56, (by decide : 4 + 1 ≤ _), (by decide : 10 + 2 ≤ _)⟩)
  dsimp only [Pt.U, Pt.locs, Pt.cells, Pt.slots] at X62 l62 y62 z62 st62 hQ62
  subst l62 y62 z62
  obtain ⟨rfl, N62q, Kq62, Eq62, Cq62, t62, kb62, u162, u262, u362, Vq62, Aq62⟩ := hQ62
  have N62 := Fr.app N49 N62q
  have ne_b1_t62 : b1 ≠ t62 := Nat.ne_of_lt (Nat.lt_of_lt_of_le (fc.ext E56).lt u262)
  have ne_b27_t62 : b27 ≠ t62 := Nat.ne_of_lt (Nat.lt_of_lt_of_le ((V49.ext E52).ext E56).lt u262)
  have ne_b52_t62 : b52 ≠ t62 := Nat.ne_of_lt (Nat.lt_of_lt_of_le (A52.ext E56).lt u262)
  have ne_b56_t62 : b56 ≠ t62 := Nat.ne_of_lt (Nat.lt_of_lt_of_le A56.lt u262)
  have g_t62 : n0 ≤ t62 := Nat.le_trans Z56 u262
  have sz_t62 : h0.size ≤ t62 := Nat.le_trans K56.1 u262
  have fc_2 := ((fc.ext E56).keep Kq62 (fun h => ne_b1_b56 (List.mem_singleton.mp h)))
  have fc_3 := (((V49.ext E52).ext E56).keep Kq62 (fun h => ne_b27_b56 (List.mem_singleton.mp h)))
  have fc_4 := ((F_schema_b52.ext E56).keep Kq62 (fun h => ne_b52_b56 (List.mem_singleton.mp h)))
  have fc_5 := ((F_name_b52.ext E56).keep Kq62 (fun h => ne_b52_b56 (List.mem_singleton.mp h)))
  have K62 : Keep h0 T62.heap [] := K56.trans Kq62 (fun x hx => by cases List.mem_singleton.mp hx; exact Or.inr sz_b56)
  have Z62 : n0 ≤ T62.heap.size := Nat.le_trans Z56 Kq62.1
  refine own_by (fun t k => st62.trans k) ?_
  obtain ⟨T65, h65, X65, e65, E65, A65, D65, -, st65⟩ := newO X62 hx hZ hown (hw _ (List.mem_of_getElem? (i := 4) rfl)) (hw _ (List.mem_of_getElem? (i := 5) rfl)) (hw _ (List.mem_of_getElem? (i := 6) rfl)) rfl (g := (mkF m 65 (own_AIIJWJWRRUUU p0 p1 q2 q3 b1 b27) [(.ref b56), (.ref b52), (.ref b52)])) rfl (hb hby at_65) (by decide) (by decide)
  obtain ⟨b65, g65⟩ : ∃ z, z = T62.heap.size := ⟨_, rfl⟩
  rw [← g65] at A65 D65 st65
  have ne_b1_b65 : b1 ≠ b65 := Nat.ne_of_lt (Nat.lt_of_lt_of_le fc_2.lt (Nat.le_of_eq g65.symm))
  have ne_b27_b65 : b27 ≠ b65 := Nat.ne_of_lt (Nat.lt_of_lt_of_le fc_3.lt (Nat.le_of_eq g65.symm))
  have ne_b52_b65 : b52 ≠ b65 := Nat.ne_of_lt (Nat.lt_of_lt_of_le ((A52.ext E56).keep Kq62).lt (Nat.le_of_eq g65.symm))
  have ne_b56_b65 : b56 ≠ b65 := Nat.ne_of_lt (Nat.lt_of_lt_of_le Eq62.lt (Nat.le_of_eq g65.symm))
  have ne_t62_b65 : t62 ≠ b65 := Nat.ne_of_lt (Nat.lt_of_lt_of_le Aq62.lt (Nat.le_of_eq g65.symm))
  have g_b65 : n0 ≤ b65 := Nat.le_trans Z62 (Nat.le_of_eq g65.symm)
  have sz_b65 : h0.size ≤ b65 := Nat.le_trans K62.1 (Nat.le_of_eq g65.symm)
  have K65 := K62.ext E65
  have Z65 : n0 ≤ h65.size := Nat.le_trans Z62 E65.1
  have F_coder_b65 : Fld Z h65 b65 "java/lang/String" "coder" "B" (.int (0 : Int32)) := D65 (Or.inr (hw _ (List.mem_of_getElem? (i := 30) rfl))) (ty := .byte) (by decide)
  have F_value_b65 : Fld Z h65 b65 "java/lang/String" "value" "[B" .null := D65 (Or.inr (hw _ (List.mem_of_getElem? (i := 32) rfl))) (ty := (.array .byte)) (by decide)
  refine own_by st65 ?_
  have sg71 : ∀ t, own_S p e below T65 (mkF m 71 (own_AIIJWJWRRUUU p0 p1 q2 q3 b1 b27) [(.ref b27), (.ref b65), (.ref b65), (.ref b56), (.ref b52), (.ref b52)]) t → own_S p e below T65 (mkF m 68 (own_AIIJWJWRRUUU p0 p1 q2 q3 b1 b27) [(.ref b65), (.ref b56), (.ref b52), (.ref b52)]) t := by
    intro t k
    show own_S p e below T65 (mkF m 68 (own_AIIJWJWRRUUU p0 p1 q2 q3 b1 b27) [(.ref b65), (.ref b56), (.ref b52), (.ref b52)]) _
    refine XS.dup X65.here hx rfl (hb hby at_68) rfl rfl ?_
    show own_S p e below T65 (mkF m 69 (own_AIIJWJWRRUUU p0 p1 q2 q3 b1 b27) [(.ref b65), (.ref b65), (.ref b56), (.ref b52), (.ref b52)]) _
    refine XS.aload X65.here hx rfl (hb hby at_69) rfl rfl ?_
    exact k
  refine own_by sg71 ?_
  have hp71 : ∀ c ∈ ([k37, k49] : List Int32), ¬ c < 0 ∧ ¬ (255 : Int32) < c := by
    intro c hc
    simp only [List.mem_cons, List.not_mem_nil, or_false] at hc
    rcases hc with rfl | rfl
    · exact hk_k37
    · exact hk_k49
  obtain ⟨_, _, ⟨T71, L71, k71, n71⟩, -, X71, ⟨Lc71, hQ71, l71, y71, z71⟩, st71⟩ := X65.specialBack hx (y := (⟨"java/lang/String", "<init>", "([C)V"⟩ : MethodName)) rfl hown (mvT hZ (hw _ (List.mem_of_getElem? (i := 7) rfl))) (mvT hZ (hw _ (List.mem_of_getElem? (i := 8) rfl))) (mvT hZ (hw _ (List.mem_of_getElem? (i := 9) rfl))) (by decide) (StrChars.Road.backV (W := 4) hZ hws (kI := 4) (hw _ (List.mem_of_getElem? (i := 5) rfl)) (cs := ([k37, k49] : List Int32)) (bs := ([k37, k49] : List Int32).map (fun c => c.toInt8.toInt32)) (n := 2) g_b65 Z65 A65 F_value_b65 F_coder_b65 (fc_3.ext E65) (O2.ext ((((((((((O.ext E1).wr W11 g_b1).wr W23 g_b1).ext E27).wr W37 g_b27).wr W49 g_b27).ext E52).ext E56).keep Kq62 (allS g_b56 all0)).ext E65).2) P5 rfl rfl (by decide) (by decide) hp71 rfl (by decide) (by decide)) (g := (mkF m 71 (own_AIIJWJWRRUUU p0 p1 q2 q3 b1 b27) [(.ref b27), (.ref b65), (.ref b65), (.ref b56), (.ref b52), (.ref b52)])) rfl (by rw [hml]; rfl) (Steps.refl _) (a := b65) (argsL := [(.ref b27)]) (rest := [(.ref b65), (.ref b56), (.ref b52), (.ref b52)]) (lenOf pd_0_0 rfl) rfl (by show 2 * 0 + _ ≤ _; exact Nat.le_of_eq rfl) (hb hby at_71) (fun _ _ => ⟨rfl, e65, (by decide : 6 + 1 ≤ _), (by decide : 16 + 2 ≤ _)⟩)
  dsimp only [Pt.U, Pt.locs, Pt.cells, Pt.slots] at X71 l71 y71 z71 st71 hQ71
  subst l71 y71 z71
  obtain ⟨rfl, N71q, Kq71, Eq71, Cq71, t71, kb71, u171, u271, u371, Vq71, Aq71⟩ := hQ71
  have N71 := Fr.app N62 N71q
  have ne_b1_t71 : b1 ≠ t71 := Nat.ne_of_lt (Nat.lt_of_lt_of_le (fc_2.ext E65).lt u271)
  have ne_b27_t71 : b27 ≠ t71 := Nat.ne_of_lt (Nat.lt_of_lt_of_le (fc_3.ext E65).lt u271)
  have ne_b52_t71 : b52 ≠ t71 := Nat.ne_of_lt (Nat.lt_of_lt_of_le (((A52.ext E56).keep Kq62).ext E65).lt u271)
  have ne_b56_t71 : b56 ≠ t71 := Nat.ne_of_lt (Nat.lt_of_lt_of_le (Eq62.ext E65).lt u271)
  have ne_t62_t71 : t62 ≠ t71 := Nat.ne_of_lt (Nat.lt_of_lt_of_le (Aq62.ext E65).lt u271)
  have ne_b65_t71 : b65 ≠ t71 := Nat.ne_of_lt (Nat.lt_of_lt_of_le A65.lt u271)
  have g_t71 : n0 ≤ t71 := Nat.le_trans Z65 u271
  have sz_t71 : h0.size ≤ t71 := Nat.le_trans K65.1 u271
  have fc_6 := ((fc_2.ext E65).keep Kq71 (fun h => ne_b1_b65 (List.mem_singleton.mp h)))
  have fc_7 := ((fc_3.ext E65).keep Kq71 (fun h => ne_b27_b65 (List.mem_singleton.mp h)))
  have fc_8 := ((fc_4.ext E65).keep Kq71 (fun h => ne_b52_b65 (List.mem_singleton.mp h)))
  have fc_9 := ((fc_5.ext E65).keep Kq71 (fun h => ne_b52_b65 (List.mem_singleton.mp h)))
  have fc_10 := ((Cq62.ext E65).keep Kq71 (fun h => ne_b56_b65 (List.mem_singleton.mp h)))
  have fc_11 := ((Vq62.ext E65).keep Kq71 (fun h => ne_b56_b65 (List.mem_singleton.mp h)))
  have fc_12 := ((Aq62.ext E65).keep Kq71 (fun h => ne_t62_b65 (List.mem_singleton.mp h)))
  have K71 : Keep h0 T71.heap [] := K65.trans Kq71 (fun x hx => by cases List.mem_singleton.mp hx; exact Or.inr sz_b65)
  have Z71 : n0 ≤ T71.heap.size := Nat.le_trans Z65 Kq71.1
  refine own_by (fun t k => st71.trans k) ?_
  obtain ⟨_, _, ⟨T74, L74, k74, n74⟩, -, Xc74, hSc74, hgc74, ⟨Lc74, hQ74, l74, y74, z74⟩, st74⟩ := X71.specialBackS hx (y := (⟨"com/example/forget_by_time/forgetbytime/engine/TableName", "<init>", "(Ljava/lang/String;Ljava/lang/String;)V"⟩ : MethodName)) rfl hown (mvT hZ (hw _ (List.mem_of_getElem? (i := 33) rfl))) (mvT hZ (hw _ (List.mem_of_getElem? (i := 34) rfl))) (mvT hZ (hw _ (List.mem_of_getElem? (i := 35) rfl))) (by decide) (backOfS (W := 1) (rm7 l Z a0 hw [] b52 b56 b65 T71.heap n0 Z71 ((((A52.ext E56).keep Kq62).ext E65).keep Kq71) fc_8 fc_9 g_b52 ((Eq62.ext E65).keep Kq71) Eq71) hZ (hw _ (List.mem_of_getElem? (i := 35) rfl)) (hw _ (List.mem_of_getElem? (i := 3) rfl)) (by decide) (by decide)) (g := (mkF m 74 (own_AIIJWJWRRUUU p0 p1 q2 q3 b1 b27) [(.ref b65), (.ref b56), (.ref b52), (.ref b52)])) rfl (by rw [hml]; rfl) (Steps.refl _) (a := b52) (argsL := [(.ref b56), (.ref b65)]) (rest := [(.ref b52)]) (lenOf pd_0_1 rfl) rfl (by show 2 * 0 + _ ≤ _; exact Nat.le_of_eq rfl) (hb hby at_74) (fun _ _ => ⟨rfl, rfl, (by decide : 7 + 4 ≤ _), (by decide : 18 + 48 ≤ _)⟩)
  dsimp only [Pt.U, Pt.locs, Pt.cells, Pt.slots] at Xc74 hSc74 hgc74
  obtain ⟨X74, hS74, hZ74, hown74⟩ := rebS hS0 (Nat.le_trans (Nat.le_trans (Nat.le_trans (Nat.le_trans (Nat.le_trans (Nat.le_trans (Nat.le_trans (Nat.le_trans (Nat.le_trans (Nat.le_trans (Nat.le_trans (Nat.zero_le _) E1.1) (Keep.of_wr W11).1) (Keep.of_wr W23).1) E27.1) (Keep.of_wr W37).1) (Keep.of_wr W49).1) E52.1) E56.1) Kq62.1) E65.1) Kq71.1) Xc74 hSc74 hgc74 hZ hown
  dsimp only [Pt.U, Pt.locs, Pt.cells, Pt.slots] at X74 l74 y74 z74 st74 hQ74
  subst l74 y74 z74
  obtain ⟨rfl, N74q, Kq74, Eq74, Fschema_74, Fname_74⟩ := hQ74
  have N74 := Fr.app N71 N74q
  have fc_13 := (fc_6.keep Kq74 (fun h => ne_b1_b52 (List.mem_singleton.mp h)))
  have fc_14 := (fc_7.keep Kq74 (fun h => ne_b27_b52 (List.mem_singleton.mp h)))
  have fc_15 := (fc_10.keep Kq74 (fun h => (Ne.symm ne_b52_b56) (List.mem_singleton.mp h)))
  have fc_16 := (fc_11.keep Kq74 (fun h => (Ne.symm ne_b52_b56) (List.mem_singleton.mp h)))
  have fc_17 := (fc_12.keep Kq74 (fun h => (Ne.symm ne_b52_t62) (List.mem_singleton.mp h)))
  have fc_18 := (Cq71.keep Kq74 (fun h => (Ne.symm ne_b52_b65) (List.mem_singleton.mp h)))
  have fc_19 := (Vq71.keep Kq74 (fun h => (Ne.symm ne_b52_b65) (List.mem_singleton.mp h)))
  have fc_20 := (Aq71.keep Kq74 (fun h => (Ne.symm ne_b52_t71) (List.mem_singleton.mp h)))
  have K74 : Keep h0 T74.heap [] := K71.trans Kq74 (fun x hx => by cases List.mem_singleton.mp hx; exact Or.inr sz_b52)
  have Z74 : n0 ≤ T74.heap.size := Nat.le_trans Z71 Kq74.1
  refine own_by (fun t k => st74.trans k) ?_
  have sg81 : ∀ t, own_S p e below T74 (mkF m 81 (own_AIIJWJWRRRUU p0 p1 q2 q3 b1 b27 b52) [(.ref b52)]) t → own_S p e below T74 (mkF m 77 (own_AIIJWJWRRUUU p0 p1 q2 q3 b1 b27) [(.ref b52)]) t := by
    intro t k
    show own_S p e below T74 (mkF m 77 (own_AIIJWJWRRUUU p0 p1 q2 q3 b1 b27) [(.ref b52)]) _
    refine XS.astore X74.here hx rfl (hb hby at_77) rfl rfl (l' := (own_AIIJWJWRRRUU p0 p1 q2 q3 b1 b27 b52)) rfl ?_
    show own_S p e below T74 (mkF m 79 (own_AIIJWJWRRRUU p0 p1 q2 q3 b1 b27 b52) []) _
    refine XS.aload X74.here hx rfl (hb hby at_79) rfl rfl ?_
    exact k
  refine own_by sg81 ?_
  obtain ⟨_, _, ⟨T81, L81, k81, n81⟩, -, X81, ⟨Lc81, hQ81, l81, y81, z81⟩, st81⟩ := Jvm.LawKit.callS X74 hx (y := (⟨"com/example/forget_by_time/forgetbytime/engine/TableSweep", "paused", "(Lcom/example/forget_by_time/forgetbytime/engine/TableName;)Lcom/example/forget_by_time/forgetbytime/engine/TableSweep;"⟩ : MethodName)) hown74 (mvT hZ74 (hw _ (List.mem_of_getElem? (i := 50) rfl))) (mvT hZ74 (hw _ (List.mem_of_getElem? (i := 51) rfl))) (mvT hZ74 (hw _ (List.mem_of_getElem? (i := 52) rfl))) (mvT hZ74 (hw _ (List.mem_of_getElem? (i := 53) rfl))) (by decide) (backOf (W := 0) (rm9 l Z a0 hw [] b52 T74.heap n0 Z74 ) hZ74 (hw _ (List.mem_of_getElem? (i := 53) rfl)) (hw _ (List.mem_of_getElem? (i := 52) rfl)) (by decide) (by decide)) (g := (mkF m 81 (own_AIIJWJWRRRUU p0 p1 q2 q3 b1 b27 b52) [(.ref b52)])) rfl (by rw [hml]; rfl) (argsL := [(.ref b52)]) (rest := []) (lenOf pd_0_2 rfl) rfl (by show 2 * 0 + _ ≤ _; exact Nat.le_of_eq rfl) (hb hby at_81) (fun _ _ => ⟨rfl, rfl, (by decide : 11 + 1 ≤ _), (by decide : 66 + 4 ≤ _)⟩)
  dsimp only [Pt.U, Pt.locs, Pt.cells, Pt.slots] at X81 l81 y81 z81 st81 hQ81
  subst l81 y81 z81
  obtain ⟨r81, rfl, ge81, N81q, Kq81, Eq81, Ftable_81, Fdeleted_81, FremainingExpired_81, Fpaused_81⟩ := hQ81
  have N81 := Fr.app N74 N81q
  have ne_b1_r81 : b1 ≠ r81 := Nat.ne_of_lt (Nat.lt_of_lt_of_le fc_13.lt ge81)
  have ne_b27_r81 : b27 ≠ r81 := Nat.ne_of_lt (Nat.lt_of_lt_of_le fc_14.lt ge81)
  have ne_b52_r81 : b52 ≠ r81 := Nat.ne_of_lt (Nat.lt_of_lt_of_le Eq74.lt ge81)
  have ne_b56_r81 : b56 ≠ r81 := Nat.ne_of_lt (Nat.lt_of_lt_of_le (((Eq62.ext E65).keep Kq71).keep Kq74).lt ge81)
  have ne_t62_r81 : t62 ≠ r81 := Nat.ne_of_lt (Nat.lt_of_lt_of_le fc_17.lt ge81)
  have ne_b65_r81 : b65 ≠ r81 := Nat.ne_of_lt (Nat.lt_of_lt_of_le (Eq71.keep Kq74).lt ge81)
  have ne_t71_r81 : t71 ≠ r81 := Nat.ne_of_lt (Nat.lt_of_lt_of_le fc_20.lt ge81)
  have g_r81 : n0 ≤ r81 := Nat.le_trans Z74 ge81
  have sz_r81 : h0.size ≤ r81 := Nat.le_trans K74.1 ge81
  have K81 : Keep h0 T81.heap [] := K74.trans Kq81 (fun x hx => nomatch hx)
  have Z81 : n0 ≤ T81.heap.size := Nat.le_trans Z74 Kq81.1
  refine own_by st81 ?_
  have sg86 : ∀ t, own_S p e below T81 (mkF m 86 (own_AIIJWJWRRRRU p0 p1 q2 q3 b1 b27 b52 r81) []) t → own_S p e below T81 (mkF m 84 (own_AIIJWJWRRRUU p0 p1 q2 q3 b1 b27 b52) [(.ref r81)]) t := by
    intro t k
    show own_S p e below T81 (mkF m 84 (own_AIIJWJWRRRUU p0 p1 q2 q3 b1 b27 b52) [(.ref r81)]) _
    refine XS.astore X81.here hx rfl (hb hby at_84) rfl rfl (l' := (own_AIIJWJWRRRRU p0 p1 q2 q3 b1 b27 b52 r81)) rfl ?_
    exact k
  refine own_by sg86 ?_
  obtain ⟨T86, h86, X86, e86, E86, A86, D86, -, st86⟩ := newO X81 hx hZ74 hown74 (hw _ (List.mem_of_getElem? (i := 68) rfl)) (hw _ (List.mem_of_getElem? (i := 55) rfl)) (hw _ (List.mem_of_getElem? (i := 52) rfl)) rfl (g := (mkF m 86 (own_AIIJWJWRRRRU p0 p1 q2 q3 b1 b27 b52 r81) [])) rfl (hb hby at_86) (by decide) (by decide)
  obtain ⟨b86, g86⟩ : ∃ z, z = T81.heap.size := ⟨_, rfl⟩
  rw [← g86] at A86 D86 st86
  have ne_b1_b86 : b1 ≠ b86 := Nat.ne_of_lt (Nat.lt_of_lt_of_le (fc_13.keep Kq81 List.not_mem_nil).lt (Nat.le_of_eq g86.symm))
  have ne_b27_b86 : b27 ≠ b86 := Nat.ne_of_lt (Nat.lt_of_lt_of_le (fc_14.keep Kq81 List.not_mem_nil).lt (Nat.le_of_eq g86.symm))
  have ne_b52_b86 : b52 ≠ b86 := Nat.ne_of_lt (Nat.lt_of_lt_of_le (Eq74.keep Kq81).lt (Nat.le_of_eq g86.symm))
  have ne_b56_b86 : b56 ≠ b86 := Nat.ne_of_lt (Nat.lt_of_lt_of_le ((((Eq62.ext E65).keep Kq71).keep Kq74).keep Kq81).lt (Nat.le_of_eq g86.symm))
  have ne_t62_b86 : t62 ≠ b86 := Nat.ne_of_lt (Nat.lt_of_lt_of_le (fc_17.keep Kq81 List.not_mem_nil).lt (Nat.le_of_eq g86.symm))
  have ne_b65_b86 : b65 ≠ b86 := Nat.ne_of_lt (Nat.lt_of_lt_of_le ((Eq71.keep Kq74).keep Kq81).lt (Nat.le_of_eq g86.symm))
  have ne_t71_b86 : t71 ≠ b86 := Nat.ne_of_lt (Nat.lt_of_lt_of_le (fc_20.keep Kq81 List.not_mem_nil).lt (Nat.le_of_eq g86.symm))
  have ne_r81_b86 : r81 ≠ b86 := Nat.ne_of_lt (Nat.lt_of_lt_of_le Eq81.lt (Nat.le_of_eq g86.symm))
  have g_b86 : n0 ≤ b86 := Nat.le_trans Z81 (Nat.le_of_eq g86.symm)
  have sz_b86 : h0.size ≤ b86 := Nat.le_trans K81.1 (Nat.le_of_eq g86.symm)
  have K86 := K81.ext E86
  have Z86 : n0 ≤ h86.size := Nat.le_trans Z81 E86.1
  have F_table_b86 : Fld Z h86 b86 "com/example/forget_by_time/forgetbytime/engine/TableSweep" "table" "Lcom/example/forget_by_time/forgetbytime/engine/TableName;" .null := D86 (Or.inr (hw _ (List.mem_of_getElem? (i := 61) rfl))) (ty := (.object "com/example/forget_by_time/forgetbytime/engine/TableName")) (by decide)
  have F_deleted_b86 : Fld Z h86 b86 "com/example/forget_by_time/forgetbytime/engine/TableSweep" "deleted" "J" (.long (0 : Int64)) := D86 (Or.inr (hw _ (List.mem_of_getElem? (i := 63) rfl))) (ty := .long) (by decide)
  have F_remainingExpired_b86 : Fld Z h86 b86 "com/example/forget_by_time/forgetbytime/engine/TableSweep" "remainingExpired" "J" (.long (0 : Int64)) := D86 (Or.inr (hw _ (List.mem_of_getElem? (i := 65) rfl))) (ty := .long) (by decide)
  have F_paused_b86 : Fld Z h86 b86 "com/example/forget_by_time/forgetbytime/engine/TableSweep" "paused" "Z" (.int (0 : Int32)) := D86 (Or.inr (hw _ (List.mem_of_getElem? (i := 67) rfl))) (ty := .boolean) (by decide)
  refine own_by st86 ?_
  have sg95 : ∀ t, own_S p e below T86 (mkF m 95 (own_AIIJWJWRRRRU p0 p1 q2 q3 b1 b27 b52 r81) [(.long q3), (.long q2), (.ref b52), (.ref b86), (.ref b86)]) t → own_S p e below T86 (mkF m 89 (own_AIIJWJWRRRRU p0 p1 q2 q3 b1 b27 b52 r81) [(.ref b86)]) t := by
    intro t k
    show own_S p e below T86 (mkF m 89 (own_AIIJWJWRRRRU p0 p1 q2 q3 b1 b27 b52 r81) [(.ref b86)]) _
    refine XS.dup X86.here hx rfl (hb hby at_89) rfl rfl ?_
    show own_S p e below T86 (mkF m 90 (own_AIIJWJWRRRRU p0 p1 q2 q3 b1 b27 b52 r81) [(.ref b86), (.ref b86)]) _
    refine XS.aload X86.here hx rfl (hb hby at_90) rfl rfl ?_
    show own_S p e below T86 (mkF m 92 (own_AIIJWJWRRRRU p0 p1 q2 q3 b1 b27 b52 r81) [(.ref b52), (.ref b86), (.ref b86)]) _
    refine XS.lloadN X86.here hx rfl (hb hby at_92) rfl ?_
    show own_S p e below T86 (mkF m 93 (own_AIIJWJWRRRRU p0 p1 q2 q3 b1 b27 b52 r81) [(.long q2), (.ref b52), (.ref b86), (.ref b86)]) _
    refine XS.lload X86.here hx rfl (hb hby at_93) rfl ?_
    exact k
  refine own_by sg95 ?_
  obtain ⟨_, _, ⟨T95, L95, k95, n95⟩, -, X95, ⟨Lc95, hQ95, l95, y95, z95⟩, st95⟩ := X86.specialBack hx (y := (⟨"com/example/forget_by_time/forgetbytime/engine/TableSweep", "<init>", "(Lcom/example/forget_by_time/forgetbytime/engine/TableName;JJ)V"⟩ : MethodName)) rfl hown74 (mvT hZ74 (hw _ (List.mem_of_getElem? (i := 69) rfl))) (mvT hZ74 (hw _ (List.mem_of_getElem? (i := 70) rfl))) (mvT hZ74 (hw _ (List.mem_of_getElem? (i := 71) rfl))) (by decide) (backOf (W := 1) (rm11 l Z a0 hw [] b86 b52 q2 q3 h86 n0 Z86 A86 F_table_b86 F_deleted_b86 F_remainingExpired_b86 F_paused_b86 g_b86 ) hZ74 (hw _ (List.mem_of_getElem? (i := 71) rfl)) (hw _ (List.mem_of_getElem? (i := 52) rfl)) (by decide) (by decide)) (g := (mkF m 95 (own_AIIJWJWRRRRU p0 p1 q2 q3 b1 b27 b52 r81) [(.long q3), (.long q2), (.ref b52), (.ref b86), (.ref b86)])) rfl (by rw [hml]; rfl) (Steps.refl _) (a := b86) (argsL := [(.ref b52), (.long q2), (.long q3)]) (rest := [(.ref b86)]) (lenOf pd_0_3 rfl) rfl (by show 2 * 0 + _ ≤ _; exact Nat.le_of_eq rfl) (hb hby at_95) (fun _ _ => ⟨rfl, e86, (by decide : 13 + 0 ≤ _), (by decide : 74 + 0 ≤ _)⟩)
  dsimp only [Pt.U, Pt.locs, Pt.cells, Pt.slots] at X95 l95 y95 z95 st95 hQ95
  subst l95 y95 z95
  obtain ⟨rfl, N95q, Kq95, Eq95, Ftable_95, Fdeleted_95, FremainingExpired_95, Fpaused_95⟩ := hQ95
  have N95 := Fr.app N81 N95q
  have fc_21 := (((fc_13.keep Kq81 List.not_mem_nil).ext E86).keep Kq95 (fun h => ne_b1_b86 (List.mem_singleton.mp h)))
  have fc_22 := (((fc_14.keep Kq81 List.not_mem_nil).ext E86).keep Kq95 (fun h => ne_b27_b86 (List.mem_singleton.mp h)))
  have fc_23 := ((((((Eq62.ext E65).keep Kq71).keep Kq74).keep Kq81).ext E86).keep Kq95)
  have fc_24 := (((fc_15.keep Kq81 List.not_mem_nil).ext E86).keep Kq95 (fun h => ne_b56_b86 (List.mem_singleton.mp h)))
  have fc_25 := (((fc_16.keep Kq81 List.not_mem_nil).ext E86).keep Kq95 (fun h => ne_b56_b86 (List.mem_singleton.mp h)))
  have fc_26 := (((fc_17.keep Kq81 List.not_mem_nil).ext E86).keep Kq95 (fun h => ne_t62_b86 (List.mem_singleton.mp h)))
  have fc_27 := (((fc_18.keep Kq81 List.not_mem_nil).ext E86).keep Kq95 (fun h => ne_b65_b86 (List.mem_singleton.mp h)))
  have fc_28 := (((fc_19.keep Kq81 List.not_mem_nil).ext E86).keep Kq95 (fun h => ne_b65_b86 (List.mem_singleton.mp h)))
  have fc_29 := (((fc_20.keep Kq81 List.not_mem_nil).ext E86).keep Kq95 (fun h => ne_t71_b86 (List.mem_singleton.mp h)))
  have fc_30 := (((Fschema_74.keep Kq81 List.not_mem_nil).ext E86).keep Kq95 (fun h => ne_b52_b86 (List.mem_singleton.mp h)))
  have fc_31 := (((Fname_74.keep Kq81 List.not_mem_nil).ext E86).keep Kq95 (fun h => ne_b52_b86 (List.mem_singleton.mp h)))
  have fc_32 := ((Ftable_81.ext E86).keep Kq95 (fun h => ne_r81_b86 (List.mem_singleton.mp h)))
  have fc_33 := ((Fdeleted_81.ext E86).keep Kq95 (fun h => ne_r81_b86 (List.mem_singleton.mp h)))
  have fc_34 := ((FremainingExpired_81.ext E86).keep Kq95 (fun h => ne_r81_b86 (List.mem_singleton.mp h)))
  have fc_35 := ((Fpaused_81.ext E86).keep Kq95 (fun h => ne_r81_b86 (List.mem_singleton.mp h)))
  have K95 : Keep h0 T95.heap [] := K86.trans Kq95 (fun x hx => by cases List.mem_singleton.mp hx; exact Or.inr sz_b86)
  have Z95 : n0 ≤ T95.heap.size := Nat.le_trans Z86 Kq95.1
  refine own_by (fun t k => st95.trans k) ?_
  have sg102 : ∀ t, own_S p e below T95 (mkF m 102 (own_AIIJWJWRRRRR p0 p1 q2 q3 b1 b27 b52 r81 b86) [(.ref r81)]) t → own_S p e below T95 (mkF m 98 (own_AIIJWJWRRRRU p0 p1 q2 q3 b1 b27 b52 r81) [(.ref b86)]) t := by
    intro t k
    show own_S p e below T95 (mkF m 98 (own_AIIJWJWRRRRU p0 p1 q2 q3 b1 b27 b52 r81) [(.ref b86)]) _
    refine XS.astore X95.here hx rfl (hb hby at_98) rfl rfl (l' := (own_AIIJWJWRRRRR p0 p1 q2 q3 b1 b27 b52 r81 b86)) rfl ?_
    show own_S p e below T95 (mkF m 100 (own_AIIJWJWRRRRR p0 p1 q2 q3 b1 b27 b52 r81 b86) []) _
    refine XS.aload X95.here hx rfl (hb hby at_100) rfl rfl ?_
    exact k
  refine own_by sg102 ?_
  obtain ⟨cq102, kq102, q102a, q102b, q102c⟩ := isOf hZ74 rfl ((Eq81.ext E86).keep Kq95)
  obtain ⟨_, _, ⟨T102, L102, k102, n102⟩, -, X102, ⟨Lc102, hQ102, l102, y102, z102⟩, st102⟩ := X95.virtualBack hx (y := (⟨"com/example/forget_by_time/forgetbytime/engine/TableSweep", "table", "()Lcom/example/forget_by_time/forgetbytime/engine/TableName;"⟩ : MethodName)) (z := (⟨"com/example/forget_by_time/forgetbytime/engine/TableSweep", "table", "()Lcom/example/forget_by_time/forgetbytime/engine/TableName;"⟩ : MethodName)) hown74 (mvT hZ74 (hw _ (List.mem_of_getElem? (i := 72) rfl))) (mvT hZ74 (hw _ (List.mem_of_getElem? (i := 73) rfl))) (notFace_of_selects (args := #[]) (mvT hZ74 (hw _ (List.mem_of_getElem? (i := 75) rfl)))) (mvT hZ74 (hw _ (List.mem_of_getElem? (i := 75) rfl))) (mvT hZ74 (hw _ (List.mem_of_getElem? (i := 74) rfl))) (by decide) (backOf (W := 0) (rm12 l Z a0 hw [] r81 b52 T95.heap n0 Z95 fc_32) hZ74 (hw _ (List.mem_of_getElem? (i := 76) rfl)) (hw _ (List.mem_of_getElem? (i := 52) rfl)) (by decide) (by decide)) q102a q102c (g := (mkF m 102 (own_AIIJWJWRRRRR p0 p1 q2 q3 b1 b27 b52 r81 b86) [(.ref r81)])) rfl (by rw [hml]; rfl) (Steps.refl _) (argsL := []) (rest := []) (lenOf pd_0_4 rfl) rfl (by show 2 * 0 + _ ≤ _; exact Nat.le_of_eq rfl) (hb hby at_102) (fun _ _ => ⟨rfl, rfl, (by decide : 13 + 0 ≤ _), (by decide : 74 + 0 ≤ _)⟩)
  dsimp only [Pt.U, Pt.locs, Pt.cells, Pt.slots] at X102 l102 y102 z102 st102 hQ102
  subst l102 y102 z102
  obtain ⟨rfl, N102q, hq102⟩ := hQ102
  have N102 := Fr.app N95 N102q
  refine own_by (fun t k => st102.trans k) ?_
  have sg112 : ∀ t, own_S p e below T102 (mkF m 112 (own_AIIJWJWRRRRR p0 p1 q2 q3 b1 b27 b52 r81 b86) [(.ref r81)]) t → own_S p e below T102 (mkF m 105 (own_AIIJWJWRRRRR p0 p1 q2 q3 b1 b27 b52 r81 b86) [(.ref b52)]) t := by
    intro t k
    show own_S p e below T102 (mkF m 105 (own_AIIJWJWRRRRR p0 p1 q2 q3 b1 b27 b52 r81 b86) [(.ref b52)]) _
    refine XS.aload X102.here hx rfl (hb hby at_105) rfl rfl ?_
    show own_S p e below T102 (mkF m 107 (own_AIIJWJWRRRRR p0 p1 q2 q3 b1 b27 b52 r81 b86) [(.ref b52), (.ref b52)]) _
    refine Jvm.RoadKit.acmp (g := (mkF m 107 (own_AIIJWJWRRRRR p0 p1 q2 q3 b1 b27 b52 r81 b86) [(.ref b52), (.ref b52)])) X102 hx rfl rfl rfl (pc0 := 107) (pc' := 110) (same := true) rfl (hb hby at_107) rfl (decide_eq_true (congrArg Value.ref (rfl : b52 = b52))) (by decide) (by decide) ?_
    show own_S p e below T102 (mkF m 110 (own_AIIJWJWRRRRR p0 p1 q2 q3 b1 b27 b52 r81 b86) []) _
    refine XS.aload X102.here hx rfl (hb hby at_110) rfl rfl ?_
    exact k
  refine own_by sg112 ?_
  obtain ⟨cq112, kq112, q112a, q112b, q112c⟩ := isOf hZ74 hq102 ((Eq81.ext E86).keep Kq95)
  obtain ⟨_, _, ⟨T112, L112, k112, n112⟩, -, X112, ⟨Lc112, hQ112, l112, y112, z112⟩, st112⟩ := X102.virtualBack hx (y := (⟨"com/example/forget_by_time/forgetbytime/engine/TableSweep", "deleted", "()J"⟩ : MethodName)) (z := (⟨"com/example/forget_by_time/forgetbytime/engine/TableSweep", "deleted", "()J"⟩ : MethodName)) hown74 (mvT hZ74 (hw _ (List.mem_of_getElem? (i := 77) rfl))) (mvT hZ74 (hw _ (List.mem_of_getElem? (i := 78) rfl))) (notFace_of_selects (args := #[]) (mvT hZ74 (hw _ (List.mem_of_getElem? (i := 80) rfl)))) (mvT hZ74 (hw _ (List.mem_of_getElem? (i := 80) rfl))) (mvT hZ74 (hw _ (List.mem_of_getElem? (i := 79) rfl))) (by decide) (backOf (W := 0) (rm13 l Z a0 hw [] r81 (0 : Int64) T95.heap n0 Z95 fc_33) hZ74 (hw _ (List.mem_of_getElem? (i := 81) rfl)) (hw _ (List.mem_of_getElem? (i := 52) rfl)) (by decide) (by decide)) q112a q112c (g := (mkF m 112 (own_AIIJWJWRRRRR p0 p1 q2 q3 b1 b27 b52 r81 b86) [(.ref r81)])) rfl (by rw [hml]; rfl) (Steps.refl _) (argsL := []) (rest := []) (lenOf pd_0_5 rfl) rfl (by show 2 * 0 + _ ≤ _; exact Nat.le_of_eq rfl) (hb hby at_112) (fun _ _ => ⟨rfl, hq102, (by decide : 13 + 0 ≤ _), (by decide : 74 + 0 ≤ _)⟩)
  dsimp only [Pt.U, Pt.locs, Pt.cells, Pt.slots] at X112 l112 y112 z112 st112 hQ112
  subst l112 y112 z112
  obtain ⟨rfl, N112q, hq112⟩ := hQ112
  have N112 := Fr.app N102 N112q
  refine own_by (fun t k => st112.trans k) ?_
  have sg122 : ∀ t, own_S p e below T112 (mkF m 122 (own_AIIJWJWRRRRR p0 p1 q2 q3 b1 b27 b52 r81 b86) [(.ref r81)]) t → own_S p e below T112 (mkF m 115 (own_AIIJWJWRRRRR p0 p1 q2 q3 b1 b27 b52 r81 b86) [(.long (0 : Int64))]) t := by
    intro t k
    show own_S p e below T112 (mkF m 115 (own_AIIJWJWRRRRR p0 p1 q2 q3 b1 b27 b52 r81 b86) [(.long (0 : Int64))]) _
    refine XS.lconst X112.here hx rfl (hb hby at_115) ?_
    show own_S p e below T112 (mkF m 116 (own_AIIJWJWRRRRR p0 p1 q2 q3 b1 b27 b52 r81 b86) [(.long (0 : Int64)), (.long (0 : Int64))]) _
    refine XS.lcmp X112.here hx rfl (hb hby at_116) rfl ?_
    show own_S p e below T112 (mkF m 117 (own_AIIJWJWRRRRR p0 p1 q2 q3 b1 b27 b52 r81 b86) [(.int (lcmpW (0 : Int64) (0 : Int64)))]) _
    refine XS.ifNo X112.here hx rfl (hb hby at_117) rfl ((if0 _ _).trans (teq (by decide : (lcmpW (0 : Int64) (0 : Int64)) = (0 : Int32))).2) ?_
    show own_S p e below T112 (mkF m 120 (own_AIIJWJWRRRRR p0 p1 q2 q3 b1 b27 b52 r81 b86) []) _
    refine XS.aload X112.here hx rfl (hb hby at_120) rfl rfl ?_
    exact k
  refine own_by sg122 ?_
  obtain ⟨cq122, kq122, q122a, q122b, q122c⟩ := isOf hZ74 hq112 ((Eq81.ext E86).keep Kq95)
  obtain ⟨_, _, ⟨T122, L122, k122, n122⟩, -, X122, ⟨Lc122, hQ122, l122, y122, z122⟩, st122⟩ := X112.virtualBack hx (y := (⟨"com/example/forget_by_time/forgetbytime/engine/TableSweep", "remainingExpired", "()J"⟩ : MethodName)) (z := (⟨"com/example/forget_by_time/forgetbytime/engine/TableSweep", "remainingExpired", "()J"⟩ : MethodName)) hown74 (mvT hZ74 (hw _ (List.mem_of_getElem? (i := 82) rfl))) (mvT hZ74 (hw _ (List.mem_of_getElem? (i := 83) rfl))) (notFace_of_selects (args := #[]) (mvT hZ74 (hw _ (List.mem_of_getElem? (i := 85) rfl)))) (mvT hZ74 (hw _ (List.mem_of_getElem? (i := 85) rfl))) (mvT hZ74 (hw _ (List.mem_of_getElem? (i := 84) rfl))) (by decide) (backOf (W := 0) (rm14 l Z a0 hw [] r81 (0 : Int64) T95.heap n0 Z95 fc_34) hZ74 (hw _ (List.mem_of_getElem? (i := 86) rfl)) (hw _ (List.mem_of_getElem? (i := 52) rfl)) (by decide) (by decide)) q122a q122c (g := (mkF m 122 (own_AIIJWJWRRRRR p0 p1 q2 q3 b1 b27 b52 r81 b86) [(.ref r81)])) rfl (by rw [hml]; rfl) (Steps.refl _) (argsL := []) (rest := []) (lenOf pd_0_5 rfl) rfl (by show 2 * 0 + _ ≤ _; exact Nat.le_of_eq rfl) (hb hby at_122) (fun _ _ => ⟨rfl, hq112, (by decide : 13 + 0 ≤ _), (by decide : 74 + 0 ≤ _)⟩)
  dsimp only [Pt.U, Pt.locs, Pt.cells, Pt.slots] at X122 l122 y122 z122 st122 hQ122
  subst l122 y122 z122
  obtain ⟨rfl, N122q, hq122⟩ := hQ122
  have N122 := Fr.app N112 N122q
  refine own_by (fun t k => st122.trans k) ?_
  have sg132 : ∀ t, own_S p e below T122 (mkF m 132 (own_AIIJWJWRRRRR p0 p1 q2 q3 b1 b27 b52 r81 b86) [(.ref r81)]) t → own_S p e below T122 (mkF m 125 (own_AIIJWJWRRRRR p0 p1 q2 q3 b1 b27 b52 r81 b86) [(.long (0 : Int64))]) t := by
    intro t k
    show own_S p e below T122 (mkF m 125 (own_AIIJWJWRRRRR p0 p1 q2 q3 b1 b27 b52 r81 b86) [(.long (0 : Int64))]) _
    refine XS.lconst X122.here hx rfl (hb hby at_125) ?_
    show own_S p e below T122 (mkF m 126 (own_AIIJWJWRRRRR p0 p1 q2 q3 b1 b27 b52 r81 b86) [(.long (0 : Int64)), (.long (0 : Int64))]) _
    refine XS.lcmp X122.here hx rfl (hb hby at_126) rfl ?_
    show own_S p e below T122 (mkF m 127 (own_AIIJWJWRRRRR p0 p1 q2 q3 b1 b27 b52 r81 b86) [(.int (lcmpW (0 : Int64) (0 : Int64)))]) _
    refine XS.ifNo X122.here hx rfl (hb hby at_127) rfl ((if0 _ _).trans (teq (by decide : (lcmpW (0 : Int64) (0 : Int64)) = (0 : Int32))).2) ?_
    show own_S p e below T122 (mkF m 130 (own_AIIJWJWRRRRR p0 p1 q2 q3 b1 b27 b52 r81 b86) []) _
    refine XS.aload X122.here hx rfl (hb hby at_130) rfl rfl ?_
    exact k
  refine own_by sg132 ?_
  obtain ⟨cq132, kq132, q132a, q132b, q132c⟩ := isOf hZ74 hq122 ((Eq81.ext E86).keep Kq95)
  obtain ⟨_, _, ⟨T132, L132, k132, n132⟩, -, X132, ⟨Lc132, hQ132, l132, y132, z132⟩, st132⟩ := X122.virtualBack hx (y := (⟨"com/example/forget_by_time/forgetbytime/engine/TableSweep", "paused", "()Z"⟩ : MethodName)) (z := (⟨"com/example/forget_by_time/forgetbytime/engine/TableSweep", "paused", "()Z"⟩ : MethodName)) hown74 (mvT hZ74 (hw _ (List.mem_of_getElem? (i := 87) rfl))) (mvT hZ74 (hw _ (List.mem_of_getElem? (i := 88) rfl))) (notFace_of_selects (args := #[]) (mvT hZ74 (hw _ (List.mem_of_getElem? (i := 90) rfl)))) (mvT hZ74 (hw _ (List.mem_of_getElem? (i := 90) rfl))) (mvT hZ74 (hw _ (List.mem_of_getElem? (i := 89) rfl))) (by decide) (backOf (W := 0) (rm15 l Z a0 hw [] r81 (1 : Int32) T95.heap n0 Z95 fc_35 (by decide)) hZ74 (hw _ (List.mem_of_getElem? (i := 91) rfl)) (hw _ (List.mem_of_getElem? (i := 52) rfl)) (by decide) (by decide)) q132a q132c (g := (mkF m 132 (own_AIIJWJWRRRRR p0 p1 q2 q3 b1 b27 b52 r81 b86) [(.ref r81)])) rfl (by rw [hml]; rfl) (Steps.refl _) (argsL := []) (rest := []) (lenOf pd_0_6 rfl) rfl (by show 2 * 0 + _ ≤ _; exact Nat.le_of_eq rfl) (hb hby at_132) (fun _ _ => ⟨rfl, hq122, (by decide : 13 + 0 ≤ _), (by decide : 74 + 0 ≤ _)⟩)
  dsimp only [Pt.U, Pt.locs, Pt.cells, Pt.slots] at X132 l132 y132 z132 st132 hQ132
  subst l132 y132 z132
  obtain ⟨rfl, N132q, hq132⟩ := hQ132
  have N132 := Fr.app N122 N132q
  refine own_by (fun t k => st132.trans k) ?_
  have sg140 : ∀ t, own_S p e below T132 (mkF m 140 (own_AIIJWJWRRRRR p0 p1 q2 q3 b1 b27 b52 r81 b86) [(.ref b86)]) t → own_S p e below T132 (mkF m 135 (own_AIIJWJWRRRRR p0 p1 q2 q3 b1 b27 b52 r81 b86) [(.int (1 : Int32))]) t := by
    intro t k
    show own_S p e below T132 (mkF m 135 (own_AIIJWJWRRRRR p0 p1 q2 q3 b1 b27 b52 r81 b86) [(.int (1 : Int32))]) _
    refine XS.ifNo X132.here hx rfl (hb hby at_135) rfl ((if0 _ _).trans (feq (by decide : ¬ ((1 : Int32) = (0 : Int32)))).1) ?_
    show own_S p e below T132 (mkF m 138 (own_AIIJWJWRRRRR p0 p1 q2 q3 b1 b27 b52 r81 b86) []) _
    refine XS.aload X132.here hx rfl (hb hby at_138) rfl rfl ?_
    exact k
  refine own_by sg140 ?_
  obtain ⟨cq140, kq140, q140a, q140b, q140c⟩ := isOf hZ74 hq132 Eq95
  obtain ⟨_, _, ⟨T140, L140, k140, n140⟩, -, X140, ⟨Lc140, hQ140, l140, y140, z140⟩, st140⟩ := X132.virtualBack hx (y := (⟨"com/example/forget_by_time/forgetbytime/engine/TableSweep", "paused", "()Z"⟩ : MethodName)) (z := (⟨"com/example/forget_by_time/forgetbytime/engine/TableSweep", "paused", "()Z"⟩ : MethodName)) hown74 (mvT hZ74 (hw _ (List.mem_of_getElem? (i := 87) rfl))) (mvT hZ74 (hw _ (List.mem_of_getElem? (i := 88) rfl))) (notFace_of_selects (args := #[]) (mvT hZ74 (hw _ (List.mem_of_getElem? (i := 90) rfl)))) (mvT hZ74 (hw _ (List.mem_of_getElem? (i := 90) rfl))) (mvT hZ74 (hw _ (List.mem_of_getElem? (i := 89) rfl))) (by decide) (backOf (W := 0) (rm15 l Z a0 hw [] b86 (0 : Int32) T95.heap n0 Z95 Fpaused_95 (by decide)) hZ74 (hw _ (List.mem_of_getElem? (i := 91) rfl)) (hw _ (List.mem_of_getElem? (i := 52) rfl)) (by decide) (by decide)) q140a q140c (g := (mkF m 140 (own_AIIJWJWRRRRR p0 p1 q2 q3 b1 b27 b52 r81 b86) [(.ref b86)])) rfl (by rw [hml]; rfl) (Steps.refl _) (argsL := []) (rest := []) (lenOf pd_0_6 rfl) rfl (by show 2 * 0 + _ ≤ _; exact Nat.le_of_eq rfl) (hb hby at_140) (fun _ _ => ⟨rfl, hq132, (by decide : 13 + 0 ≤ _), (by decide : 74 + 0 ≤ _)⟩)
  dsimp only [Pt.U, Pt.locs, Pt.cells, Pt.slots] at X140 l140 y140 z140 st140 hQ140
  subst l140 y140 z140
  obtain ⟨rfl, N140q, hq140⟩ := hQ140
  have N140 := Fr.app N132 N140q
  refine own_by (fun t k => st140.trans k) ?_
  have sg151 : ∀ t, own_S p e below T140 (mkF m 151 (own_AIIJWJWRRRRR p0 p1 q2 q3 b1 b27 b52 r81 b86) [(.int (1 : Int32))]) t → own_S p e below T140 (mkF m 143 (own_AIIJWJWRRRRR p0 p1 q2 q3 b1 b27 b52 r81 b86) [(.int (0 : Int32))]) t := by
    intro t k
    show own_S p e below T140 (mkF m 143 (own_AIIJWJWRRRRR p0 p1 q2 q3 b1 b27 b52 r81 b86) [(.int (0 : Int32))]) _
    refine XS.ifNo X140.here hx rfl (hb hby at_143) rfl ((if0 _ _).trans (teq (by decide : (0 : Int32) = (0 : Int32))).2) ?_
    show own_S p e below T140 (mkF m 146 (own_AIIJWJWRRRRR p0 p1 q2 q3 b1 b27 b52 r81 b86) []) _
    refine XS.iconst X140.here hx rfl (hb hby at_146) ?_
    show own_S p e below T140 (mkF m 147 (own_AIIJWJWRRRRR p0 p1 q2 q3 b1 b27 b52 r81 b86) [(.int (1 : Int32))]) _
    refine XS.goto X140.here hx rfl (pc0 := 147) (pc' := 151) rfl (hb hby at_147) (by decide) (by decide) ?_
    exact k
  refine own_by sg151 ?_
  obtain ⟨fs, hr, hrun, hended, hW⟩ := X140.leaveW hS74 (by rw [hq140]; exact (Nat.le_trans (Nat.le_trans (Nat.le_trans (Nat.le_refl _) Kq81.1) E86.1) Kq95.1)) (v := some (.int (1 : Int32))) (fun h => by rw [Bd.returns] at h; cases h)
  refine ⟨_, _, ?_, hrun, hended, _, _, rfl, ?_, hW.1, hW.2.1, hW.2.2.1, hW.2.2.2.mono (by decide) (by decide)⟩
  · exact retN X140 hx (t := .boolean) Bd.returns (by simp) (hb hby at_151) hr
  · show Q0 Z p0 p1 q2 q3 gz h0 n0 _ T140.heap _
    rw [hq140]
    exact ⟨rfl, N140⟩
set_option maxRecDepth 65536 in
set_option maxHeartbeats 40000000 in
theorem comes_1 {Post : Tables → Env → Array Value → State → Outcome → State → Prop} (hpost : ∀ tb e args s v u, (limb_1_1.after args s (.returned v) u = true ∧ limb_1_2.after args s (.returned v) u = true ∧ True) → ReturnedEndW s (.returned v) u (Jvm.fieldLocs frame_1_writes args s ++ Jvm.arrayLocs frame_1_arrays args s ++ Jvm.staticLocs frame_1_statics s) 32 2176 → Post tb e args s (.returned v) u) :
    ArmFor flags0 classFile x code maxLocals ret World_1 tables_1 room_1 Calls_1 rest_1 Pre_1 Post := by
  intro l hfl _ _ p e ha hc hk s m args below hf hA hF happ hP
  obtain ⟨hcalls, hrest, hpre⟩ := hP
  obtain ⟨-, -, -, hnamed, -, -, -, hat⟩ := (Spec.applies_iff hf).mp happ
  obtain ⟨hg, nn⟩ := and_e (Cond.before_iff.mp (show (Jvm.Cond.and given_1 narrow_1).before args s = true from hpre))
  obtain ⟨hh0, hh1⟩ := and_e hg
  obtain ⟨hh2, hh3⟩ := and_e hh1
  obtain ⟨hh4, hh5⟩ := and_e hh3
  obtain ⟨hh6, hh7⟩ := and_e hh5
  obtain ⟨w0, w1, w2, w3, rfl⟩ : ∃ w0 w1 w2 w3 : Value, args = #[w0, w1, w2, w3] := by
    have hs : args.size = 4 := by simpa [Cond.value, given_1] using hh0
    obtain ⟨L⟩ := args
    match L, hs with
    | [w0, w1, w2, w3], _ => exact ⟨w0, w1, w2, w3, rfl⟩
  have hw := fun d (hd : d ∈ tables_1) => atoms_spec (ws := Jvm.Cond.code x code maxLocals ret :: tables_1) hat d (List.mem_cons_of_mem _ hd)
  have hfit : Fit s := fun {y c} hc i hi => by
    obtain ⟨ha, rfl⟩ := Array.getElem?_eq_some_iff.mp hc
    have q := List.all_eq_true.mp ((Array.all_eq_true_iff_forall_mem.mp hF) _ (Array.getElem_mem ha)) i (List.mem_range.mpr hi)
    simpa [Array.getElem?_eq_getElem hi] using q
  obtain ⟨hsets, hown0⟩ := atoms_of _ (rest_1_c_eq ▸ (show rest_1_c.before _ s = true from hrest))
  have hr0 := Cond.before_iff.mp hown0
  obtain ⟨gz, ez⟩ := is_v (Cond.before_iff.mp (hsets _ (List.mem_of_getElem? (i := 1) rfl)))
  have Sz : Sta s s.heap "java/lang/String" "COMPACT_STRINGS" "Z" (.int gz) := Sta.start ez (Or.inl (hsets _ (List.mem_of_getElem? (i := 0) rfl)))
  have cz : ¬ (gz = (0 : Int32)) := gotF (Cond.eq_ints ez (Term.int_eval (0))) (not_v (Cond.before_iff.mp (hsets _ (List.mem_of_getElem? (i := 2) rfl))))
  obtain ⟨gf, ef, rf⟩ := isR_v (Cond.before_iff.mp (hsets _ (List.mem_of_getElem? (i := 8) rfl)))
  have Sf : Sta s s.heap "jdk/internal/util/Preconditions" "SIOOBE_FORMATTER" "Ljava/util/function/BiFunction;" gf := Sta.start ef (Or.inl (hsets _ (List.mem_of_getElem? (i := 7) rfl)))
  obtain ⟨i0, ei0⟩ := is_v hh2
  obtain rfl : w0 = (.int i0) := Option.some.inj ei0
  obtain ⟨i1, ei1⟩ := is_v hh4
  obtain rfl : w1 = (.int i1) := Option.some.inj ei1
  obtain ⟨i2, ei2⟩ := isL_v hh6
  obtain rfl : w2 = (.long i2) := Option.some.inj ei2
  obtain ⟨i3, ei3⟩ := isL_v hh7
  obtain rfl : w3 = (.long i3) := Option.some.inj ei3
  obtain ⟨n, o, h1, h2, h3, _, L, rfl, ⟨rfl, N⟩, hq⟩ := rm0 l s _ hw tables_1 i0 i1 i2 i3 gz s.heap s.heap.size (Nat.le_refl _) (Old.start s) Sz cz p e ha hc hk s m _ below hf ((Spec.applies_iff_loose hf).mp happ).1 ⟨rfl, State.Warmed39.refl s, rfl⟩ trivial
  refine ⟨n, _, h1, h2, h3, hpost _ _ _ _ _ _ ⟨Cond.after_iff.mpr rfl, Cond.after_iff.mpr (eq_i res_at (Term.int_eval (1)) rfl), trivial⟩ ⟨hq.1, hq.2.1, hq.2.2.1, (hq.2.2.2.sift fun y hy => Or.inr (N y hy)).mono (by decide) (by decide)⟩⟩
theorem main_1_1 : Claimed_1_1 := comes_1 fun _ _ _ _ _ _ h hF => ⟨h.1, hF⟩
theorem main_1_2 : Claimed_1_2 := comes_1 fun _ _ _ _ _ _ h hF => ⟨h.2.1, hF⟩
end Jvm.Pilot.@@N@@
namespace Jvm.Pilot.@@N@@
open Jvm Jvm.ClassFile Sem Op Lib Jvm.Free Jvm.Stand Jvm.Pilot.@@N@@.Jvm.D
/-! MADE BY PROGRAM (witnessworld.py) out of the Statement's table words and the real class files: 22 classes; the members and pool entries that the words name. The judged class is class 1, her method 1. -/
namespace start1
open Jvm.ClassFile
def u (s : String) : CpInfo := .utf8 (stringToUtf16 s)
/-- a pool by its gaps: so many unusable entries, then the entry; so many at the end -/
def gap : Nat → List CpInfo → List CpInfo
  | 0, r => r
  | n + 1, r => .unusable :: gap n r
def poolList (es : List (Nat × CpInfo)) (last : Nat) : List CpInfo := es.foldr (fun e r => gap e.1 (e.2 :: r)) (gap last [])
def pool (es : List (Nat × CpInfo)) (last : Nat) : Array CpInfo := ⟨poolList es last⟩
def fileOf (pool : Array CpInfo) (this : Nat) (attrs : Array Attribute := #[]) (ms : Array MethodInfo := #[]) (fl : Nat := 33) (sup : Nat := 0) (ifs : Array Nat := #[]) (fds : Array FieldInfo := #[]) : ClassFile where
  minorVersion := 0
  majorVersion := 65
  constantPool := pool
  accessFlags := fl
  thisClass := this
  superClass := sup
  interfaces := ifs
  fields := fds
  methods := ms
  attributes := attrs
def plain (name : String) (sup : Option ClassId) : Class where
  name := name
  kind := .ordinary
  loader := none
  accessFlags := 33
  super := sup
  interfaces := #[]
  cf := none
  fields := #[]
  methods := #[]
  instanceTypes := #[]
  staticTypes := #[]
  resolved := #[]
  callSites := []
  init := .initialized
  statics := none
  mirror := none

def pool0 : Array CpInfo := pool [(5, u "<init>"), (0, u "()V"), (1, .class_ 10), (1, u "java/lang/Object")] 113

def k0c0 : Code := { maxStack := 0, maxLocals := 1, code := object_method_1_code, exceptionTable := #[], attributes := #[] }
def k0m0 : Method := { name := "<init>", desc := "()V", sig := { parameters := [], returnType := none }, accessFlags := 1, code := some k0c0 }
/-- java/lang/Object -/
def k0 : Class := { plain "java/lang/Object" none with
  accessFlags := 33
  interfaces := #[]
  cf := some (fileOf pool0 8 #[] #[{ accessFlags := 1, nameIndex := 5, descriptorIndex := 6, attributes := #[] }] 33 0 #[] #[])
  fields := #[]
  methods := #[k0m0]
  instanceTypes := #[]
  staticTypes := #[]
  resolved := Array.replicate 124 none
  statics := none }

def pool1 : Array CpInfo := pool [(2, .class_ 4), (1, u "java/lang/Object"), (0, u "<init>"), (0, u "()V"), (0, .class_ 8), (0, u "com/example/forget_by_time/forgetbytime/engine/TableName"), (0, .class_ 10), (0, u "java/lang/String"), (0, .methodref 9 12), (0, .nameAndType 5 13), (0, u "([C)V"), (0, .methodref 7 15), (0, .nameAndType 5 16), (0, u "(Ljava/lang/String;Ljava/lang/String;)V"), (0, .methodref 18 19), (0, .class_ 20), (0, .nameAndType 21 22), (0, u "com/example/forget_by_time/forgetbytime/engine/TableSweep"), (0, u "paused"), (0, u "(Lcom/example/forget_by_time/forgetbytime/engine/TableName;)Lcom/example/forget_by_time/forgetbytime/engine/TableSweep;"), (0, .methodref 18 24), (0, .nameAndType 5 25), (0, u "(Lcom/example/forget_by_time/forgetbytime/engine/TableName;JJ)V"), (0, .methodref 18 27), (0, .nameAndType 28 29), (0, u "table"), (0, u "()Lcom/example/forget_by_time/forgetbytime/engine/TableName;"), (0, .methodref 18 31), (0, .nameAndType 32 33), (0, u "deleted"), (0, u "()J"), (0, .methodref 18 35), (0, .nameAndType 36 33), (0, u "remainingExpired"), (0, .methodref 18 38), (0, .nameAndType 21 39), (0, u "()Z"), (0, .class_ 41), (0, u "com/example/forget_by_time/forgetbytime/engine/TableSweepPausedPinLaw"), (2, u "law"), (0, u "(IIJJ)Z")] 5

def k1m0 : Method := { name := "<init>", desc := "()V", sig := { parameters := [], returnType := none }, accessFlags := 1, code := none }
def k1c1 : Code := { maxStack := 7, maxLocals := 11, code := code, exceptionTable := #[], attributes := #[] }
def k1m1 : Method := { name := "law", desc := "(IIJJ)Z", sig := { parameters := [.int, .int, .long, .long], returnType := some .boolean }, accessFlags := 9, code := some k1c1 }
/-- com/example/forget_by_time/forgetbytime/engine/TableSweepPausedPinLaw -/
def k1 : Class := { plain "com/example/forget_by_time/forgetbytime/engine/TableSweepPausedPinLaw" (some 0) with
  accessFlags := 49
  interfaces := #[]
  cf := some (fileOf pool1 40 #[] #[{ accessFlags := 1, nameIndex := 5, descriptorIndex := 6, attributes := #[] }, { accessFlags := 9, nameIndex := 44, descriptorIndex := 45, attributes := #[] }] 49 2 #[] #[])
  fields := #[]
  methods := #[k1m0, k1m1]
  instanceTypes := #[]
  staticTypes := #[]
  resolved := Array.replicate 51 none
  statics := none }

def pool2 : Array CpInfo := pool [(1, .class_ 2), (0, u "java/lang/Comparable"), (0, .class_ 4), (0, u "java/lang/Object")] 7

/-- java/lang/Comparable -/
def k2 : Class := { plain "java/lang/Comparable" (some 0) with
  accessFlags := 1537
  interfaces := #[]
  cf := some (fileOf pool2 1 #[] #[] 1537 3 #[] #[])
  fields := #[]
  methods := #[]
  instanceTypes := #[]
  staticTypes := #[]
  resolved := Array.replicate 12 none
  statics := none }

def pool3 : Array CpInfo := pool [(1, .methodref 2 3), (0, .class_ 4), (0, .nameAndType 5 6), (0, u "java/lang/Object"), (0, u "<init>"), (0, u "()V"), (0, .string 8), (0, u "schema"), (0, .methodref 10 11), (0, .class_ 12), (0, .nameAndType 13 14), (0, u "java/util/Objects"), (0, u "requireNonNull"), (0, u "(Ljava/lang/Object;Ljava/lang/String;)Ljava/lang/Object;"), (0, .class_ 16), (0, u "java/lang/String"), (0, .fieldref 18 19), (0, .class_ 20), (0, .nameAndType 8 21), (0, u "com/example/forget_by_time/forgetbytime/engine/TableName"), (0, u "Ljava/lang/String;"), (0, .string 23), (0, u "name"), (0, .fieldref 18 25), (0, .nameAndType 23 21), (2, u "ORDER"), (0, u "Ljava/util/Comparator;"), (34, .class_ 65), (0, u "java/lang/Comparable"), (2, u "(Ljava/lang/String;Ljava/lang/String;)V")] 45

def k3c0 : Code := { maxStack := 3, maxLocals := 3, code := prog_13_method_1_code, exceptionTable := #[], attributes := #[] }
def k3m0 : Method := { name := "<init>", desc := "(Ljava/lang/String;Ljava/lang/String;)V", sig := { parameters := [(.object "java/lang/String"), (.object "java/lang/String")], returnType := none }, accessFlags := 1, code := some k3c0 }
/-- com/example/forget_by_time/forgetbytime/engine/TableName -/
def k3 : Class := { plain "com/example/forget_by_time/forgetbytime/engine/TableName" (some 0) with
  accessFlags := 33
  interfaces := #[2]
  cf := some (fileOf pool3 18 #[] #[{ accessFlags := 1, nameIndex := 5, descriptorIndex := 68, attributes := #[] }] 33 2 #[64] #[{ accessFlags := 26, nameIndex := 28, descriptorIndex := 29, attributes := #[] }, { accessFlags := 18, nameIndex := 8, descriptorIndex := 21, attributes := #[] }, { accessFlags := 18, nameIndex := 23, descriptorIndex := 21, attributes := #[] }])
  fields := #[{ name := "ORDER", type := (.object "java/util/Comparator"), accessFlags := 26, slot := 0, constantValue := 0 }, { name := "schema", type := (.object "java/lang/String"), accessFlags := 18, slot := 0, constantValue := 0 }, { name := "name", type := (.object "java/lang/String"), accessFlags := 18, slot := 1, constantValue := 0 }]
  methods := #[k3m0]
  instanceTypes := #[(.object "java/lang/String"), (.object "java/lang/String")]
  staticTypes := #[(.object "java/util/Comparator")]
  resolved := Array.replicate 114 none
  statics := none }

def pool4 : Array CpInfo := pool [(1, .class_ 2), (0, u "java/io/Serializable"), (0, .class_ 4), (0, u "java/lang/Object")] 2

/-- java/io/Serializable -/
def k4 : Class := { plain "java/io/Serializable" (some 0) with
  accessFlags := 1537
  interfaces := #[]
  cf := some (fileOf pool4 1 #[] #[] 1537 3 #[] #[])
  fields := #[]
  methods := #[]
  instanceTypes := #[]
  staticTypes := #[]
  resolved := Array.replicate 7 none
  statics := none }

def pool5 : Array CpInfo := pool [(2, .class_ 4), (1, u "java/lang/CharSequence"), (42, .class_ 48), (0, u "java/lang/CharSequence$1CodePointIterator"), (10, .class_ 60), (0, u "java/lang/CharSequence$1CharIterator"), (5, .class_ 67), (0, u "java/lang/Object")] 63

/-- java/lang/CharSequence -/
def k5 : Class := { plain "java/lang/CharSequence" (some 0) with
  accessFlags := 1537
  interfaces := #[]
  cf := some (fileOf pool5 2 #[.nestMembers #[47, 59]] #[] 1537 66 #[] #[])
  fields := #[]
  methods := #[]
  instanceTypes := #[]
  staticTypes := #[]
  resolved := Array.replicate 131 none
  statics := none }

def pool6 : Array CpInfo := pool [(1, .class_ 2), (0, u "java/lang/constant/Constable"), (0, .class_ 4), (0, u "java/lang/Object")] 6

/-- java/lang/constant/Constable -/
def k6 : Class := { plain "java/lang/constant/Constable" (some 0) with
  accessFlags := 1537
  interfaces := #[]
  cf := some (fileOf pool6 1 #[] #[] 1537 3 #[] #[])
  fields := #[]
  methods := #[]
  instanceTypes := #[]
  staticTypes := #[]
  resolved := Array.replicate 11 none
  statics := none }

def pool7 : Array CpInfo := pool [(1, .class_ 2), (0, u "java/lang/constant/ConstantDesc"), (0, .class_ 4), (0, u "java/lang/Object")] 32

/-- java/lang/constant/ConstantDesc -/
def k7 : Class := { plain "java/lang/constant/ConstantDesc" (some 0) with
  accessFlags := 1537
  interfaces := #[]
  cf := some (fileOf pool7 1 #[] #[] 1537 3 #[] #[])
  fields := #[]
  methods := #[]
  instanceTypes := #[]
  staticTypes := #[]
  resolved := Array.replicate 37 none
  statics := none }

def pool8 : Array CpInfo := pool [(1, .methodref 2 3), (0, .class_ 4), (0, .nameAndType 5 6), (0, u "java/lang/Object"), (0, u "<init>"), (0, u "()V"), (2, .fieldref 10 11), (0, .class_ 12), (0, .nameAndType 13 14), (0, u "java/lang/String"), (0, u "value"), (0, u "[B"), (0, .fieldref 10 16), (0, .nameAndType 17 18), (0, u "coder"), (0, u "B"), (2, u "hash"), (0, u "I"), (2, u "hashIsZero"), (0, u "Z"), (0, .methodref 10 28), (0, .nameAndType 5 29), (0, u "([CIILjava/lang/Void;)V"), (8, .fieldref 10 39), (0, .nameAndType 40 26), (0, u "COMPACT_STRINGS"), (1, .class_ 44), (1, u "java/lang/StringUTF16"), (0, u "compress"), (1, .methodref 42 48), (0, .nameAndType 49 50), (0, u "coderFromArrayLen"), (0, u "([BI)B"), (126, .methodref 42 178), (0, .nameAndType 45 179), (0, u "([CII)[B"), (395, .class_ 576), (0, u "java/lang/CharSequence"), (22, u "CASE_INSENSITIVE_ORDER"), (0, u "Ljava/util/Comparator;"), (409, u "([C)V"), (90, u "serialPersistentFields"), (0, u "[Ljava/io/ObjectStreamField;"), (0, .class_ 1104), (0, u "java/lang/String$CaseInsensitiveComparator"), (1, .class_ 1107), (0, u "java/io/Serializable"), (0, .class_ 1109), (0, u "java/lang/Comparable"), (0, .class_ 1111), (0, u "java/lang/constant/Constable"), (0, .class_ 1113), (0, u "java/lang/constant/ConstantDesc"), (2, u "serialVersionUID"), (0, u "J"), (3, u "REPL"), (0, u "C"), (2, u "LATIN1"), (1, u "UTF16")] 323

def k8m0 : Method := { name := "<init>", desc := "()V", sig := { parameters := [], returnType := none }, accessFlags := 1, code := none }
def k8c1 : Code := { maxStack := 5, maxLocals := 2, code := jdk_42_method_3_code, exceptionTable := #[], attributes := #[] }
def k8m1 : Method := { name := "<init>", desc := "([C)V", sig := { parameters := [(.array .char)], returnType := none }, accessFlags := 1, code := some k8c1 }
def k8c2 : Code := { maxStack := 4, maxLocals := 6, code := jdk_42_method_149_code, exceptionTable := #[], attributes := #[] }
def k8m2 : Method := { name := "<init>", desc := "([CIILjava/lang/Void;)V", sig := { parameters := [(.array .char), .int, .int, (.object "java/lang/Void")], returnType := none }, accessFlags := 2, code := some k8c2 }
/-- java/lang/String -/
def k8 : Class := { plain "java/lang/String" (some 0) with
  accessFlags := 49
  interfaces := #[4, 2, 5, 6, 7]
  cf := some (fileOf pool8 10 #[.nestMembers #[1103]] #[{ accessFlags := 1, nameIndex := 5, descriptorIndex := 6, attributes := #[] }, { accessFlags := 1, nameIndex := 5, descriptorIndex := 1010, attributes := #[] }, { accessFlags := 2, nameIndex := 5, descriptorIndex := 29, attributes := #[] }] 49 2 #[1106, 1108, 575, 1110, 1112] #[{ accessFlags := 18, nameIndex := 13, descriptorIndex := 14, attributes := #[] }, { accessFlags := 18, nameIndex := 17, descriptorIndex := 18, attributes := #[] }, { accessFlags := 2, nameIndex := 21, descriptorIndex := 22, attributes := #[] }, { accessFlags := 2, nameIndex := 25, descriptorIndex := 26, attributes := #[] }, { accessFlags := 26, nameIndex := 1116, descriptorIndex := 1117, attributes := #[] }, { accessFlags := 24, nameIndex := 40, descriptorIndex := 26, attributes := #[] }, { accessFlags := 26, nameIndex := 1101, descriptorIndex := 1102, attributes := #[] }, { accessFlags := 26, nameIndex := 1121, descriptorIndex := 1122, attributes := #[] }, { accessFlags := 25, nameIndex := 599, descriptorIndex := 600, attributes := #[] }, { accessFlags := 24, nameIndex := 1125, descriptorIndex := 18, attributes := #[] }, { accessFlags := 24, nameIndex := 1127, descriptorIndex := 18, attributes := #[] }])
  fields := #[{ name := "value", type := (.array .byte), accessFlags := 18, slot := 0, constantValue := 0 }, { name := "coder", type := .byte, accessFlags := 18, slot := 1, constantValue := 0 }, { name := "hash", type := .int, accessFlags := 2, slot := 2, constantValue := 0 }, { name := "hashIsZero", type := .boolean, accessFlags := 2, slot := 3, constantValue := 0 }, { name := "serialVersionUID", type := .long, accessFlags := 26, slot := 0, constantValue := 0 }, { name := "COMPACT_STRINGS", type := .boolean, accessFlags := 24, slot := 1, constantValue := 0 }, { name := "serialPersistentFields", type := (.array (.object "java/io/ObjectStreamField")), accessFlags := 26, slot := 2, constantValue := 0 }, { name := "REPL", type := .char, accessFlags := 26, slot := 3, constantValue := 0 }, { name := "CASE_INSENSITIVE_ORDER", type := (.object "java/util/Comparator"), accessFlags := 25, slot := 4, constantValue := 0 }, { name := "LATIN1", type := .byte, accessFlags := 24, slot := 5, constantValue := 0 }, { name := "UTF16", type := .byte, accessFlags := 24, slot := 6, constantValue := 0 }]
  methods := #[k8m0, k8m1, k8m2]
  instanceTypes := #[(.array .byte), .byte, .int, .boolean]
  staticTypes := #[.long, .boolean, (.array (.object "java/io/ObjectStreamField")), .char, (.object "java/util/Comparator"), .byte, .byte]
  resolved := Array.replicate 1451 none
  statics := some 0 }

def pool9 : Array CpInfo := pool [(6, .class_ 8), (1, u "java/lang/Object"), (0, u "<init>"), (0, u "()V"), (1, .class_ 14), (1, u "java/lang/StringUTF16"), (31, u "$assertionsDisabled"), (0, u "Z"), (13, u "HI_BYTE_SHIFT"), (0, u "I"), (2, u "LO_BYTE_SHIFT"), (49, .methodref 12 116), (0, .nameAndType 117 118), (0, u "compress"), (0, u "([CI[BII)I"), (3, u "([CII)[B"), (138, u "coderFromArrayLen"), (0, u "([BI)B"), (106, .class_ 371), (1, u "java/lang/StringUTF16$LinesSpliterator"), (58, u "MAX_LENGTH"), (196, .class_ 628), (0, u "java/lang/StringUTF16$CodePointsSpliterator"), (0, .class_ 630), (0, u "java/lang/StringUTF16$CharsSpliterator")] 4

def k9m0 : Method := { name := "<init>", desc := "()V", sig := { parameters := [], returnType := none }, accessFlags := 0, code := none }
def k9c1 : Code := { maxStack := 2, maxLocals := 2, code := jdk_52_method_15_code, exceptionTable := #[], attributes := #[] }
def k9m1 : Method := { name := "coderFromArrayLen", desc := "([BI)B", sig := { parameters := [(.array .byte), .int], returnType := some .byte }, accessFlags := 8, code := some k9c1 }
def k9c2 : Code := { maxStack := 5, maxLocals := 6, code := jdk_52_method_16_code, exceptionTable := #[], attributes := #[] }
def k9m2 : Method := { name := "compress", desc := "([CII)[B", sig := { parameters := [(.array .char), .int, .int], returnType := some (.array .byte) }, accessFlags := 9, code := some k9c2 }
def k9c3 : Code := { maxStack := 3, maxLocals := 7, code := jdk_52_method_21_code, exceptionTable := #[], attributes := #[] }
def k9m3 : Method := { name := "compress", desc := "([CI[BII)I", sig := { parameters := [(.array .char), .int, (.array .byte), .int, .int], returnType := some .int }, accessFlags := 9, code := some k9c3 }
/-- java/lang/StringUTF16 -/
def k9 : Class := { plain "java/lang/StringUTF16" (some 0) with
  accessFlags := 48
  interfaces := #[]
  cf := some (fileOf pool9 12 #[.nestMembers #[627, 629, 369]] #[{ accessFlags := 0, nameIndex := 9, descriptorIndex := 10, attributes := #[] }, { accessFlags := 8, nameIndex := 261, descriptorIndex := 262, attributes := #[] }, { accessFlags := 9, nameIndex := 117, descriptorIndex := 122, attributes := #[] }, { accessFlags := 9, nameIndex := 117, descriptorIndex := 118, attributes := #[] }] 48 6 #[] #[{ accessFlags := 26, nameIndex := 61, descriptorIndex := 62, attributes := #[] }, { accessFlags := 26, nameIndex := 65, descriptorIndex := 62, attributes := #[] }, { accessFlags := 24, nameIndex := 430, descriptorIndex := 62, attributes := #[] }, { accessFlags := 4120, nameIndex := 46, descriptorIndex := 47, attributes := #[] }])
  fields := #[{ name := "HI_BYTE_SHIFT", type := .int, accessFlags := 26, slot := 0, constantValue := 0 }, { name := "LO_BYTE_SHIFT", type := .int, accessFlags := 26, slot := 1, constantValue := 0 }, { name := "MAX_LENGTH", type := .int, accessFlags := 24, slot := 2, constantValue := 0 }, { name := "$assertionsDisabled", type := .boolean, accessFlags := 4120, slot := 3, constantValue := 0 }]
  methods := #[k9m0, k9m1, k9m2, k9m3]
  instanceTypes := #[]
  staticTypes := #[.int, .int, .int, .boolean]
  resolved := Array.replicate 635 none
  statics := none }

def pool10 : Array CpInfo := pool [(2, .class_ 4), (1, u "java/lang/Object"), (0, u "<init>"), (0, u "()V"), (35, .class_ 44), (1, u "java/util/Objects"), (0, u "requireNonNull"), (48, u "(Ljava/lang/Object;Ljava/lang/String;)Ljava/lang/Object;")] 89

def k10m0 : Method := { name := "<init>", desc := "()V", sig := { parameters := [], returnType := none }, accessFlags := 2, code := none }
def k10c1 : Code := { maxStack := 3, maxLocals := 2, code := jdk_31_method_11_code, exceptionTable := #[], attributes := #[] }
def k10m1 : Method := { name := "requireNonNull", desc := "(Ljava/lang/Object;Ljava/lang/String;)Ljava/lang/Object;", sig := { parameters := [(.object "java/lang/Object"), (.object "java/lang/String")], returnType := some (.object "java/lang/Object") }, accessFlags := 9, code := some k10c1 }
/-- java/util/Objects -/
def k10 : Class := { plain "java/util/Objects" (some 0) with
  accessFlags := 49
  interfaces := #[]
  cf := some (fileOf pool10 42 #[] #[{ accessFlags := 2, nameIndex := 5, descriptorIndex := 6, attributes := #[] }, { accessFlags := 9, nameIndex := 45, descriptorIndex := 94, attributes := #[] }] 49 2 #[] #[])
  fields := #[]
  methods := #[k10m0, k10m1]
  instanceTypes := #[]
  staticTypes := #[]
  resolved := Array.replicate 184 none
  statics := none }

def pool11 : Array CpInfo := pool [(1, .methodref 2 3), (0, .class_ 4), (0, .nameAndType 5 6), (0, u "com/example/forget_by_time/forgetbytime/engine/TableSweep"), (0, u "<init>"), (0, u "(Lcom/example/forget_by_time/forgetbytime/engine/TableName;JJZ)V"), (0, .methodref 8 9), (0, .class_ 10), (0, .nameAndType 5 11), (0, u "java/lang/Object"), (0, u "()V"), (0, .fieldref 2 13), (0, .nameAndType 14 15), (0, u "table"), (0, u "Lcom/example/forget_by_time/forgetbytime/engine/TableName;"), (0, .fieldref 2 17), (0, .nameAndType 18 19), (0, u "deleted"), (0, u "J"), (0, .fieldref 2 21), (0, .nameAndType 22 19), (0, u "remainingExpired"), (0, .fieldref 2 24), (0, .nameAndType 25 26), (0, u "paused"), (0, u "Z"), (0, u "(Lcom/example/forget_by_time/forgetbytime/engine/TableName;JJ)V"), (2, u "(Lcom/example/forget_by_time/forgetbytime/engine/TableName;)Lcom/example/forget_by_time/forgetbytime/engine/TableSweep;"), (0, u "()Lcom/example/forget_by_time/forgetbytime/engine/TableName;"), (0, u "()J"), (0, u "()Z")] 2

def k11c0 : Code := { maxStack := 7, maxLocals := 6, code := prog_15_method_1_code, exceptionTable := #[], attributes := #[] }
def k11m0 : Method := { name := "<init>", desc := "(Lcom/example/forget_by_time/forgetbytime/engine/TableName;JJ)V", sig := { parameters := [(.object "com/example/forget_by_time/forgetbytime/engine/TableName"), .long, .long], returnType := none }, accessFlags := 1, code := some k11c0 }
def k11c1 : Code := { maxStack := 3, maxLocals := 7, code := prog_15_method_2_code, exceptionTable := #[], attributes := #[] }
def k11m1 : Method := { name := "<init>", desc := "(Lcom/example/forget_by_time/forgetbytime/engine/TableName;JJZ)V", sig := { parameters := [(.object "com/example/forget_by_time/forgetbytime/engine/TableName"), .long, .long, .boolean], returnType := none }, accessFlags := 2, code := some k11c1 }
def k11c2 : Code := { maxStack := 8, maxLocals := 1, code := prog_15_method_3_code, exceptionTable := #[], attributes := #[] }
def k11m2 : Method := { name := "paused", desc := "(Lcom/example/forget_by_time/forgetbytime/engine/TableName;)Lcom/example/forget_by_time/forgetbytime/engine/TableSweep;", sig := { parameters := [(.object "com/example/forget_by_time/forgetbytime/engine/TableName")], returnType := some (.object "com/example/forget_by_time/forgetbytime/engine/TableSweep") }, accessFlags := 9, code := some k11c2 }
def k11c3 : Code := { maxStack := 1, maxLocals := 1, code := prog_15_method_4_code, exceptionTable := #[], attributes := #[] }
def k11m3 : Method := { name := "table", desc := "()Lcom/example/forget_by_time/forgetbytime/engine/TableName;", sig := { parameters := [], returnType := some (.object "com/example/forget_by_time/forgetbytime/engine/TableName") }, accessFlags := 1, code := some k11c3 }
def k11c4 : Code := { maxStack := 2, maxLocals := 1, code := prog_15_method_5_code, exceptionTable := #[], attributes := #[] }
def k11m4 : Method := { name := "deleted", desc := "()J", sig := { parameters := [], returnType := some .long }, accessFlags := 1, code := some k11c4 }
def k11c5 : Code := { maxStack := 2, maxLocals := 1, code := prog_15_method_6_code, exceptionTable := #[], attributes := #[] }
def k11m5 : Method := { name := "remainingExpired", desc := "()J", sig := { parameters := [], returnType := some .long }, accessFlags := 1, code := some k11c5 }
def k11c6 : Code := { maxStack := 1, maxLocals := 1, code := prog_15_method_7_code, exceptionTable := #[], attributes := #[] }
def k11m6 : Method := { name := "paused", desc := "()Z", sig := { parameters := [], returnType := some .boolean }, accessFlags := 1, code := some k11c6 }
/-- com/example/forget_by_time/forgetbytime/engine/TableSweep -/
def k11 : Class := { plain "com/example/forget_by_time/forgetbytime/engine/TableSweep" (some 0) with
  accessFlags := 33
  interfaces := #[]
  cf := some (fileOf pool11 2 #[] #[{ accessFlags := 1, nameIndex := 5, descriptorIndex := 27, attributes := #[] }, { accessFlags := 2, nameIndex := 5, descriptorIndex := 6, attributes := #[] }, { accessFlags := 9, nameIndex := 25, descriptorIndex := 30, attributes := #[] }, { accessFlags := 1, nameIndex := 14, descriptorIndex := 31, attributes := #[] }, { accessFlags := 1, nameIndex := 18, descriptorIndex := 32, attributes := #[] }, { accessFlags := 1, nameIndex := 22, descriptorIndex := 32, attributes := #[] }, { accessFlags := 1, nameIndex := 25, descriptorIndex := 33, attributes := #[] }] 33 8 #[] #[{ accessFlags := 18, nameIndex := 14, descriptorIndex := 15, attributes := #[] }, { accessFlags := 18, nameIndex := 18, descriptorIndex := 19, attributes := #[] }, { accessFlags := 18, nameIndex := 22, descriptorIndex := 19, attributes := #[] }, { accessFlags := 18, nameIndex := 25, descriptorIndex := 26, attributes := #[] }])
  fields := #[{ name := "table", type := (.object "com/example/forget_by_time/forgetbytime/engine/TableName"), accessFlags := 18, slot := 0, constantValue := 0 }, { name := "deleted", type := .long, accessFlags := 18, slot := 1, constantValue := 0 }, { name := "remainingExpired", type := .long, accessFlags := 18, slot := 2, constantValue := 0 }, { name := "paused", type := .boolean, accessFlags := 18, slot := 3, constantValue := 0 }]
  methods := #[k11m0, k11m1, k11m2, k11m3, k11m4, k11m5, k11m6]
  instanceTypes := #[(.object "com/example/forget_by_time/forgetbytime/engine/TableName"), .long, .long, .boolean]
  staticTypes := #[]
  resolved := Array.replicate 36 none
  statics := none }

def pool12 : Array CpInfo := pool [(4, .class_ 6), (1, u "java/lang/Object"), (0, u "<init>"), (0, u "()V"), (5, .class_ 16), (1, u "java/lang/StringLatin1"), (104, u "$assertionsDisabled"), (0, u "Z"), (98, .class_ 223), (1, u "java/lang/StringLatin1$LinesSpliterator"), (166, .class_ 391), (0, u "java/lang/StringLatin1$CharsSpliterator")] 3

def k12m0 : Method := { name := "<init>", desc := "()V", sig := { parameters := [], returnType := none }, accessFlags := 0, code := none }
/-- java/lang/StringLatin1 -/
def k12 : Class := { plain "java/lang/StringLatin1" (some 0) with
  accessFlags := 48
  interfaces := #[]
  cf := some (fileOf pool12 14 #[.nestMembers #[390, 221]] #[{ accessFlags := 0, nameIndex := 7, descriptorIndex := 8, attributes := #[] }] 48 4 #[] #[{ accessFlags := 4120, nameIndex := 121, descriptorIndex := 122, attributes := #[] }])
  fields := #[{ name := "$assertionsDisabled", type := .boolean, accessFlags := 4120, slot := 0, constantValue := 0 }]
  methods := #[k12m0]
  instanceTypes := #[]
  staticTypes := #[.boolean]
  resolved := Array.replicate 395 none
  statics := none }

def pool13 : Array CpInfo := pool [(2, .class_ 4), (1, u "java/lang/Object"), (0, u "<init>"), (0, u "()V"), (17, .class_ 26), (1, u "jdk/internal/util/Preconditions"), (28, .class_ 56), (0, u "jdk/internal/util/Preconditions$4"), (57, .class_ 115), (0, u "jdk/internal/util/Preconditions$1"), (7, u "SIOOBE_FORMATTER"), (0, u "Ljava/util/function/BiFunction;"), (0, .class_ 126), (0, u "jdk/internal/util/Preconditions$2"), (3, u "AIOOBE_FORMATTER"), (0, .class_ 132), (0, u "jdk/internal/util/Preconditions$3"), (3, u "IOOBE_FORMATTER")] 57

def k13m0 : Method := { name := "<init>", desc := "()V", sig := { parameters := [], returnType := none }, accessFlags := 1, code := none }
/-- jdk/internal/util/Preconditions -/
def k13 : Class := { plain "jdk/internal/util/Preconditions" (some 0) with
  accessFlags := 33
  interfaces := #[]
  cf := some (fileOf pool13 24 #[.nestMembers #[55, 131, 125, 114]] #[{ accessFlags := 1, nameIndex := 5, descriptorIndex := 6, attributes := #[] }] 33 2 #[] #[{ accessFlags := 25, nameIndex := 123, descriptorIndex := 124, attributes := #[] }, { accessFlags := 25, nameIndex := 130, descriptorIndex := 124, attributes := #[] }, { accessFlags := 25, nameIndex := 136, descriptorIndex := 124, attributes := #[] }])
  fields := #[{ name := "SIOOBE_FORMATTER", type := (.object "java/util/function/BiFunction"), accessFlags := 25, slot := 0, constantValue := 0 }, { name := "AIOOBE_FORMATTER", type := (.object "java/util/function/BiFunction"), accessFlags := 25, slot := 1, constantValue := 0 }, { name := "IOOBE_FORMATTER", type := (.object "java/util/function/BiFunction"), accessFlags := 25, slot := 2, constantValue := 0 }]
  methods := #[k13m0]
  instanceTypes := #[]
  staticTypes := #[(.object "java/util/function/BiFunction"), (.object "java/util/function/BiFunction"), (.object "java/util/function/BiFunction")]
  resolved := Array.replicate 194 none
  statics := some 1 }

def pool14 : Array CpInfo := pool [(9, u "<init>"), (6, .class_ 18), (1, u "java/lang/Object"), (0, u "()V"), (1, .class_ 23), (1, u "jdk/internal/util/ArraysSupport"), (0, u "LOG2_ARRAY_LONG_INDEX_SCALE"), (0, u "I"), (2, u "U"), (0, u "Ljdk/internal/misc/Unsafe;"), (8, u "BIG_ENDIAN"), (0, u "Z"), (8, u "LOG2_BYTE_BIT_SIZE"), (4, u "LOG2_ARRAY_INT_INDEX_SCALE"), (54, u "JLA"), (0, u "Ljdk/internal/access/JavaLangAccess;"), (11, u "LOG2_ARRAY_BOOLEAN_INDEX_SCALE"), (9, u "LOG2_ARRAY_BYTE_INDEX_SCALE"), (5, u "LOG2_ARRAY_CHAR_INDEX_SCALE"), (5, u "LOG2_ARRAY_SHORT_INDEX_SCALE"), (18, u "LOG2_ARRAY_FLOAT_INDEX_SCALE"), (24, u "LOG2_ARRAY_DOUBLE_INDEX_SCALE"), (89, u "T_BOOLEAN"), (2, u "T_CHAR"), (1, u "T_FLOAT"), (1, u "T_DOUBLE"), (1, u "T_BYTE"), (1, u "T_SHORT"), (1, u "T_INT"), (1, u "T_LONG"), (1, u "SOFT_MAX_ARRAY_LENGTH")] 83

def k14m0 : Method := { name := "<init>", desc := "()V", sig := { parameters := [], returnType := none }, accessFlags := 2, code := none }
/-- jdk/internal/util/ArraysSupport -/
def k14 : Class := { plain "jdk/internal/util/ArraysSupport" (some 0) with
  accessFlags := 33
  interfaces := #[]
  cf := some (fileOf pool14 21 #[] #[{ accessFlags := 2, nameIndex := 9, descriptorIndex := 19, attributes := #[] }] 33 16 #[] #[{ accessFlags := 24, nameIndex := 28, descriptorIndex := 29, attributes := #[] }, { accessFlags := 26, nameIndex := 38, descriptorIndex := 39, attributes := #[] }, { accessFlags := 25, nameIndex := 121, descriptorIndex := 25, attributes := #[] }, { accessFlags := 25, nameIndex := 131, descriptorIndex := 25, attributes := #[] }, { accessFlags := 25, nameIndex := 137, descriptorIndex := 25, attributes := #[] }, { accessFlags := 25, nameIndex := 143, descriptorIndex := 25, attributes := #[] }, { accessFlags := 25, nameIndex := 53, descriptorIndex := 25, attributes := #[] }, { accessFlags := 25, nameIndex := 24, descriptorIndex := 25, attributes := #[] }, { accessFlags := 25, nameIndex := 162, descriptorIndex := 25, attributes := #[] }, { accessFlags := 25, nameIndex := 187, descriptorIndex := 25, attributes := #[] }, { accessFlags := 26, nameIndex := 48, descriptorIndex := 25, attributes := #[] }, { accessFlags := 25, nameIndex := 277, descriptorIndex := 25, attributes := #[] }, { accessFlags := 25, nameIndex := 280, descriptorIndex := 25, attributes := #[] }, { accessFlags := 25, nameIndex := 282, descriptorIndex := 25, attributes := #[] }, { accessFlags := 25, nameIndex := 284, descriptorIndex := 25, attributes := #[] }, { accessFlags := 25, nameIndex := 286, descriptorIndex := 25, attributes := #[] }, { accessFlags := 25, nameIndex := 288, descriptorIndex := 25, attributes := #[] }, { accessFlags := 25, nameIndex := 290, descriptorIndex := 25, attributes := #[] }, { accessFlags := 25, nameIndex := 292, descriptorIndex := 25, attributes := #[] }, { accessFlags := 26, nameIndex := 108, descriptorIndex := 109, attributes := #[] }, { accessFlags := 25, nameIndex := 294, descriptorIndex := 25, attributes := #[] }])
  fields := #[{ name := "U", type := (.object "jdk/internal/misc/Unsafe"), accessFlags := 24, slot := 0, constantValue := 0 }, { name := "BIG_ENDIAN", type := .boolean, accessFlags := 26, slot := 1, constantValue := 0 }, { name := "LOG2_ARRAY_BOOLEAN_INDEX_SCALE", type := .int, accessFlags := 25, slot := 2, constantValue := 0 }, { name := "LOG2_ARRAY_BYTE_INDEX_SCALE", type := .int, accessFlags := 25, slot := 3, constantValue := 0 }, { name := "LOG2_ARRAY_CHAR_INDEX_SCALE", type := .int, accessFlags := 25, slot := 4, constantValue := 0 }, { name := "LOG2_ARRAY_SHORT_INDEX_SCALE", type := .int, accessFlags := 25, slot := 5, constantValue := 0 }, { name := "LOG2_ARRAY_INT_INDEX_SCALE", type := .int, accessFlags := 25, slot := 6, constantValue := 0 }, { name := "LOG2_ARRAY_LONG_INDEX_SCALE", type := .int, accessFlags := 25, slot := 7, constantValue := 0 }, { name := "LOG2_ARRAY_FLOAT_INDEX_SCALE", type := .int, accessFlags := 25, slot := 8, constantValue := 0 }, { name := "LOG2_ARRAY_DOUBLE_INDEX_SCALE", type := .int, accessFlags := 25, slot := 9, constantValue := 0 }, { name := "LOG2_BYTE_BIT_SIZE", type := .int, accessFlags := 26, slot := 10, constantValue := 0 }, { name := "T_BOOLEAN", type := .int, accessFlags := 25, slot := 11, constantValue := 0 }, { name := "T_CHAR", type := .int, accessFlags := 25, slot := 12, constantValue := 0 }, { name := "T_FLOAT", type := .int, accessFlags := 25, slot := 13, constantValue := 0 }, { name := "T_DOUBLE", type := .int, accessFlags := 25, slot := 14, constantValue := 0 }, { name := "T_BYTE", type := .int, accessFlags := 25, slot := 15, constantValue := 0 }, { name := "T_SHORT", type := .int, accessFlags := 25, slot := 16, constantValue := 0 }, { name := "T_INT", type := .int, accessFlags := 25, slot := 17, constantValue := 0 }, { name := "T_LONG", type := .int, accessFlags := 25, slot := 18, constantValue := 0 }, { name := "JLA", type := (.object "jdk/internal/access/JavaLangAccess"), accessFlags := 26, slot := 19, constantValue := 0 }, { name := "SOFT_MAX_ARRAY_LENGTH", type := .int, accessFlags := 25, slot := 20, constantValue := 0 }]
  methods := #[k14m0]
  instanceTypes := #[]
  staticTypes := #[(.object "jdk/internal/misc/Unsafe"), .boolean, .int, .int, .int, .int, .int, .int, .int, .int, .int, .int, .int, .int, .int, .int, .int, .int, .int, (.object "jdk/internal/access/JavaLangAccess"), .int]
  resolved := Array.replicate 378 none
  statics := none }

def pool15 : Array CpInfo := pool [(1, u "java/lang/Cloneable"), (0, .class_ 1), (0, u "java/lang/Object"), (0, .class_ 3)] 3

/-- java/lang/Cloneable -/
def k15 : Class := { plain "java/lang/Cloneable" (some 0) with
  accessFlags := 1537
  interfaces := #[]
  cf := some (fileOf pool15 2 #[] #[] 1537 4 #[] #[])
  fields := #[]
  methods := #[]
  instanceTypes := #[]
  staticTypes := #[]
  resolved := Array.replicate 8 none
  statics := none }

/-- the primitive byte -/
def k16 : Class := { plain "byte" none with kind := .primitive 'B', accessFlags := 0x411 }
/-- [B -/
def k17 : Class := { plain "[B" (some 0) with kind := .array 16 .byte, interfaces := #[15, 4], accessFlags := 1041 }

/-- the primitive char -/
def k18 : Class := { plain "char" none with kind := .primitive 'C', accessFlags := 0x411 }
/-- [C -/
def k19 : Class := { plain "[C" (some 0) with kind := .array 18 .char, interfaces := #[15, 4], accessFlags := 1041 }

/-- the primitive int -/
def k20 : Class := { plain "int" none with kind := .primitive 'I', accessFlags := 0x411 }
/-- [I -/
def k21 : Class := { plain "[I" (some 0) with kind := .array 20 .int, interfaces := #[15, 4], accessFlags := 1041 }

def heap : Heap := #[{ cls := 8, slots := #[.long 0, .int 1, .null, .int 0, .null, .int 0, .int 0], vm := .statics 8 },
  { cls := 13, slots := #[.null, .null, .null], vm := .statics 13 }]
def classes : Array Class := #[k0, k1, k2, k3, k4, k5, k6, k7, k8, k9, k10, k11, k12, k13, k14, k15, k16, k17, k18, k19, k20, k21]
def interned : List (Array UInt16 × Addr) := []
def slotsUsed : Nat := 10
def theMethod : MethodId := ⟨1, 1⟩
def args0 : Array Value := #[.int 65, .int 66, .long 7, .long 8]
def aboutOver (below : List Frame) : State where
  vm := { classes := classes, interned := interned.toArray }
  heap := heap
  slotsUsed := slotsUsed
  threads := #[{ frames := .invoking theMethod args0 :: below }]
def below0 : List Frame := [.native { method := ⟨0, 0⟩, args := #[] }]
def about1 : State := aboutOver below0
def p0 : Program := .bare "" "" ""
def e0 : Env := launch0.env 0 0 0
theorem w_frames : about1.frames = Frame.invoking theMethod args0 :: below0 := rfl
set_option maxRecDepth 65536 in
theorem w_args : argsFit about1.vm theMethod args0 = true := by decide +kernel
set_option maxRecDepth 65536 in
theorem w_heap : heapFits about1 = true := by decide +kernel
set_option maxRecDepth 65536 in
theorem w_runnable : about1.curStatus? = some .runnable := by decide +kernel
set_option maxRecDepth 65536 in
theorem w_alone : about1.alone = true := by decide +kernel
set_option maxRecDepth 65536 in
theorem w_named : about1.methodNamed? x = some theMethod := by decide +kernel
set_option maxRecDepth 65536 in
theorem w_hears : about1.hears theMethod below0 = true := by decide +kernel
set_option maxRecDepth 65536 in
theorem w_ripe : about1.ripe theMethod args0 below0 = true := by decide +kernel
theorem w_running : about1.status = .running := rfl
set_option maxRecDepth 65536 in
theorem w_room : about1.hasRoom e0.platform room_1 = true :=
  launch0.hasRoom_least _ room_1 (by decide +kernel) (by decide +kernel) (by decide +kernel) (by decide +kernel) (by decide +kernel) (by decide +kernel)
theorem allAtoms_all (ts : List Jvm.Cond) (a : Array Jvm.Value) (st : Jvm.State) : (allAtoms ts).before a st = ts.all (fun c => c.before a st) := by
  induction ts with
  | nil => rfl
  | cons c t ih =>
    show (Jvm.Cond.and c (allAtoms t)).before a st = _
    rw [Jvm.Cond.before_and, ih, List.all_cons]
def words1 : List Jvm.Cond := Jvm.Cond.code x code maxLocals ret :: tables_1
/-- a 'code' word, met by the world's own term for the bytes: nothing is compared byte by byte -/
theorem code_word {y : MethodName} {bytes : ByteArray} {mx : Nat} {rt : Option FieldType} {a : Array Value} {s : State} {m : MethodId} {meth : Method} {c : Code} (h1 : s.methodNamed? y = some m) (h2 : s.vm.method? m = some meth) (h3 : meth.code = some c) (h4 : c.code = bytes)
    (h5 : (c.maxLocals == mx && c.exceptionTable.isEmpty && decide (c.maxStack ≤ mostOperands) && decide (meth.sig.returnType = rt) && !meth.locks && decide (parseMethodDescriptor y.desc = some meth.sig)) = true) : (Jvm.Cond.code y bytes mx rt).before a s = true := by
  simp only [Bool.and_eq_true, beq_iff_eq, Bool.not_eq_true', decide_eq_true_eq] at h5
  obtain ⟨⟨⟨⟨⟨g1, g2⟩, g3⟩, g4⟩, g5⟩, g6⟩ := h5
  simp [Cond.before, Cond.holds, Cond.value, h1, h2, h3, h4, g1, g2, g3, g4, g5, g6]
def isCode : Jvm.Cond → Bool
  | .code _ _ _ _ => true
  | _ => false
theorem all_split {L : List Jvm.Cond} {P : Jvm.Cond → Bool} (h1 : L.all (fun c => isCode c || P c) = true) (h2 : ∀ c ∈ L.filter isCode, P c = true) : L.all P = true := by
  refine List.all_eq_true.mpr fun c hc => ?_
  have h := List.all_eq_true.mp h1 c hc
  rcases Bool.eq_false_or_eq_true (isCode c) with hi | hi
  · exact h2 c (List.mem_filter.mpr ⟨hc, hi⟩)
  · simpa [hi] using h
set_option maxRecDepth 65536 in
theorem w_c0 : (Jvm.Cond.code x code maxLocals ret).before args0 about1 = true := code_word (m := ⟨1, 1⟩) (meth := k1m1) (c := k1c1) (by decide +kernel) rfl rfl rfl (by decide +kernel)
set_option maxRecDepth 65536 in
theorem w_c1 : (Jvm.Cond.code ({ cls := "java/lang/String", name := "<init>", desc := "([C)V" } : Jvm.MethodName) jdk_42_method_3_code (2 : Nat) (Option.none : Option Jvm.ClassFile.FieldType)).before args0 about1 = true := code_word (m := ⟨8, 1⟩) (meth := k8m1) (c := k8c1) (by decide +kernel) rfl rfl rfl (by decide +kernel)
set_option maxRecDepth 65536 in
theorem w_c2 : (Jvm.Cond.code ({ cls := "java/lang/String", name := "<init>", desc := "([CIILjava/lang/Void;)V" } : Jvm.MethodName) jdk_42_method_149_code (6 : Nat) (Option.none : Option Jvm.ClassFile.FieldType)).before args0 about1 = true := code_word (m := ⟨8, 2⟩) (meth := k8m2) (c := k8c2) (by decide +kernel) rfl rfl rfl (by decide +kernel)
set_option maxRecDepth 65536 in
theorem w_c3 : (Jvm.Cond.code ({ cls := "java/lang/Object", name := "<init>", desc := "()V" } : Jvm.MethodName) object_method_1_code (1 : Nat) (Option.none : Option Jvm.ClassFile.FieldType)).before args0 about1 = true := code_word (m := ⟨0, 0⟩) (meth := k0m0) (c := k0c0) (by decide +kernel) rfl rfl rfl (by decide +kernel)
set_option maxRecDepth 65536 in
theorem w_c4 : (Jvm.Cond.code ({ cls := "java/lang/StringUTF16", name := "compress", desc := "([CII)[B" } : Jvm.MethodName) jdk_52_method_16_code (6 : Nat) (Option.some (Jvm.ClassFile.FieldType.array Jvm.ClassFile.FieldType.byte))).before args0 about1 = true := code_word (m := ⟨9, 2⟩) (meth := k9m2) (c := k9c2) (by decide +kernel) rfl rfl rfl (by decide +kernel)
set_option maxRecDepth 65536 in
theorem w_c5 : (Jvm.Cond.code ({ cls := "java/lang/StringUTF16", name := "compress", desc := "([CI[BII)I" } : Jvm.MethodName) jdk_52_method_21_code (7 : Nat) (Option.some Jvm.ClassFile.FieldType.int)).before args0 about1 = true := code_word (m := ⟨9, 3⟩) (meth := k9m3) (c := k9c3) (by decide +kernel) rfl rfl rfl (by decide +kernel)
set_option maxRecDepth 65536 in
theorem w_c6 : (Jvm.Cond.code ({ cls := "java/lang/StringUTF16", name := "coderFromArrayLen", desc := "([BI)B" } : Jvm.MethodName) jdk_52_method_15_code (2 : Nat) (Option.some Jvm.ClassFile.FieldType.byte)).before args0 about1 = true := code_word (m := ⟨9, 1⟩) (meth := k9m1) (c := k9c1) (by decide +kernel) rfl rfl rfl (by decide +kernel)
set_option maxRecDepth 65536 in
theorem w_c7 : (Jvm.Cond.code ({ cls := "com/example/forget_by_time/forgetbytime/engine/TableName", name := "<init>", desc := "(Ljava/lang/String;Ljava/lang/String;)V" } : Jvm.MethodName) prog_13_method_1_code (3 : Nat) (Option.none : Option Jvm.ClassFile.FieldType)).before args0 about1 = true := code_word (m := ⟨3, 0⟩) (meth := k3m0) (c := k3c0) (by decide +kernel) rfl rfl rfl (by decide +kernel)
set_option maxRecDepth 65536 in
theorem w_c8 : (Jvm.Cond.code ({ cls := "java/util/Objects", name := "requireNonNull", desc := "(Ljava/lang/Object;Ljava/lang/String;)Ljava/lang/Object;" } : Jvm.MethodName) jdk_31_method_11_code (2 : Nat) (Option.some (Jvm.ClassFile.FieldType.object "java/lang/Object"))).before args0 about1 = true := code_word (m := ⟨10, 1⟩) (meth := k10m1) (c := k10c1) (by decide +kernel) rfl rfl rfl (by decide +kernel)
set_option maxRecDepth 65536 in
theorem w_c9 : (Jvm.Cond.code ({ cls := "com/example/forget_by_time/forgetbytime/engine/TableSweep", name := "paused", desc := "(Lcom/example/forget_by_time/forgetbytime/engine/TableName;)Lcom/example/forget_by_time/forgetbytime/engine/TableSweep;" } : Jvm.MethodName) prog_15_method_3_code (1 : Nat) (Option.some (Jvm.ClassFile.FieldType.object "com/example/forget_by_time/forgetbytime/engine/TableSweep"))).before args0 about1 = true := code_word (m := ⟨11, 2⟩) (meth := k11m2) (c := k11c2) (by decide +kernel) rfl rfl rfl (by decide +kernel)
set_option maxRecDepth 65536 in
theorem w_c10 : (Jvm.Cond.code ({ cls := "com/example/forget_by_time/forgetbytime/engine/TableSweep", name := "<init>", desc := "(Lcom/example/forget_by_time/forgetbytime/engine/TableName;JJZ)V" } : Jvm.MethodName) prog_15_method_2_code (7 : Nat) (Option.none : Option Jvm.ClassFile.FieldType)).before args0 about1 = true := code_word (m := ⟨11, 1⟩) (meth := k11m1) (c := k11c1) (by decide +kernel) rfl rfl rfl (by decide +kernel)
set_option maxRecDepth 65536 in
theorem w_c11 : (Jvm.Cond.code ({ cls := "com/example/forget_by_time/forgetbytime/engine/TableSweep", name := "<init>", desc := "(Lcom/example/forget_by_time/forgetbytime/engine/TableName;JJ)V" } : Jvm.MethodName) prog_15_method_1_code (6 : Nat) (Option.none : Option Jvm.ClassFile.FieldType)).before args0 about1 = true := code_word (m := ⟨11, 0⟩) (meth := k11m0) (c := k11c0) (by decide +kernel) rfl rfl rfl (by decide +kernel)
set_option maxRecDepth 65536 in
theorem w_c12 : (Jvm.Cond.code ({ cls := "com/example/forget_by_time/forgetbytime/engine/TableSweep", name := "table", desc := "()Lcom/example/forget_by_time/forgetbytime/engine/TableName;" } : Jvm.MethodName) prog_15_method_4_code (1 : Nat) (Option.some (Jvm.ClassFile.FieldType.object "com/example/forget_by_time/forgetbytime/engine/TableName"))).before args0 about1 = true := code_word (m := ⟨11, 3⟩) (meth := k11m3) (c := k11c3) (by decide +kernel) rfl rfl rfl (by decide +kernel)
set_option maxRecDepth 65536 in
theorem w_c13 : (Jvm.Cond.code ({ cls := "com/example/forget_by_time/forgetbytime/engine/TableSweep", name := "deleted", desc := "()J" } : Jvm.MethodName) prog_15_method_5_code (1 : Nat) (Option.some Jvm.ClassFile.FieldType.long)).before args0 about1 = true := code_word (m := ⟨11, 4⟩) (meth := k11m4) (c := k11c4) (by decide +kernel) rfl rfl rfl (by decide +kernel)
set_option maxRecDepth 65536 in
theorem w_c14 : (Jvm.Cond.code ({ cls := "com/example/forget_by_time/forgetbytime/engine/TableSweep", name := "remainingExpired", desc := "()J" } : Jvm.MethodName) prog_15_method_6_code (1 : Nat) (Option.some Jvm.ClassFile.FieldType.long)).before args0 about1 = true := code_word (m := ⟨11, 5⟩) (meth := k11m5) (c := k11c5) (by decide +kernel) rfl rfl rfl (by decide +kernel)
set_option maxRecDepth 65536 in
theorem w_c15 : (Jvm.Cond.code ({ cls := "com/example/forget_by_time/forgetbytime/engine/TableSweep", name := "paused", desc := "()Z" } : Jvm.MethodName) prog_15_method_7_code (1 : Nat) (Option.some Jvm.ClassFile.FieldType.boolean)).before args0 about1 = true := code_word (m := ⟨11, 6⟩) (meth := k11m6) (c := k11c6) (by decide +kernel) rfl rfl rfl (by decide +kernel)
def codes1 : List Jvm.Cond := [Jvm.Cond.code x code maxLocals ret, Jvm.Cond.code ({ cls := "java/lang/String", name := "<init>", desc := "([C)V" } : Jvm.MethodName) jdk_42_method_3_code (2 : Nat) (Option.none : Option Jvm.ClassFile.FieldType), Jvm.Cond.code ({ cls := "java/lang/String", name := "<init>", desc := "([CIILjava/lang/Void;)V" } : Jvm.MethodName) jdk_42_method_149_code (6 : Nat) (Option.none : Option Jvm.ClassFile.FieldType), Jvm.Cond.code ({ cls := "java/lang/Object", name := "<init>", desc := "()V" } : Jvm.MethodName) object_method_1_code (1 : Nat) (Option.none : Option Jvm.ClassFile.FieldType), Jvm.Cond.code ({ cls := "java/lang/StringUTF16", name := "compress", desc := "([CII)[B" } : Jvm.MethodName) jdk_52_method_16_code (6 : Nat) (Option.some (Jvm.ClassFile.FieldType.array Jvm.ClassFile.FieldType.byte)), Jvm.Cond.code ({ cls := "java/lang/StringUTF16", name := "compress", desc := "([CI[BII)I" } : Jvm.MethodName) jdk_52_method_21_code (7 : Nat) (Option.some Jvm.ClassFile.FieldType.int), Jvm.Cond.code ({ cls := "java/lang/StringUTF16", name := "coderFromArrayLen", desc := "([BI)B" } : Jvm.MethodName) jdk_52_method_15_code (2 : Nat) (Option.some Jvm.ClassFile.FieldType.byte), Jvm.Cond.code ({ cls := "com/example/forget_by_time/forgetbytime/engine/TableName", name := "<init>", desc := "(Ljava/lang/String;Ljava/lang/String;)V" } : Jvm.MethodName) prog_13_method_1_code (3 : Nat) (Option.none : Option Jvm.ClassFile.FieldType), Jvm.Cond.code ({ cls := "java/util/Objects", name := "requireNonNull", desc := "(Ljava/lang/Object;Ljava/lang/String;)Ljava/lang/Object;" } : Jvm.MethodName) jdk_31_method_11_code (2 : Nat) (Option.some (Jvm.ClassFile.FieldType.object "java/lang/Object")), Jvm.Cond.code ({ cls := "com/example/forget_by_time/forgetbytime/engine/TableSweep", name := "paused", desc := "(Lcom/example/forget_by_time/forgetbytime/engine/TableName;)Lcom/example/forget_by_time/forgetbytime/engine/TableSweep;" } : Jvm.MethodName) prog_15_method_3_code (1 : Nat) (Option.some (Jvm.ClassFile.FieldType.object "com/example/forget_by_time/forgetbytime/engine/TableSweep")), Jvm.Cond.code ({ cls := "com/example/forget_by_time/forgetbytime/engine/TableSweep", name := "<init>", desc := "(Lcom/example/forget_by_time/forgetbytime/engine/TableName;JJZ)V" } : Jvm.MethodName) prog_15_method_2_code (7 : Nat) (Option.none : Option Jvm.ClassFile.FieldType), Jvm.Cond.code ({ cls := "com/example/forget_by_time/forgetbytime/engine/TableSweep", name := "<init>", desc := "(Lcom/example/forget_by_time/forgetbytime/engine/TableName;JJ)V" } : Jvm.MethodName) prog_15_method_1_code (6 : Nat) (Option.none : Option Jvm.ClassFile.FieldType), Jvm.Cond.code ({ cls := "com/example/forget_by_time/forgetbytime/engine/TableSweep", name := "table", desc := "()Lcom/example/forget_by_time/forgetbytime/engine/TableName;" } : Jvm.MethodName) prog_15_method_4_code (1 : Nat) (Option.some (Jvm.ClassFile.FieldType.object "com/example/forget_by_time/forgetbytime/engine/TableName")), Jvm.Cond.code ({ cls := "com/example/forget_by_time/forgetbytime/engine/TableSweep", name := "deleted", desc := "()J" } : Jvm.MethodName) prog_15_method_5_code (1 : Nat) (Option.some Jvm.ClassFile.FieldType.long), Jvm.Cond.code ({ cls := "com/example/forget_by_time/forgetbytime/engine/TableSweep", name := "remainingExpired", desc := "()J" } : Jvm.MethodName) prog_15_method_6_code (1 : Nat) (Option.some Jvm.ClassFile.FieldType.long), Jvm.Cond.code ({ cls := "com/example/forget_by_time/forgetbytime/engine/TableSweep", name := "paused", desc := "()Z" } : Jvm.MethodName) prog_15_method_7_code (1 : Nat) (Option.some Jvm.ClassFile.FieldType.boolean)]
set_option maxRecDepth 65536 in
theorem codes_eq : words1.filter isCode = codes1 := rfl
theorem w_codes : ∀ c ∈ words1.filter isCode, c.before args0 about1 = true := by
  rw [codes_eq]
  intro c hc
  simp only [codes1, List.mem_cons, List.not_mem_nil, or_false] at hc
  rcases hc with rfl | rfl | rfl | rfl | rfl | rfl | rfl | rfl | rfl | rfl | rfl | rfl | rfl | rfl | rfl | rfl
  · exact w_c0
  · exact w_c1
  · exact w_c2
  · exact w_c3
  · exact w_c4
  · exact w_c5
  · exact w_c6
  · exact w_c7
  · exact w_c8
  · exact w_c9
  · exact w_c10
  · exact w_c11
  · exact w_c12
  · exact w_c13
  · exact w_c14
  · exact w_c15
set_option maxRecDepth 65536 in
theorem w_t1 : (words1.take 24).all (fun c => isCode c || c.before args0 about1) = true := by decide +kernel
set_option maxRecDepth 65536 in
theorem w_t2 : ((words1.drop 24).take 24).all (fun c => isCode c || c.before args0 about1) = true := by decide +kernel
set_option maxRecDepth 65536 in
theorem w_t3 : (((words1.drop 24).drop 24).take 24).all (fun c => isCode c || c.before args0 about1) = true := by decide +kernel
set_option maxRecDepth 65536 in
theorem w_t4 : (((words1.drop 24).drop 24).drop 24).all (fun c => isCode c || c.before args0 about1) = true := by decide +kernel
theorem w_tables : (allAtoms (Jvm.Cond.code x code maxLocals ret :: tables_1)).before args0 about1 = true := by
  rw [allAtoms_all]
  show words1.all (fun c => c.before args0 about1) = true
  refine all_split ?_ w_codes
  rw [← List.take_append_drop 24 words1, List.all_append, w_t1, ← List.take_append_drop 24 (words1.drop 24), List.all_append, w_t2, ← List.take_append_drop 24 ((words1.drop 24).drop 24), List.all_append, w_t3, w_t4]
  rfl
set_option maxRecDepth 65536 in
theorem w_rest : rest_1_c.before args0 about1 = true := by decide +kernel
set_option maxRecDepth 65536 in
theorem w_case : (Jvm.Cond.and given_1 narrow_1).before args0 about1 = true := by decide +kernel
theorem w_applies : (headSpec (Jvm.Cond.code x code maxLocals ret :: tables_1) room_1).applies x e0.platform about1 = true :=
  (Spec.applies_iff w_frames).mpr ⟨w_running, w_runnable, w_alone, w_named, w_hears, w_ripe, w_room, w_tables⟩
theorem atStart : AtStart classFile x code maxLocals ret World_1 tables_1 room_1 Calls_1 rest_1 Pre_1 launch0 p0 e0 about1 theMethod args0 below0 :=
  ⟨lists_1, trivial, launch0.admits_env _ _ _, launch0.least_env, fairChoices_fair.cas, fairChoices_fair.clock, w_frames, w_args, w_heap, w_applies, trivial, w_rest, w_case⟩
end start1
theorem witness_1 : WitnessClaimed_1 := ⟨start1.p0, start1.e0, start1.about1, start1.theMethod, start1.args0, start1.below0, start1.atStart⟩
end Jvm.Pilot.@@N@@
