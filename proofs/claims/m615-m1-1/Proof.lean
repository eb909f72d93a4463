import JvmDerived
import JvmDerived.Pilot.@@N@@Statement
import JvmDerived.Pilot.@@N@@Code
set_option linter.unusedVariables false
set_option linter.unusedSimpArgs false
/- laws to paste: Road.backV, Road.codOf, Road.lenW, pair_says (cut by pick.py; bodies as the Statement names them) -/
namespace Jvm.Pilot.@@N@@
namespace StrChars
open Jvm Sem ClassFile Op Lib Jvm.Stand Jvm.Free.XT Jvm.Free.ALB Jvm.Free.JM Jvm.Free
open Jvm.Lib.Cold (StaticIs)
/-- a char array whose places are chars -/
def Ch (a : Addr) (A : Cell) (U : State) : Prop := Arr .char a A U ∧ Typed .char A
theorem Ch.mv {a : Addr} {A : Cell} {U U' : State} (h : Ch a A U) (hal : U.vm.Alike U'.vm) (hh : U'.heap = U.heap) : Ch a A U' := ⟨h.1.mv hal hh, h.2⟩
theorem Ch.keep {a : Addr} {A : Cell} {U U' : State} (h : Ch a A U) (hal : U.vm.Alike U'.vm) (hk : U'.heap[a]? = some A) : Ch a A U' := ⟨h.1.keep hal hk, h.2⟩
/-- what place i of a char[]'s cell holds -/
def cv (A : Cell) (i : Nat) : Int32 := match A.slots[i]? with | some (.int x) => x | _ => 0
theorem Ch.get {a : Addr} {A : Cell} {U : State} (h : Ch a A U) {i : Nat} (hi : i < A.slots.size) : A.slots[i]? = some (.int (cv A i)) := by
  have e := Array.getElem?_eq_getElem hi
  have f := h.2 i _ e
  unfold cv; rw [e]
  generalize A.slots[i] = v at f
  cases v <;> simp [fits] at f ⊢
/-- the byte that i2b leaves of a char -/
def lo8 (x : Int32) : Int32 := x.toInt8.toInt32
theorem fits_lo8 (y : Int32) : fits .byte (.int (lo8 y)) = true := by
  have h1 := y.toInt8.le_toInt
  have h2 := y.toInt8.toInt_lt
  simp only [lo8, fits, Bool.and_eq_true, decide_eq_true_eq, Int32.le_iff_toInt_le, Int8.toInt_toInt32, show (-128 : Int32).toInt = -128 from by decide, show (127 : Int32).toInt = 127 from by decide]
  omega
/-- A' is A but that each place j of lo .. hi - 1 holds f j -/
def Laid (A A' : Cell) (lo hi : Nat) (f : Nat → Value) : Prop := A'.cls = A.cls ∧ A'.vm = A.vm ∧ A'.slots.size = A.slots.size ∧ ∀ i, A'.slots[i]? = if lo ≤ i ∧ i < hi then some (f i) else A.slots[i]?
theorem Laid.zero (A : Cell) (lo : Nat) (f : Nat → Value) : Laid A A lo (lo + 0) f := ⟨rfl, rfl, rfl, fun i => by rw [if_neg (by omega)]⟩
theorem Laid.step {A Ak : Cell} {lo k : Nat} {f : Nat → Value} {v : Value} (h : Laid A Ak lo k f) (hlo : lo ≤ k) (hk : k < Ak.slots.size) (hv : v = f k) : Laid A (Ak.setSlot k v) lo (k + 1) f := by
  refine ⟨h.1, h.2.1, by simpa [Cell.setSlot] using h.2.2.1, fun i => ?_⟩
  by_cases e : k = i
  · subst e; rw [Cell.slots_setSlot_self v hk, if_pos (by omega), hv]
  · rw [Cell.slots_setSlot_ne v e, h.2.2.2 i]
    by_cases q : lo ≤ i ∧ i < k
    · rw [if_pos q, if_pos (by omega)]
    · rw [if_neg q, if_neg (by omega)]
def U16 : String := "java/lang/StringUTF16"
namespace Cmp5
def yN : MethodName := ⟨"java/lang/StringUTF16", "compress", "([CI[BII)I"⟩
abbrev yB : ByteArray := jdk_52_method_21_code
theorem d0 : decode yB 0 = .ok (.iconst 0, 1) := by decide +kernel
theorem d1 : decode yB 1 = .ok (.istore 5, 2) := by decide +kernel
theorem d3 : decode yB 3 = .ok (.iload 5, 2) := by decide +kernel
theorem d5 : decode yB 5 = .ok (.iload 4, 2) := by decide +kernel
theorem d7 : decode yB 7 = .ok (.if_icmp (.ge) 37, 3) := by decide +kernel
theorem d10 : decode yB 10 = .ok (.aload_n 0, 1) := by decide +kernel
theorem d11 : decode yB 11 = .ok (.iload_n 1, 1) := by decide +kernel
theorem d12 : decode yB 12 = .ok (.caload, 1) := by decide +kernel
theorem d13 : decode yB 13 = .ok (.istore 6, 2) := by decide +kernel
theorem d15 : decode yB 15 = .ok (.iload 6, 2) := by decide +kernel
theorem d17 : decode yB 17 = .ok (.sipush 255, 3) := by decide +kernel
theorem d20 : decode yB 20 = .ok (.if_icmp (.le) 6, 3) := by decide +kernel
theorem d26 : decode yB 26 = .ok (.aload_n 2, 1) := by decide +kernel
theorem d27 : decode yB 27 = .ok (.iload_n 3, 1) := by decide +kernel
theorem d28 : decode yB 28 = .ok (.iload 6, 2) := by decide +kernel
theorem d30 : decode yB 30 = .ok (.i2b, 1) := by decide +kernel
theorem d31 : decode yB 31 = .ok (.bastore, 1) := by decide +kernel
theorem d32 : decode yB 32 = .ok (.iinc 1 1, 3) := by decide +kernel
theorem d35 : decode yB 35 = .ok (.iinc 3 1, 3) := by decide +kernel
theorem d38 : decode yB 38 = .ok (.iinc 5 1, 3) := by decide +kernel
theorem d41 : decode yB 41 = .ok (.goto (-38), 3) := by decide +kernel
theorem d44 : decode yB 44 = .ok (.iload 4, 2) := by decide +kernel
theorem d46 : decode yB 46 = .ok (.ireturn, 1) := by decide +kernel
def site : List Cond := []
def tab : Cond := tabOf yN yB 7 (some .int) site
def P (b : Addr) (A : Cell) (d : Addr) (B : Cell) (o q len : Nat) (args : Array Value) (s : State) : Prop := args = #[.ref b, .int (Int32.ofNat o), .ref d, .int (Int32.ofNat q), .int (Int32.ofNat len)] ∧ Ch b A s ∧ Arr .byte d B s ∧ b ≠ d ∧ o + len ≤ A.slots.size ∧ q + len ≤ B.slots.size ∧ ∀ i, i < len → ¬ 255 < cv A (o + i)
def E (b : Addr) (A : Cell) (d : Addr) (B : Cell) (o q len : Nat) (r : Option Value) (s u : State) : Prop := r = some (.int (Int32.ofNat len)) ∧ ∃ B', Put d B' s u ∧ Laid B B' q (q + len) (fun j => Value.int (lo8 (cv A (o + (j - q)))))
/-- no char of the range above 255: len; the places written hold each char's low byte -/
theorem law (l : Launch) (b : Addr) (A : Cell) (d : Addr) (B : Cell) (o q len : Nat) : Law l yN 5 5 0 0 yB 7 (some .int) site (P b A d B o q len) (E b A d B o q len) (copyLocs d q len) 0 0 := by
  refine Law.of_walk (plainFor_of_name (by decide +kernel)) (by decide +kernel) (by decide +kernel) (by decide) (fun _ _ h => by rw [h.1]; rfl) (fun _ U U' hal hh h => ⟨h.1, h.2.1.mv hal hh, h.2.2.1.mv hal hh, h.2.2.2⟩) (fun r U U' V V' h1 hal h2 h => ⟨h.1, h.2.elim fun B' q => ⟨B', q.1.mv h1 h2, q.2⟩⟩) ?_
  intro p e s m args below meth c s₁ X0 hexec hbytes hml hret hlk hnm hown hh0 W hP
  obtain ⟨rfl, hA, hB, hne, l1, l2, hp⟩ := hP
  have c1 : Steps p.tables e below (s₁.setTop (entryFrame m #[.ref b, .int (Int32.ofNat o), .ref d, .int (Int32.ofNat q), .int (Int32.ofNat len)] 7)) (s₁.setTop (mkF m 0 #[.val (.ref b), .val (.int (Int32.ofNat o)), .val (.ref d), .val (.int (Int32.ofNat q)), .val (.int (Int32.ofNat len)), .unset, .unset] [])) := entry rfl
  have hA0 := hA.1.mv X0.warmed.alike hh0
  have hB0 := hB.mv X0.warmed.alike hh0
  have a31 := hA.1.2.2.2
  have c2 : Steps p.tables e below (s₁.setTop (entryFrame m #[.ref b, .int (Int32.ofNat o), .ref d, .int (Int32.ofNat q), .int (Int32.ofNat len)] 7)) (s₁.setTop (mkF m 3 #[.val (.ref b), .val (.int (Int32.ofNat o)), .val (.ref d), .val (.int (Int32.ofNat q)), .val (.int (Int32.ofNat len)), .val (.int 0), .unset] [])) := c1.trans (by
    refine iconstV X0.here hexec rfl 0 (hb hbytes d0) (by decide) ?_
    refine XS.istore X0.here hexec rfl (hb hbytes d1) rfl rfl ?_
    exact Steps.refl _)
  have loop : ∀ (r i : Nat), i + r = len → ∀ (z : Slot), (z = .unset ∨ ∃ w, z = .val w ∧ w.category = 1) → ∀ (Tl : State) (Bk : Cell), Stand p l e { frames := 0, locals := 0, cells := 0, slots := 0 } s m #[.ref b, .int (Int32.ofNat o), .ref d, .int (Int32.ofNat q), .int (Int32.ofNat len)] below meth c Tl ([] ++ copyLocs d q i) 0 0 → Put d Bk s₁ Tl → Laid B Bk q (q + i) (fun j => Value.int (lo8 (cv A (o + (j - q))))) →
      Steps p.tables e below (s₁.setTop (entryFrame m #[.ref b, .int (Int32.ofNat o), .ref d, .int (Int32.ofNat q), .int (Int32.ofNat len)] 7)) (Tl.setTop (mkF m 3 #[.val (.ref b), .val (.int (Int32.ofNat (o + i))), .val (.ref d), .val (.int (Int32.ofNat (q + i))), .val (.int (Int32.ofNat len)), .val (.int (Int32.ofNat i)), z] [])) → ∃ (T' : State) (B' : Cell) (z' : Slot), Stand p l e { frames := 0, locals := 0, cells := 0, slots := 0 } s m #[.ref b, .int (Int32.ofNat o), .ref d, .int (Int32.ofNat q), .int (Int32.ofNat len)] below meth c T' ([] ++ copyLocs d q len) 0 0 ∧ Put d B' s₁ T' ∧ Laid B B' q (q + len) (fun j => Value.int (lo8 (cv A (o + (j - q))))) ∧
      Steps p.tables e below (s₁.setTop (entryFrame m #[.ref b, .int (Int32.ofNat o), .ref d, .int (Int32.ofNat q), .int (Int32.ofNat len)] 7)) (T'.setTop (mkF m 3 #[.val (.ref b), .val (.int (Int32.ofNat (o + len))), .val (.ref d), .val (.int (Int32.ofNat (q + len))), .val (.int (Int32.ofNat len)), .val (.int (Int32.ofNat len)), z'] [])) := by
    intro r
    induction r with
    | zero =>
      intro i hi z hz Tl Bk Xl pl fl cl
      have hil : i = len := by omega
      rw [hil] at Xl fl cl
      exact ⟨Tl, Bk, z, Xl, pl, fl, cl⟩
    | succ r ih =>
      intro i hi z hz Tl Bk Xl pl fl cl
      have all := X0.warmed.alike.symm.trans Xl.warmed.alike
      have hAl := hA0.keep all (pl.other hne hA0.1)
      have hBk := hB0.like all pl.1 fl.1 fl.2.1 fl.2.2.1
      have hlt : q + i < Bk.slots.size := by rw [fl.2.2.1]; omega
      have c3 : Steps p.tables e below (s₁.setTop (entryFrame m #[.ref b, .int (Int32.ofNat o), .ref d, .int (Int32.ofNat q), .int (Int32.ofNat len)] 7)) (Tl.setTop (mkF m 12 #[.val (.ref b), .val (.int (Int32.ofNat (o + i))), .val (.ref d), .val (.int (Int32.ofNat (q + i))), .val (.int (Int32.ofNat len)), .val (.int (Int32.ofNat i)), z] [.int (Int32.ofNat (o + i)), .ref b])) := cl.trans (by
        refine XS.iload Xl.here hexec rfl (hb hbytes d3) rfl ?_
        refine XS.iload Xl.here hexec rfl (hb hbytes d5) rfl ?_
        refine XS.icmpNo Xl.here hexec rfl (hb hbytes d7) rfl (ii_ge_f (lt32 (by omega) (by omega))) ?_
        refine XS.aloadN Xl.here hexec rfl (hb hbytes d10) rfl rfl ?_
        refine XS.iloadN Xl.here hexec rfl (hb hbytes d11) rfl ?_
        exact Steps.refl _)
      have c4 : Steps p.tables e below (s₁.setTop (entryFrame m #[.ref b, .int (Int32.ofNat o), .ref d, .int (Int32.ofNat q), .int (Int32.ofNat len)] 7)) (Tl.setTop (mkF m 13 #[.val (.ref b), .val (.int (Int32.ofNat (o + i))), .val (.ref d), .val (.int (Int32.ofNat (q + i))), .val (.int (Int32.ofNat len)), .val (.int (Int32.ofNat i)), z] [.int (cv A (o + i))])) := c3.trans (by
        refine Xl.aget hexec hAl rfl (hA.get (i := o + i) (by omega)) rfl rfl (hb hbytes d12) ?_
        exact Steps.refl _)
      have c5 : Steps p.tables e below (s₁.setTop (entryFrame m #[.ref b, .int (Int32.ofNat o), .ref d, .int (Int32.ofNat q), .int (Int32.ofNat len)] 7)) (Tl.setTop (mkF m 15 #[.val (.ref b), .val (.int (Int32.ofNat (o + i))), .val (.ref d), .val (.int (Int32.ofNat (q + i))), .val (.int (Int32.ofNat len)), .val (.int (Int32.ofNat i)), .val (.int (cv A (o + i)))] [])) := c4.trans (by
        refine XS.istoreS Xl.here hexec rfl (hb hbytes d13) rfl rfl hz ?_
        exact Steps.refl _)
      have c6 : Steps p.tables e below (s₁.setTop (entryFrame m #[.ref b, .int (Int32.ofNat o), .ref d, .int (Int32.ofNat q), .int (Int32.ofNat len)] 7)) (Tl.setTop (mkF m 31 #[.val (.ref b), .val (.int (Int32.ofNat (o + i))), .val (.ref d), .val (.int (Int32.ofNat (q + i))), .val (.int (Int32.ofNat len)), .val (.int (Int32.ofNat i)), .val (.int (cv A (o + i)))] [.int (lo8 (cv A (o + i))), .int (Int32.ofNat (q + i)), .ref d])) := c5.trans (by
        refine XS.iload Xl.here hexec rfl (hb hbytes d15) rfl ?_
        refine sipushV Xl.here hexec rfl 255 (hb hbytes d17) (by decide) ?_
        refine XS.icmpYes Xl.here hexec rfl (pc0 := 20) rfl (hb hbytes d20) rfl (ii_le_t (hp i (by omega))) (by decide) rfl ?_
        refine XS.aloadN Xl.here hexec rfl (hb hbytes d26) rfl rfl ?_
        refine XS.iloadN Xl.here hexec rfl (hb hbytes d27) rfl ?_
        refine XS.iload Xl.here hexec rfl (hb hbytes d28) rfl ?_
        refine i2b Xl.here hexec rfl (hb hbytes d30) rfl ?_
        exact Steps.refl _)
      obtain ⟨T7, X7, p7, st7⟩ := Xl.aput hexec hBk rfl hlt rfl (fits_lo8 (cv A (o + i))) (g := (mkF m 31 #[.val (.ref b), .val (.int (Int32.ofNat (o + i))), .val (.ref d), .val (.int (Int32.ofNat (q + i))), .val (.int (Int32.ofNat len)), .val (.int (Int32.ofNat i)), .val (.int (cv A (o + i)))] [.int (lo8 (cv A (o + i))), .int (Int32.ofNat (q + i)), .ref d])) rfl (rest := []) rfl (hb hbytes d31)
      have c8 : Steps p.tables e below (s₁.setTop (entryFrame m #[.ref b, .int (Int32.ofNat o), .ref d, .int (Int32.ofNat q), .int (Int32.ofNat len)] 7)) (T7.setTop (mkF m 32 #[.val (.ref b), .val (.int (Int32.ofNat (o + i))), .val (.ref d), .val (.int (Int32.ofNat (q + i))), .val (.int (Int32.ofNat len)), .val (.int (Int32.ofNat i)), .val (.int (cv A (o + i)))] [])) := c6.trans (st7 _ (Steps.refl _))
      have c9 : Steps p.tables e below (s₁.setTop (entryFrame m #[.ref b, .int (Int32.ofNat o), .ref d, .int (Int32.ofNat q), .int (Int32.ofNat len)] 7)) (T7.setTop (mkF m 3 #[.val (.ref b), .val (.int (Int32.ofNat (o + i) + 1)), .val (.ref d), .val (.int (Int32.ofNat (q + i) + 1)), .val (.int (Int32.ofNat len)), .val (.int (Int32.ofNat i + 1)), .val (.int (cv A (o + i)))] [])) := c8.trans (by
        refine iincV X7.here hexec rfl 1 (hb hbytes d32) (by decide) rfl rfl ?_
        refine iincV X7.here hexec rfl 1 (hb hbytes d35) (by decide) rfl rfl ?_
        refine iincV X7.here hexec rfl 1 (hb hbytes d38) (by decide) rfl rfl ?_
        refine XS.goto X7.here hexec rfl (pc0 := 41) rfl (hb hbytes d41) (by decide) rfl ?_
        exact Steps.refl _)
      have c10 : Steps p.tables e below (s₁.setTop (entryFrame m #[.ref b, .int (Int32.ofNat o), .ref d, .int (Int32.ofNat q), .int (Int32.ofNat len)] 7)) (T7.setTop (mkF m 3 #[.val (.ref b), .val (.int (Int32.ofNat (o + (i + 1)))), .val (.ref d), .val (.int (Int32.ofNat (q + (i + 1)))), .val (.int (Int32.ofNat len)), .val (.int (Int32.ofNat (i + 1))), .val (.int (cv A (o + i)))] [])) := by
        have := c9
        rw [succ32, succ32, succ32] at this
        exact this
      exact ih (i + 1) (by omega) _ (Or.inr ⟨_, rfl, rfl⟩) T7 _ (by rw [copyLocs_step, ← List.append_assoc]; exact X7) (pl.trans p7) (fl.step (by omega) hlt (by simp)) c10
  obtain ⟨T9, B9, z9, X9, p9, f9, g9⟩ := loop len 0 (by omega) .unset (Or.inl rfl) s₁ B (by simpa [copyLocs] using X0) ⟨hB0.1, fun _ _ => rfl, rfl⟩ (Laid.zero _ _ _) c2
  have c11 : Steps p.tables e below (s₁.setTop (entryFrame m #[.ref b, .int (Int32.ofNat o), .ref d, .int (Int32.ofNat q), .int (Int32.ofNat len)] 7)) (T9.setTop (mkF m 46 #[.val (.ref b), .val (.int (Int32.ofNat (o + len))), .val (.ref d), .val (.int (Int32.ofNat (q + len))), .val (.int (Int32.ofNat len)), .val (.int (Int32.ofNat len)), z9] [.int (Int32.ofNat len)])) := g9.trans (by
    refine XS.iload X9.here hexec rfl (hb hbytes d3) rfl ?_
    refine XS.iload X9.here hexec rfl (hb hbytes d5) rfl ?_
    refine XS.icmpYes X9.here hexec rfl (pc0 := 7) rfl (hb hbytes d7) rfl (ii_ge_t (nlt32 (by omega) (Nat.le_refl _))) (by decide) rfl ?_
    refine XS.iload X9.here hexec rfl (hb hbytes d44) rfl ?_
    exact Steps.refl _)
  exact ⟨T9, some (.int (Int32.ofNat len)), _, _, _, X9, by simp, rfl, rfl, (fun h => by cases h), ⟨rfl, B9, p9.from hh0, f9⟩, fun fs hl => c11.trans (X9.ireturnOut hexec hret rfl (Or.inl rfl) (hb hbytes d46) hl)⟩
end Cmp5
namespace Cmp3
def yN : MethodName := ⟨"java/lang/StringUTF16", "compress", "([CII)[B"⟩
abbrev yB : ByteArray := jdk_52_method_16_code
theorem d0 : decode yB 0 = .ok (.iload_n 2, 1) := by decide +kernel
theorem d1 : decode yB 1 = .ok (.newarray .byte, 2) := by decide +kernel
theorem d3 : decode yB 3 = .ok (.astore_n 3, 1) := by decide +kernel
theorem d4 : decode yB 4 = .ok (.aload_n 0, 1) := by decide +kernel
theorem d5 : decode yB 5 = .ok (.iload_n 1, 1) := by decide +kernel
theorem d6 : decode yB 6 = .ok (.aload_n 3, 1) := by decide +kernel
theorem d7 : decode yB 7 = .ok (.iconst 0, 1) := by decide +kernel
theorem d8 : decode yB 8 = .ok (.iload_n 2, 1) := by decide +kernel
theorem d9 : decode yB 9 = .ok (.invokestatic 115, 3) := by decide +kernel
theorem d12 : decode yB 12 = .ok (.istore 4, 2) := by decide +kernel
theorem d14 : decode yB 14 = .ok (.iload 4, 2) := by decide +kernel
theorem d16 : decode yB 16 = .ok (.iload_n 2, 1) := by decide +kernel
theorem d17 : decode yB 17 = .ok (.if_icmp (.eq) 40, 3) := by decide +kernel
theorem d57 : decode yB 57 = .ok (.aload_n 3, 1) := by decide +kernel
theorem d58 : decode yB 58 = .ok (.areturn, 1) := by decide +kernel
def site : List Cond := [.arrayClass .byte, Cmp5.tab] ++ staticW U16 115 Cmp5.yN
def tab : Cond := tabOf yN yB 6 (some (.array .byte)) site
def P (b : Addr) (A : Cell) (o len : Nat) (args : Array Value) (s : State) : Prop := args = #[.ref b, .int (Int32.ofNat o), .int (Int32.ofNat len)] ∧ Ch b A s ∧ o + len ≤ A.slots.size ∧ len ≤ 536870912 ∧ ∀ i, i < len → ¬ 255 < cv A (o + i)
def E (b : Addr) (A : Cell) (o len : Nat) (r : Option Value) (s u : State) : Prop := NewArr .byte "[B" len (fun j => .int (lo8 (cv A (o + j)))) r s u ∧ u.heap.size = s.heap.size + 1
/-- no char of the range above 255: a new byte[] of their low bytes -/
theorem law (l : Launch) (b : Addr) (A : Cell) (o len : Nat) : Law l yN 3 3 1 18 yB 6 (some (.array .byte)) site (P b A o len) (E b A o len) [] 1 len := by
  refine Law.of_walk (plainFor_of_name (by decide +kernel)) (by decide +kernel) (by decide +kernel) (by decide) (fun _ _ h => by rw [h.1]; rfl) (fun _ U U' hal hh h => ⟨h.1, h.2.1.mv hal hh, h.2.2⟩) (fun r U U' V V' h1 hal h2 h => ⟨NewArr.mv r U U' V V' h1 hal h2 h.1, by rw [h1, h2]; exact h.2⟩) ?_
  intro p e s m args below meth c s₁ X0 hexec hbytes hml hret hlk hnm hown hh0 W hP
  obtain ⟨rfl, hA, l1, l2, hp⟩ := hP
  have a31 := hA.1.2.2.2
  have c1 : Steps p.tables e below (s₁.setTop (entryFrame m #[.ref b, .int (Int32.ofNat o), .int (Int32.ofNat len)] 6)) (s₁.setTop (mkF m 0 #[.val (.ref b), .val (.int (Int32.ofNat o)), .val (.int (Int32.ofNat len)), .unset, .unset, .unset] [])) := entry rfl
  have c2 : Steps p.tables e below (s₁.setTop (entryFrame m #[.ref b, .int (Int32.ofNat o), .int (Int32.ofNat len)] 6)) (s₁.setTop (mkF m 1 #[.val (.ref b), .val (.int (Int32.ofNat o)), .val (.int (Int32.ofNat len)), .unset, .unset, .unset] [.int (Int32.ofNat len)])) := c1.trans (by
    refine XS.iloadN X0.here hexec rfl (hb hbytes d0) rfl ?_
    exact Steps.refl _)
  obtain ⟨T3, B3, X3, ba3, bs3, bv3, bh3, bf3, st3⟩ := X0.anew hexec (atype := .byte) (wk W (.arrayClass .byte)) rfl (by show len * 1 ≤ _; omega) (by omega) (g := (mkF m 1 #[.val (.ref b), .val (.int (Int32.ofNat o)), .val (.int (Int32.ofNat len)), .unset, .unset, .unset] [.int (Int32.ofNat len)])) rfl (hb hbytes d1) (rest := []) rfl (Nat.le_refl _) (by show 0 + len ≤ len; omega)
  rw [hh0] at ba3 st3
  have kp3 : XT.Kept s T3 := (XT.Kept.of_eq hh0).push bh3
  have hA3 := hA.keep X3.warmed.alike (kp3 _ _ hA.1.1)
  have hne : b ≠ s.heap.size := hA.1.ne
  have c4 : Steps p.tables e below (s₁.setTop (entryFrame m #[.ref b, .int (Int32.ofNat o), .int (Int32.ofNat len)] 6)) (T3.setTop (mkF m 3 #[.val (.ref b), .val (.int (Int32.ofNat o)), .val (.int (Int32.ofNat len)), .unset, .unset, .unset] [.ref s.heap.size])) := c2.trans (st3 _ (Steps.refl _))
  have c5 : Steps p.tables e below (s₁.setTop (entryFrame m #[.ref b, .int (Int32.ofNat o), .int (Int32.ofNat len)] 6)) (T3.setTop (mkF m 9 #[.val (.ref b), .val (.int (Int32.ofNat o)), .val (.int (Int32.ofNat len)), .val (.ref s.heap.size), .unset, .unset] [.int (Int32.ofNat len), .int 0, .ref s.heap.size, .int (Int32.ofNat o), .ref b])) := c4.trans (by
    refine XS.astoreN X3.here hexec rfl (hb hbytes d3) rfl rfl rfl ?_
    refine XS.aloadN X3.here hexec rfl (hb hbytes d4) rfl rfl ?_
    refine XS.iloadN X3.here hexec rfl (hb hbytes d5) rfl ?_
    refine XS.aloadN X3.here hexec rfl (hb hbytes d6) rfl rfl ?_
    refine iconstV X3.here hexec rfl 0 (hb hbytes d7) (by decide) ?_
    refine XS.iloadN X3.here hexec rfl (hb hbytes d8) rfl ?_
    exact Steps.refl _)
  obtain ⟨v6, T6, X6, E6, g6⟩ := X3.callS hexec (Cmp5.law l b A s.heap.size B3 o 0 len) hown (wks W (staticW U16 115 Cmp5.yN)) (wk W Cmp5.tab) (W := 0) (Nat.le_of_ble_eq_true rfl) (Nat.le_of_ble_eq_true rfl) (Nat.le_refl _) (by show 0 + len + 0 ≤ len; omega) (g := (mkF m 9 #[.val (.ref b), .val (.int (Int32.ofNat o)), .val (.int (Int32.ofNat len)), .val (.ref s.heap.size), .unset, .unset] [.int (Int32.ofNat len), .int (Int32.ofNat 0), .ref s.heap.size, .int (Int32.ofNat o), .ref b])) rfl (by rw [hml]; rfl) c5 (argsL := [.ref b, .int (Int32.ofNat o), .ref s.heap.size, .int (Int32.ofNat 0), .int (Int32.ofNat len)]) (rest := []) rfl rfl (by show 2 * 0 + 0 ≤ _; decide) (hb hbytes d9) (⟨rfl, hA3, ba3, hne, l1, by rw [bs3]; simp, hp⟩)
  obtain ⟨rfl, B6, p6, f6⟩ := E6
  have c7 : Steps p.tables e below (s₁.setTop (entryFrame m #[.ref b, .int (Int32.ofNat o), .int (Int32.ofNat len)] 6)) (T6.setTop (mkF m 12 #[.val (.ref b), .val (.int (Int32.ofNat o)), .val (.int (Int32.ofNat len)), .val (.ref s.heap.size), .unset, .unset] [.int (Int32.ofNat len)])) := g6
  have c8 : Steps p.tables e below (s₁.setTop (entryFrame m #[.ref b, .int (Int32.ofNat o), .int (Int32.ofNat len)] 6)) (T6.setTop (mkF m 58 #[.val (.ref b), .val (.int (Int32.ofNat o)), .val (.int (Int32.ofNat len)), .val (.ref s.heap.size), .val (.int (Int32.ofNat len)), .unset] [.ref s.heap.size])) := c7.trans (by
    refine XS.istore X6.here hexec rfl (hb hbytes d12) rfl rfl ?_
    refine XS.iload X6.here hexec rfl (hb hbytes d14) rfl ?_
    refine XS.iloadN X6.here hexec rfl (hb hbytes d16) rfl ?_
    refine XS.icmpYes X6.here hexec rfl (pc0 := 17) rfl (hb hbytes d17) rfl (ii_eq_t rfl) (by decide) rfl ?_
    refine XS.aloadN X6.here hexec rfl (hb hbytes d57) rfl rfl ?_
    exact Steps.refl _)
  have X8 := X6.wide (L' := []) (cells' := 1) (slots' := len) (fun x hx hlt => by
    simp only [List.nil_append, copyLocs, List.mem_map, List.mem_range] at hx
    obtain ⟨i, -, rfl⟩ := hx
    exact absurd hlt (Nat.lt_irrefl _)) (Nat.le_refl _) (by omega)
  exact ⟨T6, some (.ref s.heap.size), _, _, _, X8, rfl, rfl, rfl, (fun h => by cases h), ⟨⟨rfl, B6, ba3.like (X3.warmed.alike.symm.trans X6.warmed.alike) p6.1 f6.1 f6.2.1 f6.2.2.1, f6.2.1.trans bv3, by rw [X6.warmed.alike.findClass, f6.1]; exact bf3, by rw [f6.2.2.1, bs3]; simp, fun j hj => by rw [f6.2.2.2 j, if_pos (by omega)]; rfl, kp3.put p6 (Nat.le_refl _)⟩, by rw [p6.2.2, bh3, hh0]; simp⟩, fun fs hl => c8.trans (X8.areturnOut hexec rfl hret rfl (hb hbytes d58) hl)⟩
end Cmp3
namespace CodL
def yN : MethodName := ⟨"java/lang/StringUTF16", "coderFromArrayLen", "([BI)B"⟩
abbrev yB : ByteArray := jdk_52_method_15_code
theorem d0 : decode yB 0 = .ok (.iload_n 1, 1) := by decide +kernel
theorem d1 : decode yB 1 = .ok (.aload_n 0, 1) := by decide +kernel
theorem d2 : decode yB 2 = .ok (.arraylength, 1) := by decide +kernel
theorem d3 : decode yB 3 = .ok (.isub, 1) := by decide +kernel
theorem d4 : decode yB 4 = .ok (.bipush 31, 2) := by decide +kernel
theorem d6 : decode yB 6 = .ok (.iushr, 1) := by decide +kernel
theorem d7 : decode yB 7 = .ok (.i2b, 1) := by decide +kernel
theorem d8 : decode yB 8 = .ok (.ireturn, 1) := by decide +kernel
def site : List Cond := []
def tab : Cond := tabOf yN yB 2 (some .byte) site
def P (d : Addr) (B : Cell) (args : Array Value) (s : State) : Prop := args = #[.ref d, .int (Int32.ofNat B.slots.size)] ∧ Arr .byte d B s
def E (r : Option Value) (s u : State) : Prop := XT.PureE (some (.int 0)) r s u
/-- an array as long as the number of chars: LATIN1 -/
theorem law (l : Launch) (d : Addr) (B : Cell) : Law l yN 2 2 0 0 yB 2 (some .byte) site (P d B) E [] 0 0 := by
  refine Law.of_walk (plainFor_of_name (by decide +kernel)) (by decide +kernel) (by decide +kernel) (by decide) (fun _ _ h => by rw [h.1]; rfl) (fun _ U U' hal hh h => ⟨h.1, h.2.mv hal hh⟩) (fun r U U' V V' h1 hal h2 h => XT.PureE.mv r U U' V V' h1 hal h2 h) ?_
  intro p e s m args below meth c s₁ X0 hexec hbytes hml hret hlk hnm hown hh0 W hP
  obtain ⟨rfl, hB⟩ := hP
  have hB0 := hB.mv X0.warmed.alike hh0
  have c1 : Steps p.tables e below (s₁.setTop (entryFrame m #[.ref d, .int (Int32.ofNat B.slots.size)] 2)) (s₁.setTop (mkF m 0 #[.val (.ref d), .val (.int (Int32.ofNat B.slots.size))] [])) := entry rfl
  have c2 : Steps p.tables e below (s₁.setTop (entryFrame m #[.ref d, .int (Int32.ofNat B.slots.size)] 2)) (s₁.setTop (mkF m 2 #[.val (.ref d), .val (.int (Int32.ofNat B.slots.size))] [.ref d, .int (Int32.ofNat B.slots.size)])) := c1.trans (by
    refine XS.iloadN X0.here hexec rfl (hb hbytes d0) rfl ?_
    refine XS.aloadN X0.here hexec rfl (hb hbytes d1) rfl rfl ?_
    exact Steps.refl _)
  have c3 : Steps p.tables e below (s₁.setTop (entryFrame m #[.ref d, .int (Int32.ofNat B.slots.size)] 2)) (s₁.setTop (mkF m 8 #[.val (.ref d), .val (.int (Int32.ofNat B.slots.size))] [.int (lo8 (ushr (Int32.ofNat B.slots.size - Int32.ofNat B.slots.size) 31))])) := c2.trans (by
    refine X0.alen hexec hB0 rfl rfl (hb hbytes d2) ?_
    refine XS.isub X0.here hexec rfl (hb hbytes d3) rfl ?_
    refine bipushV X0.here hexec rfl 31 (hb hbytes d4) (by decide) ?_
    refine iushr X0.here hexec rfl (hb hbytes d6) rfl ?_
    refine i2b X0.here hexec rfl (hb hbytes d7) rfl ?_
    exact Steps.refl _)
  have e0 : lo8 (ushr (Int32.ofNat B.slots.size - Int32.ofNat B.slots.size) 31) = 0 := by rw [Int32.sub_self]; decide
  rw [e0] at c3
  exact ⟨s₁, some (.int 0), _, _, _, X0, rfl, rfl, rfl, (fun h => by cases h), ⟨rfl, hh0⟩, fun fs hl => c3.trans (X0.ireturnOut hexec hret rfl (Or.inr (Or.inr (Or.inl rfl))) (hb hbytes d8) hl)⟩
end CodL
/-- the String at a is Latin-1 over a new byte[] (the heap's one new cell): the low bytes of the len chars of A from o on; every cell but a is kept -/
def Got (a : Addr) (D : Cell) (fV fC : Field) (A : Cell) (o len : Nat) (r : Option Value) (s u : State) : Prop := r = none ∧ ∃ D' V : Cell, Blank "java/lang/String" a D' u ∧ Same D D' [fV.slot, fC.slot] ∧ D'.slots[fV.slot]? = some (.ref s.heap.size) ∧ D'.slots[fC.slot]? = some (.int 0) ∧ Arr .byte s.heap.size V u ∧ V.vm = .none ∧ u.vm.findClass "[B" = some V.cls ∧ V.slots.size = len ∧ (∀ j, j < len → V.slots[j]? = some (.int (lo8 (cv A (o + j))))) ∧ (∀ (y : Addr) (c : Cell), y ≠ a → s.heap[y]? = some c → u.heap[y]? = some c) ∧ u.heap.size = s.heap.size + 1
theorem Got.mv {a : Addr} {D A : Cell} {fV fC : Field} {o len : Nat} : ∀ r (U U' V V' : State), U'.heap = U.heap → V.vm.Alike V'.vm → V'.heap = V.heap → Got a D fV fC A o len r U V → Got a D fV fC A o len r U' V' :=
  fun r U U' V V' h1 hal h2 ⟨e0, D', X, a1, a2, a3, a4, a5, a6, a7, a8, a9, a10, a11⟩ => ⟨e0, D', X, a1.mv hal h2, a2, by rw [h1]; exact a3, a4, by rw [h1]; exact a5.mv hal h2, a6, by rw [hal.findClass]; exact a7, a8, a9, by rw [h1, h2]; exact a10, by rw [h1, h2]; exact a11⟩
namespace New4
def yN : MethodName := ⟨"java/lang/String", "<init>", "([CIILjava/lang/Void;)V"⟩
abbrev yB : ByteArray := jdk_42_method_149_code
theorem d0 : decode yB 0 = .ok (.aload_n 0, 1) := by decide +kernel
theorem d1 : decode yB 1 = .ok (.invokespecial 1, 3) := by decide +kernel
theorem d4 : decode yB 4 = .ok (.iload_n 3, 1) := by decide +kernel
theorem d5 : decode yB 5 = .ok (.ifCond (.ne) 22, 3) := by decide +kernel
theorem d27 : decode yB 27 = .ok (.getstatic 38, 3) := by decide +kernel
theorem d30 : decode yB 30 = .ok (.ifCond (.eq) 28, 3) := by decide +kernel
theorem d33 : decode yB 33 = .ok (.aload_n 1, 1) := by decide +kernel
theorem d34 : decode yB 34 = .ok (.iload_n 2, 1) := by decide +kernel
theorem d35 : decode yB 35 = .ok (.iload_n 3, 1) := by decide +kernel
theorem d36 : decode yB 36 = .ok (.invokestatic 177, 3) := by decide +kernel
theorem d39 : decode yB 39 = .ok (.astore 5, 2) := by decide +kernel
theorem d41 : decode yB 41 = .ok (.aload_n 0, 1) := by decide +kernel
theorem d42 : decode yB 42 = .ok (.aload 5, 2) := by decide +kernel
theorem d44 : decode yB 44 = .ok (.iload_n 3, 1) := by decide +kernel
theorem d45 : decode yB 45 = .ok (.invokestatic 47, 3) := by decide +kernel
theorem d48 : decode yB 48 = .ok (.putfield 15, 3) := by decide +kernel
theorem d51 : decode yB 51 = .ok (.aload_n 0, 1) := by decide +kernel
theorem d52 : decode yB 52 = .ok (.aload 5, 2) := by decide +kernel
theorem d54 : decode yB 54 = .ok (.putfield 9, 3) := by decide +kernel
theorem d57 : decode yB 57 = .ok (.return_, 1) := by decide +kernel
def site : List Cond := [.fieldLink "java/lang/String" 38 "java/lang/String" "COMPACT_STRINGS" "Z", Cmp3.tab, CodL.tab, .laysFinal "java/lang/String" "java/lang/String" "value" "[B", .fieldLink "java/lang/String" 9 "java/lang/String" "value" "[B", .laysFinal "java/lang/String" "java/lang/String" "coder" "B", .fieldLink "java/lang/String" 15 "java/lang/String" "coder" "B"] ++ objW "java/lang/String" 1 ++ staticW "java/lang/String" 177 Cmp3.yN ++ staticW "java/lang/String" 47 CodL.yN
def tab : Cond := tabOf yN yB 6 none site
def P (a : Addr) (D : Cell) (fV fC : Field) (b : Addr) (A : Cell) (z : Int32) (o len : Nat) (args : Array Value) (s : State) : Prop := args = #[.ref a, .ref b, .int (Int32.ofNat o), .int (Int32.ofNat len), .null] ∧ Blank "java/lang/String" a D s ∧ Found "java/lang/String" "value" "[B" fV s ∧ Found "java/lang/String" "coder" "B" fC s ∧ Ch b A s ∧ StaticIs s "java/lang/String" "COMPACT_STRINGS" "Z" (.int z) ∧ ¬ z = 0 ∧ 0 < len ∧ o + len ≤ A.slots.size ∧ len ≤ 536870912 ∧ ∀ i, i < len → ¬ 255 < cv A (o + i)
def E (a : Addr) (D : Cell) (fV fC : Field) (A : Cell) (o len : Nat) (r : Option Value) (s u : State) : Prop := Got a D fV fC A o len r s u
/-- len > 0, no char of the range above 255: a Latin-1 String of their low bytes -/
theorem law (l : Launch) (a : Addr) (D : Cell) (fV fC : Field) (b : Addr) (A : Cell) (z : Int32) (o len : Nat) : Law l yN 5 4 2 35 yB 6 none site (P a D fV fC b A z o len) (E a D fV fC A o len) [⟨a, fC.slot⟩, ⟨a, fV.slot⟩] 1 len := by
  refine Law.of_walk (plainFor_of_name (by decide +kernel)) (by decide +kernel) (by decide +kernel) (by decide) (fun _ _ h => by rw [h.1]; rfl) (fun _ U U' hal hh h => ⟨h.1, h.2.1.mv hal hh, h.2.2.1.al hal, h.2.2.2.1.al hal, h.2.2.2.2.1.mv hal hh, h.2.2.2.2.2.1.there hal hh, h.2.2.2.2.2.2⟩) (fun r U U' V V' h1 hal h2 h => Got.mv r U U' V V' h1 hal h2 h) ?_
  intro p e s m args below meth c s₁ X0 hexec hbytes hml hret hlk hnm hown hh0 W hP
  obtain ⟨rfl, hB, f1, f2, hA, s1, hz, l0, l1, l2, hp⟩ := hP
  have a31 := hA.1.2.2.2
  have c1 : Steps p.tables e below (s₁.setTop (entryFrame m #[.ref a, .ref b, .int (Int32.ofNat o), .int (Int32.ofNat len), .null] 6)) (s₁.setTop (mkF m 0 #[.val (.ref a), .val (.ref b), .val (.int (Int32.ofNat o)), .val (.int (Int32.ofNat len)), .val .null, .unset] [])) := entry rfl
  have c2 : Steps p.tables e below (s₁.setTop (entryFrame m #[.ref a, .ref b, .int (Int32.ofNat o), .int (Int32.ofNat len), .null] 6)) (s₁.setTop (mkF m 1 #[.val (.ref a), .val (.ref b), .val (.int (Int32.ofNat o)), .val (.int (Int32.ofNat len)), .val .null, .unset] [.ref a])) := c1.trans (by
    refine XS.aloadN X0.here hexec rfl (hb hbytes d0) rfl rfl ?_
    exact Steps.refl _)
  obtain ⟨T3, X3, q3, st3⟩ := X0.oinit hexec hown (wks W (objW "java/lang/String" 1)) (g := (mkF m 1 #[.val (.ref a), .val (.ref b), .val (.int (Int32.ofNat o)), .val (.int (Int32.ofNat len)), .val .null, .unset] [.ref a])) rfl (by rw [hml]; rfl) (rest := []) rfl (hb hbytes d1) (W := 0) (by show 2 * 0 + 0 ≤ _; decide) (Nat.le_of_ble_eq_true rfl) (Nat.le_of_ble_eq_true rfl)
  have hh3 := q3.trans hh0
  have c4 : Steps p.tables e below (s₁.setTop (entryFrame m #[.ref a, .ref b, .int (Int32.ofNat o), .int (Int32.ofNat len), .null] 6)) (T3.setTop (mkF m 27 #[.val (.ref a), .val (.ref b), .val (.int (Int32.ofNat o)), .val (.int (Int32.ofNat len)), .val .null, .unset] [])) := (c2.trans (st3 _ (Steps.refl _))).trans (by
    refine XS.iloadN X3.here hexec rfl (hb hbytes d4) rfl ?_
    refine XS.ifYes X3.here hexec rfl (pc0 := 5) rfl (hb hbytes d5) rfl (i0_ne_t (nz32 (by omega) l0)) (by decide) rfl ?_
    exact Steps.refl _)
  obtain ⟨T5, X5, q5, st5⟩ := X3.sget hexec hown (wk W (.fieldLink "java/lang/String" 38 "java/lang/String" "COMPACT_STRINGS" "Z")) s1 (fun _ _ h => by rw [hh3]; exact h) (g := (mkF m 27 #[.val (.ref a), .val (.ref b), .val (.int (Int32.ofNat o)), .val (.int (Int32.ofNat len)), .val .null, .unset] [])) rfl (hb hbytes d27)
  have hh5 := q5.trans hh3
  have c6 : Steps p.tables e below (s₁.setTop (entryFrame m #[.ref a, .ref b, .int (Int32.ofNat o), .int (Int32.ofNat len), .null] 6)) (T5.setTop (mkF m 30 #[.val (.ref a), .val (.ref b), .val (.int (Int32.ofNat o)), .val (.int (Int32.ofNat len)), .val .null, .unset] [.int z])) := c4.trans (st5 _ (Steps.refl _))
  have c7 : Steps p.tables e below (s₁.setTop (entryFrame m #[.ref a, .ref b, .int (Int32.ofNat o), .int (Int32.ofNat len), .null] 6)) (T5.setTop (mkF m 36 #[.val (.ref a), .val (.ref b), .val (.int (Int32.ofNat o)), .val (.int (Int32.ofNat len)), .val .null, .unset] [.int (Int32.ofNat len), .int (Int32.ofNat o), .ref b])) := c6.trans (by
    refine XS.ifNo X5.here hexec rfl (hb hbytes d30) rfl (i0_eq_f hz) ?_
    refine XS.aloadN X5.here hexec rfl (hb hbytes d33) rfl rfl ?_
    refine XS.iloadN X5.here hexec rfl (hb hbytes d34) rfl ?_
    refine XS.iloadN X5.here hexec rfl (hb hbytes d35) rfl ?_
    exact Steps.refl _)
  obtain ⟨v8, T8, X8, E8, g8⟩ := X5.callS hexec (Cmp3.law l b A o len) hown (wks W (staticW "java/lang/String" 177 Cmp3.yN)) (wk W Cmp3.tab) (W := 0) (Nat.le_of_ble_eq_true rfl) (Nat.le_of_ble_eq_true rfl) (Nat.le_refl _) (by show 0 + len ≤ len; omega) (g := (mkF m 36 #[.val (.ref a), .val (.ref b), .val (.int (Int32.ofNat o)), .val (.int (Int32.ofNat len)), .val .null, .unset] [.int (Int32.ofNat len), .int (Int32.ofNat o), .ref b])) rfl (by rw [hml]; rfl) c7 (argsL := [.ref b, .int (Int32.ofNat o), .int (Int32.ofNat len)]) (rest := []) rfl rfl (by show 2 * 0 + 0 ≤ _; decide) (hb hbytes d36) (⟨rfl, hA.mv X5.warmed.alike hh5, l1, l2, hp⟩)
  obtain ⟨e8, z8⟩ := E8
  obtain ⟨rfl, N, n1, n2, n3, n4, n5, n6⟩ := NewArr.mv _ T5 s _ _ hh5.symm (Vm.Alike.refl _) rfl e8
  rw [hh5] at z8
  have hB1 := hB.keep X8.warmed.alike (n6 _ _ hB.1)
  have hne : s.heap.size ≠ a := (Nat.ne_of_lt (Array.getElem?_eq_some_iff.mp hB.1).1).symm
  have c9 : Steps p.tables e below (s₁.setTop (entryFrame m #[.ref a, .ref b, .int (Int32.ofNat o), .int (Int32.ofNat len), .null] 6)) (T8.setTop (mkF m 39 #[.val (.ref a), .val (.ref b), .val (.int (Int32.ofNat o)), .val (.int (Int32.ofNat len)), .val .null, .unset] [.ref s.heap.size])) := g8
  have c10 : Steps p.tables e below (s₁.setTop (entryFrame m #[.ref a, .ref b, .int (Int32.ofNat o), .int (Int32.ofNat len), .null] 6)) (T8.setTop (mkF m 45 #[.val (.ref a), .val (.ref b), .val (.int (Int32.ofNat o)), .val (.int (Int32.ofNat len)), .val .null, .val (.ref s.heap.size)] [.int (Int32.ofNat N.slots.size), .ref s.heap.size, .ref a])) := by
    have hc : Steps p.tables e below (s₁.setTop (entryFrame m #[.ref a, .ref b, .int (Int32.ofNat o), .int (Int32.ofNat len), .null] 6)) (T8.setTop (mkF m 45 #[.val (.ref a), .val (.ref b), .val (.int (Int32.ofNat o)), .val (.int (Int32.ofNat len)), .val .null, .val (.ref s.heap.size)] [.int (Int32.ofNat len), .ref s.heap.size, .ref a])) := c9.trans (by
      refine XS.astore X8.here hexec rfl (hb hbytes d39) rfl rfl rfl ?_
      refine XS.aloadN X8.here hexec rfl (hb hbytes d41) rfl rfl ?_
      refine XS.aload X8.here hexec rfl (hb hbytes d42) rfl rfl ?_
      refine XS.iloadN X8.here hexec rfl (hb hbytes d44) rfl ?_
      exact Steps.refl _)
    rw [n4]; exact hc
  obtain ⟨v11, T11, X11, E11, g11⟩ := X8.callS hexec (CodL.law l s.heap.size N) hown (wks W (staticW "java/lang/String" 47 CodL.yN)) (wk W CodL.tab) (W := 1) (Nat.le_of_ble_eq_true rfl) (Nat.le_of_ble_eq_true rfl) (Nat.le_refl _) (by show 0 + len + 0 ≤ len; omega) (g := (mkF m 45 #[.val (.ref a), .val (.ref b), .val (.int (Int32.ofNat o)), .val (.int (Int32.ofNat len)), .val .null, .val (.ref s.heap.size)] [.int (Int32.ofNat N.slots.size), .ref s.heap.size, .ref a])) rfl (by rw [hml]; rfl) c10 (argsL := [.ref s.heap.size, .int (Int32.ofNat N.slots.size)]) (rest := [.ref a]) rfl rfl (by show 2 * 0 + (1 + 0) ≤ _; decide) (hb hbytes d45) (⟨rfl, n1⟩)
  obtain ⟨rfl, q11⟩ := E11
  have hB11 := hB1.mv (X8.warmed.alike.symm.trans X11.warmed.alike) q11
  have c12 : Steps p.tables e below (s₁.setTop (entryFrame m #[.ref a, .ref b, .int (Int32.ofNat o), .int (Int32.ofNat len), .null] 6)) (T11.setTop (mkF m 48 #[.val (.ref a), .val (.ref b), .val (.int (Int32.ofNat o)), .val (.int (Int32.ofNat len)), .val .null, .val (.ref s.heap.size)] [.int 0, .ref a])) := g11
  obtain ⟨T13, X13, p13, bl13, sl13, st13⟩ := X11.finit hexec hown (wk W (.fieldLink "java/lang/String" 15 "java/lang/String" "coder" "B")) (Or.inr ⟨_, (wk W (.laysFinal "java/lang/String" "java/lang/String" "coder" "B"))⟩) (Or.inl ⟨rfl, hnm⟩) f2 (Or.inl rfl) hB11 (t := .byte) (by decide +kernel) rfl (g := (mkF m 48 #[.val (.ref a), .val (.ref b), .val (.int (Int32.ofNat o)), .val (.int (Int32.ofNat len)), .val .null, .val (.ref s.heap.size)] [.int 0, .ref a])) rfl (rest := []) rfl (hb hbytes d48)
  have c14 : Steps p.tables e below (s₁.setTop (entryFrame m #[.ref a, .ref b, .int (Int32.ofNat o), .int (Int32.ofNat len), .null] 6)) (T13.setTop (mkF m 54 #[.val (.ref a), .val (.ref b), .val (.int (Int32.ofNat o)), .val (.int (Int32.ofNat len)), .val .null, .val (.ref s.heap.size)] [.ref s.heap.size, .ref a])) := (c12.trans (st13 _ (Steps.refl _))).trans (by
    refine XS.aloadN X13.here hexec rfl (hb hbytes d51) rfl rfl ?_
    refine XS.aload X13.here hexec rfl (hb hbytes d52) rfl rfl ?_
    exact Steps.refl _)
  obtain ⟨T15, X15, p15, bl15, sl15, st15⟩ := X13.finit hexec hown (wk W (.fieldLink "java/lang/String" 9 "java/lang/String" "value" "[B")) (Or.inr ⟨_, (wk W (.laysFinal "java/lang/String" "java/lang/String" "value" "[B"))⟩) (Or.inl ⟨rfl, hnm⟩) f1 (Or.inl rfl) bl13 (t := (.array .byte)) (by decide +kernel) rfl (g := (mkF m 54 #[.val (.ref a), .val (.ref b), .val (.int (Int32.ofNat o)), .val (.int (Int32.ofNat len)), .val .null, .val (.ref s.heap.size)] [.ref s.heap.size, .ref a])) rfl (rest := []) rfl (hb hbytes d54)
  have c16 : Steps p.tables e below (s₁.setTop (entryFrame m #[.ref a, .ref b, .int (Int32.ofNat o), .int (Int32.ofNat len), .null] 6)) (T15.setTop (mkF m 57 #[.val (.ref a), .val (.ref b), .val (.int (Int32.ofNat o)), .val (.int (Int32.ofNat len)), .val .null, .val (.ref s.heap.size)] [])) := c14.trans (st15 _ (Steps.refl _))
  have ap := apart (Or.inr ⟨_, (wk W (.laysFinal "java/lang/String" "java/lang/String" "value" "[B"))⟩) (Or.inr ⟨_, (wk W (.laysFinal "java/lang/String" "java/lang/String" "coder" "B"))⟩) f1 f2 (t₁ := .array .byte) (t₂ := .byte) (by decide +kernel) (by decide +kernel) (by decide)
  have al := X8.warmed.alike.symm.trans X15.warmed.alike
  have n7 : T11.heap[s.heap.size]? = some N := by rw [q11]; exact n1.1
  exact ⟨T15, none, _, _, _, X15, by simp, rfl, by omega, (fun _ => rfl), ⟨rfl, _, N, bl15, ((Same.refl D _).set _ (by simp)).set _ (by simp), sl15, (Cell.slots_setSlot_ne _ ap).trans sl13, n1.keep al (p15.other hne (p13.other hne n7)), n2, by rw [al.findClass]; exact n3, n4, n5, fun y c h1 h2 => p15.other h1 (p13.other h1 (by rw [q11]; exact n6 y c h2)), by rw [p15.2.2, p13.2.2, q11]; exact z8⟩, fun fs hl => c16.trans (X15.returnOut hexec hret (hb hbytes d57) hl)⟩
end New4
namespace New1
def yN : MethodName := ⟨"java/lang/String", "<init>", "([C)V"⟩
abbrev yB : ByteArray := jdk_42_method_3_code
theorem d0 : decode yB 0 = .ok (.aload_n 0, 1) := by decide +kernel
theorem d1 : decode yB 1 = .ok (.aload_n 1, 1) := by decide +kernel
theorem d2 : decode yB 2 = .ok (.iconst 0, 1) := by decide +kernel
theorem d3 : decode yB 3 = .ok (.aload_n 1, 1) := by decide +kernel
theorem d4 : decode yB 4 = .ok (.arraylength, 1) := by decide +kernel
theorem d5 : decode yB 5 = .ok (.aconst_null, 1) := by decide +kernel
theorem d6 : decode yB 6 = .ok (.invokespecial 27, 3) := by decide +kernel
theorem d9 : decode yB 9 = .ok (.return_, 1) := by decide +kernel
def site : List Cond := [New4.tab] ++ initW "java/lang/String" 27 New4.yN
def tab : Cond := tabOf yN yB 2 none site
def P (a : Addr) (D : Cell) (fV fC : Field) (b : Addr) (A : Cell) (z : Int32) (args : Array Value) (s : State) : Prop := args = #[.ref a, .ref b] ∧ Blank "java/lang/String" a D s ∧ Found "java/lang/String" "value" "[B" fV s ∧ Found "java/lang/String" "coder" "B" fC s ∧ Ch b A s ∧ StaticIs s "java/lang/String" "COMPACT_STRINGS" "Z" (.int z) ∧ ¬ z = 0 ∧ 0 < A.slots.size ∧ A.slots.size ≤ 536870912 ∧ ∀ i, i < A.slots.size → ¬ 255 < cv A i
def E (a : Addr) (D : Cell) (fV fC : Field) (A : Cell) (r : Option Value) (s u : State) : Prop := Got a D fV fC A 0 A.slots.size r s u
/-- new String(chars), not empty, no char above 255: a Latin-1 String of their low bytes -/
theorem law (l : Launch) (a : Addr) (D : Cell) (fV fC : Field) (b : Addr) (A : Cell) (z : Int32) : Law l yN 2 1 3 52 yB 2 none site (P a D fV fC b A z) (E a D fV fC A) [⟨a, fC.slot⟩, ⟨a, fV.slot⟩] 1 A.slots.size := by
  refine Law.of_walk (plainFor_of_name (by decide +kernel)) (by decide +kernel) (by decide +kernel) (by decide) (fun _ _ h => by rw [h.1]; rfl) (fun _ U U' hal hh h => ⟨h.1, h.2.1.mv hal hh, h.2.2.1.al hal, h.2.2.2.1.al hal, h.2.2.2.2.1.mv hal hh, h.2.2.2.2.2.1.there hal hh, h.2.2.2.2.2.2⟩) (fun r U U' V V' h1 hal h2 h => Got.mv r U U' V V' h1 hal h2 h) ?_
  intro p e s m args below meth c s₁ X0 hexec hbytes hml hret hlk hnm hown hh0 W hP
  obtain ⟨rfl, hB, f1, f2, hA, s1, hz, l0, l2, hp⟩ := hP
  have c1 : Steps p.tables e below (s₁.setTop (entryFrame m #[.ref a, .ref b] 2)) (s₁.setTop (mkF m 0 #[.val (.ref a), .val (.ref b)] [])) := entry rfl
  have c2 : Steps p.tables e below (s₁.setTop (entryFrame m #[.ref a, .ref b] 2)) (s₁.setTop (mkF m 6 #[.val (.ref a), .val (.ref b)] [.null, .int (Int32.ofNat A.slots.size), .int 0, .ref b, .ref a])) := c1.trans (by
    refine XS.aloadN X0.here hexec rfl (hb hbytes d0) rfl rfl ?_
    refine XS.aloadN X0.here hexec rfl (hb hbytes d1) rfl rfl ?_
    refine iconstV X0.here hexec rfl 0 (hb hbytes d2) (by decide) ?_
    refine XS.aloadN X0.here hexec rfl (hb hbytes d3) rfl rfl ?_
    refine X0.alen hexec (hA.1.mv X0.warmed.alike hh0) rfl rfl (hb hbytes d4) ?_
    refine XS.aconstNull X0.here hexec rfl (hb hbytes d5) ?_
    exact Steps.refl _)
  obtain ⟨v3, T3, X3, E3, g3⟩ := X0.callN hexec (New4.law l a D fV fC b A z 0 A.slots.size) rfl hown (wks W (initW "java/lang/String" 27 New4.yN)) (W New4.tab (by simp only [site, List.mem_cons, List.mem_append, true_or, or_true])) (W := 0) (Nat.le_of_ble_eq_true rfl) (Nat.le_of_ble_eq_true rfl) (Nat.le_refl _) (by show 0 + A.slots.size ≤ A.slots.size; omega) (g := (mkF m 6 #[.val (.ref a), .val (.ref b)] [.null, .int (Int32.ofNat A.slots.size), .int (Int32.ofNat 0), .ref b, .ref a])) rfl (by rw [hml]; rfl) c2 (argsL := [.ref b, .int (Int32.ofNat 0), .int (Int32.ofNat A.slots.size), .null]) (rest := []) rfl rfl (by show 2 * 0 + 0 ≤ _; decide) (hb hbytes d6) (⟨rfl, hB.mv X0.warmed.alike hh0, f1.al X0.warmed.alike, f2.al X0.warmed.alike, hA.mv X0.warmed.alike hh0, s1.there X0.warmed.alike hh0, hz, l0, by omega, l2, fun i hi => by rw [Nat.zero_add]; exact hp i hi⟩)
  have e0 := Got.mv _ s₁ s _ _ hh0.symm (Vm.Alike.refl _) rfl E3
  obtain rfl := e0.1
  have c4 : Steps p.tables e below (s₁.setTop (entryFrame m #[.ref a, .ref b] 2)) (T3.setTop (mkF m 9 #[.val (.ref a), .val (.ref b)] [])) := g3
  exact ⟨T3, none, _, _, _, X3, by simp, rfl, by omega, (fun _ => rfl), e0, fun fs hl => c4.trans (X3.returnOut hexec hret (hb hbytes d9) hl)⟩
theorem pays {l : Launch} {R : Room} {p : Program} {e : Env} {below : List Frame} {s : State} {sargs : Array Value} {len W : Nat} (a : Addr) (D : Cell) (fV fC : Field) (b : Addr) (A : Cell) (z : Int32) (htab : tab.before sargs s = true) (hfr : 4 ≤ R.frames) (hlo : W + 65 ≤ R.locals) :
    Back l R p e below s sargs yN len W (fun A₁ a₁ => A₁.cells + 1 ≤ R.cells ∧ A₁.slots + A.slots.size ≤ R.slots ∧ P a D fV fC b A z a₁ A₁.U) (fun A₁ _ v₁ B₁ => E a D fV fC A v₁ A₁.U B₁.U ∧ B₁.locs = A₁.locs ++ [⟨a, fC.slot⟩, ⟨a, fV.slot⟩] ∧ B₁.cells = A₁.cells + 1 ∧ B₁.slots = A₁.slots + A.slots.size) :=
  (law l a D fV fC b A z).pays htab hfr (by omega)
end New1
end StrChars
namespace StrChars.Road
open Jvm Sem ClassFile Op Lib Jvm.Stand Jvm.Free Jvm.Free.XT
open Jvm.Lib.Cold (StaticIs)
abbrev ST : String := "java/lang/String"
/-- every table word that New1's law asks, flat -/
abbrev words : List Jvm.Cond := [.code New1.yN New1.yB 2 none, .initialized ST, .methodLink ST 27 New4.yN, .instanceMethod New4.yN,
  .code New4.yN New4.yB 6 none, .fieldLink ST 38 ST "COMPACT_STRINGS" "Z", .laysFinal ST ST "value" "[B", .fieldLink ST 9 ST "value" "[B", .laysFinal ST ST "coder" "B", .fieldLink ST 15 ST "coder" "B",
  .methodLink ST 1 Lib.objectInit, .instanceMethod Lib.objectInit, .code Lib.objectInit ⟨#[0xb1]⟩ 1 none, .methodLink ST 177 Cmp3.yN, .static Cmp3.yN, .methodLink ST 47 CodL.yN, .static CodL.yN,
  .code Cmp3.yN Cmp3.yB 6 (some (.array .byte)), .initialized U16, .arrayClass .byte, .methodLink U16 115 Cmp5.yN, .static Cmp5.yN, .code Cmp5.yN Cmp5.yB 7 (some .int), .code CodL.yN CodL.yB 2 (some .byte)]
theorem tab_of {a : Array Value} {s : State} (h : ∀ w ∈ words, w.before a s = true) : New1.tab.before a s = true := by
  have h5 : Cmp5.tab.before a s = true := unparts (wk h (.code Cmp5.yN Cmp5.yB 7 (some .int))) (wks h (.initialized Cmp5.yN.cls :: Cmp5.site))
  have hc : CodL.tab.before a s = true := unparts (wk h (.code CodL.yN CodL.yB 2 (some .byte))) (wks h (.initialized CodL.yN.cls :: CodL.site))
  have q5 : ∀ w ∈ Cmp5.tab :: words, w.before a s = true := fun w hw => (List.mem_cons.mp hw).elim (fun e => e ▸ h5) (h w)
  have h3 : Cmp3.tab.before a s = true := unparts (wk q5 (.code Cmp3.yN Cmp3.yB 6 (some (.array .byte)))) (wks q5 (.initialized Cmp3.yN.cls :: Cmp3.site))
  have q3 : ∀ w ∈ Cmp3.tab :: CodL.tab :: words, w.before a s = true := fun w hw => (List.mem_cons.mp hw).elim (fun e => e ▸ h3) fun hw => (List.mem_cons.mp hw).elim (fun e => e ▸ hc) (h w)
  have h4 : New4.tab.before a s = true := unparts (wk q3 (.code New4.yN New4.yB 6 none)) (wks q3 (.initialized New4.yN.cls :: New4.site))
  have q4 : ∀ w ∈ New4.tab :: words, w.before a s = true := fun w hw => (List.mem_cons.mp hw).elim (fun e => e ▸ h4) (h w)
  exact unparts (wk q4 (.code New1.yN New1.yB 2 none)) (wks q4 (.initialized New1.yN.cls :: New1.site))
/-- the words ride from the start Z to the walk's own state -/
theorem moved {Z s : State} {a0 args : Array Value} (hZ : Z.Warmed39 s.vm) (hw : ∀ d ∈ words, d.before a0 Z = true) : ∀ d ∈ words, d.before args s = true := fun d hd => by
  have q := hw d hd
  have t : ∀ d ∈ words, d = .arrayClass .byte ∨ (d.onTables && d.keepsFace) = true := by decide +kernel
  rcases t d hd with rfl | t
  · exact RoadKit.mvA hZ q
  · exact RoadKit.mv hZ q t
/-- WHAT COMES BACK, over the tables of the start Z: h the heap at the call, h' behind it -/
def Q (Z : State) (x : Addr) (A : Cell) (h : Heap) (v : Option Value) (h' : Heap) (L : List Loc) : Prop := v = none ∧ (∀ y ∈ L, y.base = x) ∧ RoadKit.Keep h h' [x] ∧ h'.size = h.size + 1 ∧ RoadKit.Exa Z h' x ST ∧ RoadKit.Fld Z h' x ST "value" "[B" (.ref h.size) ∧ RoadKit.Fld Z h' x ST "coder" "B" (.int 0) ∧
  (∃ V : Cell, RoadKit.Arr Z h' h.size V .byte ∧ V.vm = .none ∧ Z.vm.findClass "[B" = some V.cls ∧ V.slots.size = A.slots.size ∧ ∀ j, j < A.slots.size → V.slots[j]? = some (.int (lo8 (cv A j)))) ∧
  ∀ (O n d : String) (w : Value), RoadKit.Fld Z h x O n d w → RoadKit.slotOf Z O n d ≠ RoadKit.slotOf Z ST "value" "[B" → RoadKit.slotOf Z O n d ≠ RoadKit.slotOf Z ST "coder" "B" → RoadKit.Fld Z h' x O n d w
/-- **new String(chars) AT A CALL, IN THE ROAD'S FORM**: for specialBack behind newO: x the fresh String, b the char[] with the cell A -/
theorem back {p : Program} {l : Launch} {e : Env} {R : Room} {s : State} {args : Array Value} {below : List Frame} {len W : Nat} {Z : State} {a0 : Array Value} {h : Heap} (hZ : Z.Warmed39 s.vm) (hw : ∀ d ∈ words, d.before a0 Z = true) {kI : Nat} (wi : (Jvm.Cond.instantiable ST kI).before a0 Z = true)
    {x b : Addr} {A : Cell} {z : Int32} {v0 c0 : Value} (E : RoadKit.Exa Z h x ST) (V : RoadKit.Fld Z h x ST "value" "[B" v0) (C : RoadKit.Fld Z h x ST "coder" "B" c0) (K : RoadKit.Arr Z h b A .char) (hty : Typed .char A) (S : RoadKit.Sta Z h ST "COMPACT_STRINGS" "Z" (.int z)) (hz : ¬ z = 0)
    (l0 : 0 < A.slots.size) (l2 : A.slots.size ≤ 536870912) (hp : ∀ i, i < A.slots.size → ¬ 255 < cv A i) (hfr : 4 ≤ R.frames) (hlo : W + 65 ≤ R.locals) :
    Back l R p e below s args New1.yN len W (fun P a => a = #[.ref x, .ref b] ∧ P.U.heap = h ∧ P.cells + 1 ≤ R.cells ∧ P.slots + A.slots.size ≤ R.slots)
      (fun P _ v B => ∃ L, Q Z x A h v B.U.heap L ∧ B.locs = P.locs ++ L ∧ B.cells = P.cells + 1 ∧ B.slots = P.slots + A.slots.size) := by
  intro m meth c P g ig mk a X hg hsize hdg hW hn hp'
  obtain ⟨rfl, rfl, r1, r2⟩ := hp'
  have al : Z.vm.Alike P.U.vm := hZ.alike.trans X.warmed.alike
  obtain ⟨D, cfV, kV, iV, fV, hD, gV, stV, knV, obV, asV, slV⟩ := id V
  obtain ⟨D', cfC, kC, iC, fC, hD', gC, stC, -, -, asC, slC⟩ := id C
  cases hD.symm.trans hD'
  obtain ⟨D2, kD, e1, e2, e3, e4, e5⟩ := id E
  cases hD.symm.trans e1
  obtain ⟨c2, k2, i1, i2, i3, -⟩ := Cond.instantiable_spec wi
  cases e2.symm.trans i1
  cases e3.symm.trans i2
  obtain ⟨kU, u1, u2⟩ := al.2.2 _ _ e3
  have hB : Blank ST x D P.U := ⟨hD, ⟨knV, fun q hq => by rw [hq] at obV; cases obV⟩, by rw [al.findClass]; exact e2, kU, u1, by rw [u2]; exact i3, by rw [u2]; exact e5 i3⟩
  have F1 : Found ST "value" "[B" fV P.U := ⟨SBG.found_only al ⟨cfV, kV, iV, gV⟩, stV⟩
  have F2 : Found ST "coder" "B" fC P.U := ⟨SBG.found_only al ⟨cfC, kC, iC, gC⟩, stC⟩
  have hA : Ch b A P.U := ⟨⟨K.1, State.isArrayOf_alike al K.2.1, K.2.2, by omega⟩, hty⟩
  have hS : StaticIs P.U ST "COMPACT_STRINGS" "Z" (.int z) := by
    obtain ⟨cfS, iS, kS, fS, st, cS, t1, t2, t3, t4, t5, t6, t7⟩ := S
    exact StaticIs.there (s := { Z with heap := P.U.heap }) ⟨cfS, iS, kS, fS, st, cS, t1, t2, t3, t4, t5, (fun q => by rw [q] at t6; cases t6), t7⟩ al rfl
  obtain ⟨v, B, X', ⟨⟨hv, E', V', q1, q2, q3, q4, q5, q6, q7, q8, q9, q10, q11⟩, hl, hc, hs⟩, st⟩ := New1.pays x D fV fC b A z (tab_of (moved hZ hw)) hfr hlo m meth c P g ig mk _ X hg hsize hdg hW hn ⟨r1, r2, rfl, hB, F1, F2, hA, hS, hz, l0, l2, hp⟩
  have al' : Z.vm.Alike B.U.vm := hZ.alike.trans X'.warmed.alike
  have hsz : E'.slots.size = D.slots.size := by
    obtain ⟨-, -, -, kB, w1, w2, w3⟩ := q1
    obtain ⟨kB', y1, y2⟩ := al'.2.2 _ _ e3
    rw [q2.2.1] at w1
    cases w1.symm.trans y1
    rw [w3, e5 i3, y2]
  refine ⟨v, B, X', ⟨_, ⟨hv, ?_, ⟨by omega, fun y cy hy hn' => q10 y cy (by simpa using hn') hy, fun y cy hy => ?_⟩, q11, ⟨E', _, q1.1, by rw [q2.2.1]; exact e2, by rw [q2.2.1]; exact e3, by rw [q2.1]; exact obV, fun _ => by rw [hsz]; exact e5 i3⟩,
    ⟨E', cfV, kV, iV, fV, q1.1, gV, stV, by rw [q2.1]; exact knV, by rw [q2.1]; exact obV, by rw [q2.2.1]; exact asV, q3⟩, ⟨E', cfC, kC, iC, fC, q1.1, gC, stC, by rw [q2.1]; exact knV, by rw [q2.1]; exact obV, by rw [q2.2.1]; exact asC, q4⟩,
    ⟨V', ⟨q5.1, State.isArrayOf_alike al'.symm q5.2.1, q5.2.2.1⟩, q6, by rw [← al'.findClass]; exact q7, q8, fun j hj => by have := q9 j hj; rwa [Nat.zero_add] at this⟩, fun O n d w F n1 n2 => ?_⟩, hl, hc, hs⟩, st⟩
  · intro y hy
    simp only [List.mem_cons, List.not_mem_nil, or_false] at hy
    rcases hy with rfl | rfl <;> rfl
  · by_cases q : y = x
    · subst q
      cases hD.symm.trans hy
      exact ⟨E', q1.1, q2.2.1, q2.1, hsz⟩
    · exact ⟨cy, q10 y cy q hy, rfl, rfl, rfl⟩
  · obtain ⟨D3, cf, k, i, f, g1, g2, g3, g4, g5, g6, g7⟩ := F
    cases hD.symm.trans g1
    simp only [RoadKit.slotOf, g2, gV, gC, Option.map_some, Option.getD_some] at n1 n2
    exact ⟨E', cf, k, i, f, q1.1, g2, g3, by rw [q2.1]; exact g4, by rw [q2.1]; exact g5, by rw [q2.2.1]; exact g6, by rw [q2.2.2 f.slot (by simp [n1, n2])]; exact g7⟩
end StrChars.Road
namespace StrChars.Road
open Jvm Sem ClassFile Op Lib Jvm.Stand Jvm.Free Jvm.Free.XT
/-- WHAT COMES BACK, the byte[] as a list of values -/
def QA (Z : State) (x : Addr) (zn : Int32) (cs : List Int32) (h : Heap) (v : Option Value) (h' : Heap) (L : List Loc) : Prop := v = none ∧ (∀ y ∈ L, y.base = x) ∧ RoadKit.Keep h h' [x] ∧ h'.size = h.size + 1 ∧ RoadKit.Exa Z h' x ST ∧ RoadKit.Fld Z h' x ST "value" "[B" (.ref h.size) ∧ RoadKit.Fld Z h' x ST "coder" "B" (.int 0) ∧
  (∃ kb, Z.vm.findClass "[B" = some kb ∧ RoadKit.Arv Z h' h.size kb .byte zn (cs.map fun c => .int (lo8 c)) (.int 0)) ∧
  ∀ (O n d : String) (w : Value), RoadKit.Fld Z h x O n d w → RoadKit.slotOf Z O n d ≠ RoadKit.slotOf Z ST "value" "[B" → RoadKit.slotOf Z O n d ≠ RoadKit.slotOf Z ST "coder" "B" → RoadKit.Fld Z h' x O n d w
/-- **new String(chars) AT A CALL, THE ARRAYS AS LISTS**: the char[] at b holds cs, not empty, no char above 255 -/
theorem backArv {p : Program} {l : Launch} {e : Env} {R : Room} {s : State} {args : Array Value} {below : List Frame} {len W : Nat} {Z : State} {a0 : Array Value} {h : Heap} (hZ : Z.Warmed39 s.vm) (hw : ∀ d ∈ words, d.before a0 Z = true) {kI : Nat} (wi : (Jvm.Cond.instantiable ST kI).before a0 Z = true)
    {x b : Addr} {k : ClassId} {zn z : Int32} {cs : List Int32} {dv v0 c0 : Value} (E : RoadKit.Exa Z h x ST) (V : RoadKit.Fld Z h x ST "value" "[B" v0) (C : RoadKit.Fld Z h x ST "coder" "B" c0) (K : RoadKit.Arv Z h b k .char zn (cs.map Value.int) dv) (S : RoadKit.Sta Z h ST "COMPACT_STRINGS" "Z" (.int z)) (hz : ¬ z = 0)
    (hlen : zn.toNatClampNeg = cs.length) (h0 : 0 < cs.length) (hbig : cs.length ≤ 536870912) (hall : ∀ c ∈ cs, ¬ 255 < c) (hfr : 4 ≤ R.frames) (hlo : W + 65 ≤ R.locals) :
    Back l R p e below s args New1.yN len W (fun P a => a = #[.ref x, .ref b] ∧ P.U.heap = h ∧ P.cells + 1 ≤ R.cells ∧ P.slots + cs.length ≤ R.slots)
      (fun P _ v B => ∃ L, QA Z x zn cs h v B.U.heap L ∧ B.locs = P.locs ++ L ∧ B.cells = P.cells + 1 ∧ B.slots = P.slots + cs.length) := by
  obtain ⟨A, K1, K2, K3, K4, K5, K6⟩ := K
  have e : A.slots.size = cs.length := K3.trans hlen
  have hat : ∀ (i : Nat) (hi : i < cs.length), A.slots[i]? = some (.int cs[i]) := fun i hi => by rw [K5 i (by omega)]; simp [List.getD_eq_getElem?_getD, hi]
  have hcv : ∀ (i : Nat) (hi : i < cs.length), cv A i = cs[i] := fun i hi => by unfold cv; rw [hat i hi]
  have hty : Typed .char A := fun i v hv => by
    have hi : i < A.slots.size := (Array.getElem?_eq_some_iff.mp hv).1
    have q := K5 i hi
    rw [hv] at q
    rw [Option.some.inj q]
    exact K6 i hi
  refine Back.mono (back hZ hw wi E V C K1 hty S hz (by omega) (by omega) (fun i hi => by rw [hcv i (by omega)]; exact hall _ (List.getElem_mem _)) hfr hlo) (fun P a hp => ⟨hp.1, hp.2.1, hp.2.2.1, by rw [e]; exact hp.2.2.2⟩) (fun P a v B hp hq => ?_)
  obtain ⟨L, ⟨q1, q2, q3, q4, q5, q6, q7, ⟨V', v1, v2, v3, v4, v5⟩, q9⟩, hl, hc, hs⟩ := hq
  refine ⟨L, ⟨q1, q2, q3, q4, q5, q6, q7, ⟨V'.cls, v3, V', v1, rfl, by rw [v4, e, hlen], K4, fun i hi => ?_, fun i hi => ?_⟩, q9⟩, hl, hc, by rw [hs, e]⟩
  · have hi' : i < cs.length := by omega
    rw [v5 i (by omega), hcv i hi']; simp [List.getD_eq_getElem?_getD, hi']
  · have hi' : i < cs.length := by omega
    simp only [List.getD_eq_getElem?_getD, List.getElem?_map, List.getElem?_eq_getElem hi', Option.map_some, Option.getD_some]
    exact fits_lo8 _
end StrChars.Road
namespace StrChars.Road
open Jvm Sem ClassFile Op Lib Jvm.Stand Jvm.Free Jvm.Free.XT
/-- WHAT COMES BACK, in the writer's own shape -/
def QV (Z : State) (x : Addr) (N : Int32) (bs : List Int32) (h : Heap) (n0 : Nat) (v : Option Value) (h' : Heap) (L : List Loc) : Prop := v = none ∧ RoadKit.Fr n0 L ∧ RoadKit.Keep h h' [x] ∧ RoadKit.Exa Z h' x ST ∧ RoadKit.Fld Z h' x ST "coder" "B" (.int 0) ∧
  ∃ (t : Addr) (kb : ClassId), n0 ≤ t ∧ h.size ≤ t ∧ ¬ t = x ∧ RoadKit.Fld Z h' x ST "value" "[B" (.ref t) ∧ RoadKit.Arv Z h' t kb .byte N (bs.map Value.int) (.int 0)
/-- **new String(chars) AT A CALL, FOR THE WRITER**: a char[] of n known ints, each 0 to 255 -/
theorem backV {p : Program} {l : Launch} {e : Env} {R : Room} {s : State} {args : Array Value} {below : List Frame} {len W : Nat} {Z : State} {a0 : Array Value} {h : Heap} (hZ : Z.Warmed39 s.vm) (hw : ∀ d ∈ words, d.before a0 Z = true) {kI : Nat} (wi : (Jvm.Cond.instantiable ST kI).before a0 Z = true)
    {x b : Addr} {kC : ClassId} {cs bs : List Int32} {d v0 c0 : Value} {z N : Int32} {n n0 : Nat} (hx0 : n0 ≤ x) (hh0 : n0 ≤ h.size) (E : RoadKit.Exa Z h x ST) (V : RoadKit.Fld Z h x ST "value" "[B" v0) (C : RoadKit.Fld Z h x ST "coder" "B" c0) (K : RoadKit.Arv Z h b kC .char N (cs.map Value.int) d) (S : RoadKit.Sta Z h ST "COMPACT_STRINGS" "Z" (.int z)) (hz : ¬ z = 0)
    (hn : cs.length = n) (hN : N = Int32.ofNat n) (l0 : 0 < n) (l2 : n ≤ 4000) (hp : ∀ c ∈ cs, ¬ c < 0 ∧ ¬ (255 : Int32) < c) (hb : bs = cs.map (fun c => c.toInt8.toInt32)) (hfr : 4 ≤ R.frames) (hlo : W + 65 ≤ R.locals) :
    Back l R p e below s args (⟨"java/lang/String", "<init>", "([C)V"⟩ : MethodName) len W (fun P a => a = #[.ref x, .ref b] ∧ P.U.heap = h ∧ P.cells + 1 ≤ R.cells ∧ P.slots + n ≤ R.slots)
      (fun P _ v B => ∃ L, QV Z x N bs h n0 v B.U.heap L ∧ B.locs = P.locs ++ L ∧ B.cells = P.cells + 1 ∧ B.slots = P.slots + n) := by
  subst hn hN hb
  refine Back.mono (backArv hZ hw wi E V C K S hz (n32 (by omega)) l0 (by omega) (fun c hc => (hp c hc).2) hfr hlo) (fun P a hp => hp) (fun P a v B hp hq => ?_)
  obtain ⟨L, ⟨q1, q2, q3, q4, q5, q6, q7, ⟨kb, v1, v2⟩, q9⟩, hl, hc, hs⟩ := hq
  exact ⟨L, ⟨q1, fun y hy => by rw [q2 y hy]; exact hx0, q3, q5, q7, h.size, kb, hh0, Nat.le_refl _, Nat.ne_of_gt E.lt, q6, by rw [List.map_map]; exact v2⟩, hl, hc, hs⟩
end StrChars.Road
namespace StrChars
open Jvm Sem ClassFile Op Lib Jvm.Stand Jvm.Free.XT Jvm.Free.ALB Jvm.Free.JM Jvm.Free
open Jvm.Lib.Cold (StaticIs)
def hi8 (x : Int32) : Int32 := lo8 (x >>> ((8 : Int32) &&& 31))
/-- what StringUTF16.getChar makes of two bytes -/
def pairCh (u v : Int32) : Int32 := (((u &&& 255) <<< ((0 : Int32) &&& 31)) ||| ((v &&& 255) <<< ((8 : Int32) &&& 31))).toUInt32.toUInt16.toUInt32.toInt32
theorem shr0 (c : Int32) : c >>> ((0 : Int32) &&& 31) = c := by
  have e : ((0 : Int32) &&& 31) = 0 := by decide
  rw [e]
  apply Int32.toBitVec_inj.mp
  rw [Int32.toBitVec_shiftRight]
  have e1 : ((0 : Int32).toBitVec.smod 32) = 0#32 := by decide
  rw [e1, BitVec.sshiftRight_eq']
  exact BitVec.sshiftRight_zero
theorem lo8_and (x : Int32) : (lo8 x &&& 255).toBitVec.toNat = x.toBitVec.toNat % 256 := by
  have h : (lo8 x).toBitVec = (x.toBitVec.signExtend 8).signExtend 32 := by rw [lo8, Int8.toBitVec_toInt32, Int32.toBitVec_toInt8]
  rw [Int32.toBitVec_and, BitVec.toNat_and, h]
  have e : ((x.toBitVec.signExtend 8).signExtend 32).toNat % 256 = x.toBitVec.toNat % 256 := by
    rw [BitVec.toNat_signExtend]
    have hlt := x.toBitVec.isLt
    simp only [BitVec.toNat_setWidth, BitVec.toNat_signExtend]
    split <;> split <;> omega
  rw [← e]
  exact Nat.and_two_pow_sub_one_eq_mod _ 8
theorem pair_says {c : Int32} (h0 : ¬ c < 0) (h1 : ¬ 65535 < c) : pairCh (lo8 c) (hi8 c) = c := by
  rw [Int32.lt_iff_toInt_lt] at h0 h1
  have e0 : (0 : Int32).toInt = 0 := rfl
  have e1 : (65535 : Int32).toInt = 65535 := rfl
  have hc : c.toInt = c.toBitVec.toNat := by
    have := c.toBitVec.isLt
    have e : c.toInt = c.toBitVec.toInt := rfl
    rw [e] at h0 h1
    rw [e]
    rw [BitVec.toInt_eq_toNat_cond] at h0 h1 ⊢
    split at h0 <;> split <;> omega
  have hn : c.toBitVec.toNat < 65536 := by omega
  have a1 := lo8_and c
  have a2 : (hi8 c &&& 255).toBitVec.toNat = c.toBitVec.toNat / 256 := by
    rw [hi8, lo8_and]
    have e : ((8 : Int32) &&& 31) = 8 := by decide
    rw [e, Int32.toBitVec_shiftRight]
    have e2 : ((8 : Int32).toBitVec.smod 32) = 8#32 := by decide
    rw [e2, BitVec.sshiftRight_eq', BitVec.toNat_sshiftRight_of_msb_false (by rw [BitVec.msb_eq_false_iff_two_mul_lt]; omega)]
    show c.toBitVec.toNat >>> 8 % 256 = _
    rw [Nat.shiftRight_eq_div_pow]
    omega
  unfold pairCh
  apply Int32.toBitVec_inj.mp
  apply BitVec.eq_of_toNat_eq
  have f0 : ((0 : Int32) &&& 31) = 0 := by decide
  have f8 : ((8 : Int32) &&& 31) = 8 := by decide
  rw [f0, f8]
  have g : (((lo8 c &&& 255) <<< (0 : Int32)) ||| ((hi8 c &&& 255) <<< (8 : Int32))).toBitVec.toNat = c.toBitVec.toNat := by
    rw [Int32.toBitVec_or, Int32.toBitVec_shiftLeft, Int32.toBitVec_shiftLeft]
    have s0 : ((0 : Int32).toBitVec.smod 32) = 0#32 := by decide
    have s8 : ((8 : Int32).toBitVec.smod 32) = 8#32 := by decide
    rw [s0, s8, BitVec.toNat_or]
    simp only [BitVec.shiftLeft_eq', BitVec.toNat_shiftLeft, a1, a2]
    show (c.toBitVec.toNat % 256) <<< 0 % 2 ^ 32 ||| (c.toBitVec.toNat / 256) <<< 8 % 2 ^ 32 = _
    rw [Nat.shiftLeft_zero, Nat.mod_eq_of_lt (show c.toBitVec.toNat % 256 < 2 ^ 32 by omega), Nat.mod_eq_of_lt (show (c.toBitVec.toNat / 256) <<< 8 < 2 ^ 32 by rw [Nat.shiftLeft_eq]; omega), Nat.or_comm, ← Nat.shiftLeft_add_eq_or_of_lt (by omega), Nat.shiftLeft_eq]
    omega
  show BitVec.toNat (((((lo8 c &&& 255) <<< (0 : Int32)) ||| ((hi8 c &&& 255) <<< (8 : Int32))).toBitVec.setWidth 16).setWidth 32) = _
  rw [BitVec.toNat_setWidth, BitVec.toNat_setWidth, g]
  omega
end StrChars
namespace StrChars
open Jvm Sem ClassFile Op Lib Jvm.Stand Jvm.Free.XT Jvm.Free.ALB Jvm.Free.JM Jvm.Free
open Jvm.Lib.Cold (StaticIs)
theorem shr1 {n : Nat} (h : 2 * n < 2 ^ 31) : Int32.ofNat (2 * n) >>> ((1 : Int32) &&& 31) = Int32.ofNat n := by
  have e : ((1 : Int32) &&& 31) = 1 := by decide
  rw [e]
  apply Int32.toBitVec_inj.mp
  rw [Int32.toBitVec_shiftRight]
  have e1 : ((1 : Int32).toBitVec.smod 32) = 1#32 := by decide
  have hm : (BitVec.ofNat 32 (2 * n)).toNat = 2 * n := by rw [BitVec.toNat_ofNat, Nat.mod_eq_of_lt (by omega)]
  rw [e1, BitVec.sshiftRight_eq']
  apply BitVec.eq_of_toNat_eq
  show ((BitVec.ofNat 32 (2 * n)).sshiftRight 1).toNat = (BitVec.ofNat 32 n).toNat
  rw [BitVec.toNat_sshiftRight_of_msb_false (by rw [BitVec.msb_eq_false_iff_two_mul_lt, hm]; omega), hm, BitVec.toNat_ofNat, Nat.shiftRight_eq_div_pow]
  omega
/-- the array's cell V codes the n chars f 0 .. f (n - 1) by the coder cd, as the JDK does: coder 1 just where some char is above 255 -/
def Cod (cd : Int32) (n : Nat) (f : Nat → Int32) (V : Cell) : Prop := (cd = 0 ∧ V.slots.size = n ∧ ∀ j, j < n → V.slots[j]? = some (.int (lo8 (f j))) ∧ ¬ 255 < f j) ∨ (cd = 1 ∧ V.slots.size = 2 * n ∧ (∀ j, j < n → V.slots[2 * j]? = some (.int (lo8 (f j))) ∧ V.slots[2 * j + 1]? = some (.int (hi8 (f j)))) ∧ ∃ j, j < n ∧ 255 < f j)
theorem Cod.cd {cd : Int32} {n : Nat} {f : Nat → Int32} {V : Cell} (h : Cod cd n f V) : cd = 0 ∨ cd = 1 := h.imp (fun q => q.1) fun q => q.1
theorem Cod.len {cd : Int32} {n : Nat} {f : Nat → Int32} {V : Cell} (h : Cod cd n f V) (hs : V.slots.size < 2 ^ 31) : Int32.ofNat V.slots.size >>> (cd &&& 31) = Int32.ofNat n := by
  rcases h with ⟨rfl, h, -⟩ | ⟨rfl, h, -⟩
  · rw [shr0, h]
  · rw [h, shr1 (by omega)]
/-- **x is a String of the n chars f 0 .. f (n - 1)**, Latin-1 or UTF-16; its array at t has the cell V -/
def Txt (x t : Addr) (V : Cell) (cd : Int32) (n : Nat) (f : Nat → Int32) (U : State) : Prop := Exact "java/lang/String" x U ∧ Has x "java/lang/String" "value" "[B" (.ref t) U ∧ Has x "java/lang/String" "coder" "B" (.int cd) U ∧ XT.Arr .byte t V U ∧ Cod cd n f V ∧ ∀ j, j < n → ¬ f j < 0 ∧ ¬ 65535 < f j
theorem Txt.mv {x t : Addr} {V : Cell} {cd : Int32} {n : Nat} {f : Nat → Int32} {U U' : State} (h : Txt x t V cd n f U) (hal : U.vm.Alike U'.vm) (hh : U'.heap = U.heap) : Txt x t V cd n f U' := ⟨h.1.mv hal hh, h.2.1.mv hal hh, h.2.2.1.mv hal hh, h.2.2.2.1.mv hal hh, h.2.2.2.2⟩
namespace Cdr
def yN : MethodName := ⟨"java/lang/String", "coder", "()B"⟩
abbrev yB : ByteArray := jdk_42_method_152_code
theorem d0 : decode yB 0 = .ok (.getstatic 38, 3) := by decide +kernel
theorem d3 : decode yB 3 = .ok (.ifCond (.eq) 10, 3) := by decide +kernel
theorem d6 : decode yB 6 = .ok (.aload_n 0, 1) := by decide +kernel
theorem d7 : decode yB 7 = .ok (.getfield 15, 3) := by decide +kernel
theorem d10 : decode yB 10 = .ok (.goto 4, 3) := by decide +kernel
theorem d14 : decode yB 14 = .ok (.ireturn, 1) := by decide +kernel
def site : List Cond := [.fieldLink "java/lang/String" 38 "java/lang/String" "COMPACT_STRINGS" "Z", .fieldLink "java/lang/String" 15 "java/lang/String" "coder" "B"]
def tab : Cond := tabOf yN yB 1 (some .byte) site
def P (x : Addr) (cd z : Int32) (args : Array Value) (s : State) : Prop := args = #[.ref x] ∧ Has x "java/lang/String" "coder" "B" (.int cd) s ∧ (cd = 0 ∨ cd = 1) ∧ StaticIs s "java/lang/String" "COMPACT_STRINGS" "Z" (.int z) ∧ ¬ z = 0
def E (cd : Int32) (r : Option Value) (s u : State) : Prop := XT.PureE (some (.int cd)) r s u
theorem law (l : Launch) (x : Addr) (cd z : Int32) : Law l yN 1 0 0 0 yB 1 (some .byte) site (P x cd z) (E cd) [] 0 0 := by
  refine Law.of_walk (plainFor_of_name (by decide +kernel)) (by decide +kernel) (by decide +kernel) (by decide) (fun _ _ h => by rw [h.1]; rfl) (fun _ U U' hal hh h => ⟨h.1, h.2.1.mv hal hh, h.2.2.1, h.2.2.2.1.there hal hh, h.2.2.2.2⟩) (fun r U U' V V' h1 hal h2 h => XT.PureE.mv r U U' V V' h1 hal h2 h) ?_
  intro p e s m args below meth c s₁ X0 hexec hbytes hml hret hlk hnm hown hh0 W hP
  obtain ⟨rfl, hx, hc, s1, hz⟩ := hP
  have c1 : Steps p.tables e below (s₁.setTop (entryFrame m #[.ref x] 1)) (s₁.setTop (mkF m 0 #[.val (.ref x)] [])) := entry rfl
  obtain ⟨T2, X2, q2, st2⟩ := X0.sget hexec hown (wk W (.fieldLink "java/lang/String" 38 "java/lang/String" "COMPACT_STRINGS" "Z")) s1 (fun _ _ h => by rw [hh0]; exact h) (g := (mkF m 0 #[.val (.ref x)] [])) rfl (hb hbytes d0)
  have hh2 := q2.trans hh0
  have c3 : Steps p.tables e below (s₁.setTop (entryFrame m #[.ref x] 1)) (T2.setTop (mkF m 7 #[.val (.ref x)] [.ref x])) := (c1.trans (st2 _ (Steps.refl _))).trans (by
    refine XS.ifNo X2.here hexec rfl (hb hbytes d3) rfl (i0_eq_f hz) ?_
    refine XS.aloadN X2.here hexec rfl (hb hbytes d6) rfl rfl ?_
    exact Steps.refl _)
  obtain ⟨T4, X4, q4, st4⟩ := X2.hget hexec hown (wk W (.fieldLink "java/lang/String" 15 "java/lang/String" "coder" "B")) (hx.mv X2.warmed.alike hh2) (g := (mkF m 7 #[.val (.ref x)] [.ref x])) rfl (rest := []) rfl (hb hbytes d7)
  have c5 : Steps p.tables e below (s₁.setTop (entryFrame m #[.ref x] 1)) (T4.setTop (mkF m 14 #[.val (.ref x)] [.int cd])) := (c3.trans (st4 _ (Steps.refl _))).trans (by
    refine XS.goto X4.here hexec rfl (pc0 := 10) rfl (hb hbytes d10) (by decide) rfl ?_
    exact Steps.refl _)
  exact ⟨T4, some (.int cd), _, _, _, X4, rfl, rfl, rfl, (fun h => by cases h), ⟨rfl, q4.trans hh2⟩, fun fs hl => c5.trans (X4.ireturnOut hexec hret (by rcases hc with rfl | rfl <;> rfl) (Or.inr (Or.inr (Or.inl rfl))) (hb hbytes d14) hl)⟩
end Cdr
namespace Len
def yN : MethodName := ⟨"java/lang/String", "length", "()I"⟩
abbrev yB : ByteArray := jdk_42_method_54_code
theorem d0 : decode yB 0 = .ok (.aload_n 0, 1) := by decide +kernel
theorem d1 : decode yB 1 = .ok (.getfield 9, 3) := by decide +kernel
theorem d4 : decode yB 4 = .ok (.arraylength, 1) := by decide +kernel
theorem d5 : decode yB 5 = .ok (.aload_n 0, 1) := by decide +kernel
theorem d6 : decode yB 6 = .ok (.invokevirtual 335, 3) := by decide +kernel
theorem d9 : decode yB 9 = .ok (.ishr, 1) := by decide +kernel
theorem d10 : decode yB 10 = .ok (.ireturn, 1) := by decide +kernel
def site : List Cond := [.fieldLink "java/lang/String" 9 "java/lang/String" "value" "[B", Cdr.tab] ++ virtW "java/lang/String" 335 "java/lang/String" Cdr.yN Cdr.yN
def tab : Cond := tabOf yN yB 1 (some .int) site
def P (x t : Addr) (V : Cell) (cd : Int32) (n : Nat) (f : Nat → Int32) (z : Int32) (args : Array Value) (s : State) : Prop := args = #[.ref x] ∧ Txt x t V cd n f s ∧ StaticIs s "java/lang/String" "COMPACT_STRINGS" "Z" (.int z) ∧ ¬ z = 0
def E (n : Nat) (r : Option Value) (s u : State) : Prop := XT.PureE (some (.int (Int32.ofNat n))) r s u
/-- length() of a String of n chars, in either coding -/
theorem law (l : Launch) (x t : Addr) (V : Cell) (cd : Int32) (n : Nat) (f : Nat → Int32) (z : Int32) : Law l yN 1 0 1 13 yB 1 (some .int) site (P x t V cd n f z) (E n) [] 0 0 := by
  refine Law.of_walk (plainFor_of_name (by decide +kernel)) (by decide +kernel) (by decide +kernel) (by decide) (fun _ _ h => by rw [h.1]; rfl) (fun _ U U' hal hh h => ⟨h.1, h.2.1.mv hal hh, h.2.2.1.there hal hh, h.2.2.2⟩) (fun r U U' V V' h1 hal h2 h => XT.PureE.mv r U U' V V' h1 hal h2 h) ?_
  intro p e s m args below meth c s₁ X0 hexec hbytes hml hret hlk hnm hown hh0 W hP
  obtain ⟨rfl, hx, s1, hz⟩ := hP
  have v31 := hx.2.2.2.1.2.2.2
  have c1 : Steps p.tables e below (s₁.setTop (entryFrame m #[.ref x] 1)) (s₁.setTop (mkF m 1 #[.val (.ref x)] [.ref x])) := Steps.trans (entry rfl) (by
    show Steps p.tables e below (s₁.setTop (mkF m 0 #[.val (.ref x)] [])) _
    refine XS.aloadN X0.here hexec rfl (hb hbytes d0) rfl rfl ?_
    exact Steps.refl _)
  obtain ⟨T2, X2, q2, st2⟩ := X0.hget hexec hown (wk W (.fieldLink "java/lang/String" 9 "java/lang/String" "value" "[B")) (hx.mv X0.warmed.alike hh0).2.1 (g := (mkF m 1 #[.val (.ref x)] [.ref x])) rfl (rest := []) rfl (hb hbytes d1)
  have hh2 := q2.trans hh0
  have hx2 := hx.mv X2.warmed.alike hh2
  have c3 : Steps p.tables e below (s₁.setTop (entryFrame m #[.ref x] 1)) (T2.setTop (mkF m 6 #[.val (.ref x)] [.ref x, .int (Int32.ofNat V.slots.size)])) := (c1.trans (st2 _ (Steps.refl _))).trans (by
    refine X2.alen hexec hx2.2.2.2.1 rfl rfl (hb hbytes d4) ?_
    refine XS.aloadN X2.here hexec rfl (hb hbytes d5) rfl rfl ?_
    exact Steps.refl _)
  obtain ⟨v4, T4, X4, E4, g4⟩ := X2.callV hexec (Cdr.law l x cd z) hown (wks W (virtW "java/lang/String" 335 "java/lang/String" Cdr.yN Cdr.yN)) rfl (by decide) (wk W Cdr.tab) (W := 1) (Nat.le_of_ble_eq_true rfl) (Nat.le_of_ble_eq_true rfl) (Nat.le_refl _) (Nat.le_refl _) (hx2.1.fc X2.warmed.alike) hx2.1.is (g := (mkF m 6 #[.val (.ref x)] [.ref x, .int (Int32.ofNat V.slots.size)])) rfl (by rw [hml]; rfl) c3 (argsL := []) (rest := [.int (Int32.ofNat V.slots.size)]) rfl rfl (by show 2 * 0 + (1 + 0) ≤ _; decide) (hb hbytes d6) (⟨rfl, hx2.2.2.1, hx.2.2.2.2.1.cd, s1.there X2.warmed.alike hh2, hz⟩)
  obtain ⟨rfl, q4⟩ := E4
  have c5 : Steps p.tables e below (s₁.setTop (entryFrame m #[.ref x] 1)) (T4.setTop (mkF m 10 #[.val (.ref x)] [.int (Int32.ofNat V.slots.size >>> (cd &&& 31))])) := Steps.trans g4 (by
    refine ishr X4.here hexec rfl (hb hbytes d9) rfl ?_
    exact Steps.refl _)
  rw [hx.2.2.2.2.1.len v31] at c5
  exact ⟨T4, some (.int (Int32.ofNat n)), _, _, _, X4, rfl, rfl, rfl, (fun h => by cases h), ⟨rfl, q4.trans hh2⟩, fun fs hl => c5.trans (X4.ireturnOut hexec hret rfl (Or.inl rfl) (hb hbytes d10) hl)⟩
theorem pays {l : Launch} {R : Room} {p : Program} {e : Env} {below : List Frame} {s : State} {sargs : Array Value} {len W : Nat} (x t : Addr) (V : Cell) (cd : Int32) (n : Nat) (f : Nat → Int32) (z : Int32) (htab : tab.before sargs s = true) (hfr : 2 ≤ R.frames) (hlo : W + 25 ≤ R.locals) :
    Back l R p e below s sargs yN len W (fun A₁ a₁ => A₁.cells + 0 ≤ R.cells ∧ A₁.slots + 0 ≤ R.slots ∧ P x t V cd n f z a₁ A₁.U) (fun A₁ _ v₁ B₁ => E n v₁ A₁.U B₁.U ∧ B₁.locs = A₁.locs ++ [] ∧ B₁.cells = A₁.cells + 0 ∧ B₁.slots = A₁.slots + 0) :=
  (law l x t V cd n f z).pays htab hfr (by omega)
end Len
end StrChars
namespace StrChars.Road
open Jvm Sem ClassFile Op Lib Jvm.Stand Jvm.Free Jvm.Free.XT
open Jvm.Lib.Cold (StaticIs)
theorem consq {a : Array Value} {s : State} {c : Jvm.Cond} {L : List Jvm.Cond} (h0 : c.before a s = true) (h : ∀ w ∈ L, w.before a s = true) : ∀ w ∈ c :: L, w.before a s = true := fun w hw => (List.mem_cons.mp hw).elim (fun e => e ▸ h0) (h w)
/-- the words of String.length(), either coding -/
abbrev wordsLen : List Jvm.Cond := [.code Len.yN Len.yB 1 (some .int), .initialized ST, .fieldLink ST 9 ST "value" "[B", .fieldLink ST 38 ST "COMPACT_STRINGS" "Z", .fieldLink ST 15 ST "coder" "B", .code Cdr.yN Cdr.yB 1 (some .byte), .methodLink ST 335 Cdr.yN, .declares Cdr.yN, .selects ST Cdr.yN Cdr.yN, .instanceMethod Cdr.yN]
theorem tabLen_of {a : Array Value} {s : State} (h : ∀ w ∈ wordsLen, w.before a s = true) : Len.tab.before a s = true := by
  have hc : Cdr.tab.before a s = true := unparts (wk h (.code Cdr.yN Cdr.yB 1 (some .byte))) (wks h (.initialized Cdr.yN.cls :: Cdr.site))
  have q := consq hc h
  exact unparts (wk q (.code Len.yN Len.yB 1 (some .int))) (wks q (.initialized Len.yN.cls :: Len.site))
theorem movedLen {Z s : State} {a0 args : Array Value} (hZ : Z.Warmed39 s.vm) (hw : ∀ d ∈ wordsLen, d.before a0 Z = true) : ∀ d ∈ wordsLen, d.before args s = true := fun d hd => by
  have q := hw d hd
  have t : ∀ d ∈ wordsLen, d = .arrayClass .byte ∨ (d.onTables && d.keepsFace) = true := by decide +kernel
  rcases t d hd with rfl | t
  · exact RoadKit.mvA hZ q
  · exact RoadKit.mv hZ q t
/-- the bytes of the chars cs, low before high -/
def wideBytes : List Int32 → List Value
  | [] => []
  | c :: cs => .int (lo8 c) :: .int (hi8 c) :: wideBytes cs
theorem wide_lo (d : Value) : ∀ (cs : List Int32) (j : Nat), j < cs.length → (wideBytes cs).getD (2 * j) d = .int (lo8 (cs.getD j 0))
  | [], j, h => absurd h (Nat.not_lt_zero j)
  | c :: cs, 0, _ => rfl
  | c :: cs, j + 1, h => by
    have q := wide_lo d cs j (by simpa using h)
    rw [show 2 * (j + 1) = 2 * j + 1 + 1 from by omega]
    simpa [wideBytes] using q
theorem wide_hi (d : Value) : ∀ (cs : List Int32) (j : Nat), j < cs.length → (wideBytes cs).getD (2 * j + 1) d = .int (hi8 (cs.getD j 0))
  | [], j, h => absurd h (Nat.not_lt_zero j)
  | c :: cs, 0, _ => rfl
  | c :: cs, j + 1, h => by
    have q := wide_hi d cs j (by simpa using h)
    rw [show 2 * (j + 1) + 1 = 2 * j + 1 + 1 + 1 from by omega]
    simpa [wideBytes] using q
theorem low_at (d : Value) (cs : List Int32) (j : Nat) (h : j < cs.length) : (cs.map fun c => Value.int (lo8 c)).getD j d = .int (lo8 (cs.getD j 0)) := by
  simp [List.getD_eq_getElem?_getD, h]
/-- an array of N2 bytes vs codes the chars cs by the coder cd -/
def CodA (cs : List Int32) (cd N2 : Int32) (vs : List Value) : Prop := (cd = 0 ∧ N2 = Int32.ofNat cs.length ∧ vs = (cs.map fun c => Value.int (lo8 c)) ∧ ∀ c ∈ cs, ¬ 255 < c) ∨ (cd = 1 ∧ N2 = Int32.ofNat (2 * cs.length) ∧ vs = wideBytes cs ∧ ∃ c ∈ cs, 255 < c)
theorem CodA.cod {cs : List Int32} {cd N2 : Int32} {vs : List Value} {V : Cell} (h : CodA cs cd N2 vs) (hn : 2 * cs.length < 2 ^ 31) (hs : V.slots.size = N2.toNatClampNeg) (hv : RoadKit.Has V vs (.int 0)) : Cod cd cs.length (fun j => cs.getD j 0) V := by
  rcases h with ⟨rfl, rfl, rfl, h⟩ | ⟨rfl, rfl, rfl, c, hc, hw⟩
  · rw [n32 (by omega)] at hs
    exact Or.inl ⟨rfl, hs, fun j hj => ⟨by rw [hv j (by omega), low_at _ _ _ hj], by
      have e : cs.getD j 0 = cs[j] := by simp [List.getD_eq_getElem?_getD, hj]
      show ¬ 255 < cs.getD j 0
      rw [e]; exact h _ (List.getElem_mem _)⟩⟩
  · rw [n32 (by omega)] at hs
    obtain ⟨j, hj, rfl⟩ := List.getElem_of_mem hc
    exact Or.inr ⟨rfl, hs, fun j hj => ⟨by rw [hv _ (by omega), wide_lo _ _ _ hj], by rw [hv _ (by omega), wide_hi _ _ _ hj]⟩, j, hj, by
      have e : cs.getD j 0 = cs[j] := by simp [List.getD_eq_getElem?_getD, hj]
      show 255 < cs.getD j 0
      rw [e]; exact hw⟩
/-- an object of exactly java/lang/String, its two fields found: as the laws ask it -/
theorem strObj {Z U : State} {a0 : Array Value} {kI : Nat} (wi : (Jvm.Cond.instantiable ST kI).before a0 Z = true) (al : Z.vm.Alike U.vm) {x : Addr} {v0 c0 : Value} (E : RoadKit.Exa Z U.heap x ST) (V : RoadKit.Fld Z U.heap x ST "value" "[B" v0) (C : RoadKit.Fld Z U.heap x ST "coder" "B" c0) :
    ∃ (D : Cell) (fV fC : Field), Blank ST x D U ∧ Found ST "value" "[B" fV U ∧ Found ST "coder" "B" fC U ∧ D.slots[fV.slot]? = some v0 ∧ D.slots[fC.slot]? = some c0 ∧ RoadKit.slotOf Z ST "value" "[B" = fV.slot ∧ RoadKit.slotOf Z ST "coder" "B" = fC.slot := by
  obtain ⟨D, cfV, kV, iV, fV, hD, gV, stV, knV, obV, asV, slV⟩ := V
  obtain ⟨D', cfC, kC, iC, fC, hD', gC, stC, -, -, asC, slC⟩ := C
  cases hD.symm.trans hD'
  obtain ⟨D2, kD, e1, e2, e3, e4, e5⟩ := E
  cases hD.symm.trans e1
  obtain ⟨c2, k2, i1, i2, i3, -⟩ := Cond.instantiable_spec wi
  cases e2.symm.trans i1
  cases e3.symm.trans i2
  obtain ⟨kU, u1, u2⟩ := al.2.2 _ _ e3
  exact ⟨D, fV, fC, ⟨hD, ⟨knV, fun q hq => by rw [hq] at obV; cases obV⟩, by rw [al.findClass]; exact e2, kU, u1, by rw [u2]; exact i3, by rw [u2]; exact e5 i3⟩, ⟨SBG.found_only al ⟨cfV, kV, iV, gV⟩, stV⟩, ⟨SBG.found_only al ⟨cfC, kC, iC, gC⟩, stC⟩, slV, slC, by simp [RoadKit.slotOf, gV], by simp [RoadKit.slotOf, gC]⟩
theorem sta_is {Z U : State} (al : Z.vm.Alike U.vm) {C n d : String} {v : Value} (S : RoadKit.Sta Z U.heap C n d v) : StaticIs U C n d v := by
  obtain ⟨cfS, iS, kS, fS, st, cS, t1, t2, t3, t4, t5, t6, t7⟩ := S
  exact StaticIs.there (s := { Z with heap := U.heap }) ⟨cfS, iS, kS, fS, st, cS, t1, t2, t3, t4, t5, (fun q => by rw [q] at t6; cases t6), t7⟩ al rfl
/-- **length() OF SUCH A STRING** -/
theorem lenW {p : Program} {l : Launch} {e : Env} {R : Room} {s : State} {args : Array Value} {below : List Frame} {len W : Nat} {Z : State} {a0 : Array Value} {h : Heap} (hZ : Z.Warmed39 s.vm) (hw : ∀ d ∈ wordsLen, d.before a0 Z = true) {kI : Nat} (wi : (Jvm.Cond.instantiable ST kI).before a0 Z = true)
    {x t : Addr} {kb : ClassId} {cs : List Int32} {cd N2 z : Int32} {vs : List Value} (E : RoadKit.Exa Z h x ST) (V : RoadKit.Fld Z h x ST "value" "[B" (.ref t)) (C : RoadKit.Fld Z h x ST "coder" "B" (.int cd)) (K : RoadKit.Arv Z h t kb .byte N2 vs (.int 0)) (hc : CodA cs cd N2 vs) (hb : ∀ c ∈ cs, ¬ c < 0 ∧ ¬ (65535 : Int32) < c)
    (S : RoadKit.Sta Z h ST "COMPACT_STRINGS" "Z" (.int z)) (hz : ¬ z = 0) (l2 : cs.length ≤ 4000) (hfr : 2 ≤ R.frames) (hlo : W + 25 ≤ R.locals) :
    Back l R p e below s args (⟨"java/lang/String", "length", "()I"⟩ : MethodName) len W (fun P a => a = #[.ref x] ∧ P.U.heap = h ∧ P.cells + 0 ≤ R.cells ∧ P.slots + 0 ≤ R.slots)
      (fun P _ v B => ∃ L, (v = some (.int (Int32.ofNat cs.length)) ∧ L = [] ∧ B.U.heap = h) ∧ B.locs = P.locs ++ L ∧ B.cells = P.cells + 0 ∧ B.slots = P.slots + 0) := by
  obtain ⟨A, K1, K2, K3, K4, K5, K6⟩ := K
  have hcod := hc.cod (by omega) K3 K5
  intro m meth c P g ig mk a X hg hsize hdg hW hn hp'
  obtain ⟨rfl, rfl, r1, r2⟩ := hp'
  have al : Z.vm.Alike P.U.vm := hZ.alike.trans X.warmed.alike
  obtain ⟨D, fV, fC, hB, F1, F2, g1, g2, -, -⟩ := strObj wi al E V C
  have hx : Txt x t A cd cs.length (fun j => cs.getD j 0) P.U := ⟨⟨_, hB.2.2.1, D, hB.1, rfl, by cases q : D.vm <;> first | rfl | exact absurd q (hB.2.1.2 _)⟩, Has.of hB F1 g1, Has.of hB F2 g2, ⟨K1.1, State.isArrayOf_alike al K1.2.1, K1.2.2, by rcases hcod with ⟨-, q, -⟩ | ⟨-, q, -⟩ <;> omega⟩, hcod, fun j hj => by
    have e : cs.getD j 0 = cs[j] := by simp [List.getD_eq_getElem?_getD, hj]
    show ¬ cs.getD j 0 < 0 ∧ ¬ 65535 < cs.getD j 0
    rw [e]; exact hb _ (List.getElem_mem _)⟩
  obtain ⟨v, B, X', ⟨⟨hv, hh⟩, hl, hk, hs⟩, st⟩ := Len.pays x t A cd cs.length (fun j => cs.getD j 0) z (tabLen_of (movedLen hZ hw)) hfr hlo m meth c P g ig mk _ X hg hsize hdg hW hn ⟨r1, r2, rfl, hx, sta_is al S, hz⟩
  exact ⟨v, B, X', ⟨[], ⟨hv, rfl, hh⟩, hl, hk, hs⟩, st⟩
end StrChars.Road
namespace StrChars.Road
open Jvm Sem ClassFile Op Lib Jvm.Stand Jvm.Free Jvm.Free.XT
open Jvm.Lib.Cold (StaticIs)
/-- what backV says of its String, as the contracts of this text ask it: cs's low bytes, coder 0 -/
theorem codOf {cs : List Int32} {n : Nat} (hn : cs.length = n) (hb : ∀ c ∈ cs, ¬ 255 < c) : CodA cs 0 (Int32.ofNat n) ((cs.map lo8).map Value.int) := Or.inl ⟨rfl, by rw [hn], by simp [List.map_map, Function.comp_def], hb⟩
end StrChars.Road
end Jvm.Pilot.@@N@@
/- own kit 1: goal-directed walks -/
namespace Jvm.Pilot.@@N@@
open Jvm Jvm.ClassFile Sem Op Lib Jvm.Free Jvm.Stand Jvm.LawKit Jvm.RoadKit Bundle Jvm.Pilot.@@N@@.Jvm.D
section OwnKit
variable {p : Program} {l : Launch} {e : Env} {R : Room} {s : State} {m : MethodId} {args : Array Value} {below : List Frame} {meth : Method} {c : Code} {T : State} {locs : List Loc} {cells slots : Nat} {Z : State} {a0 : Array Value} {h : Heap}
/-- a method's contract: what it leaves, asked at the heap h with these arguments -/
abbrev own_C (l : Launch) (Z : State) (y : MethodName) (bytes : ByteArray) (maxL : Nat) (ret : Option FieldType) (ws : List Jvm.Cond) (rm : Room) (as : Array Value) (h : Heap) (Q : Option Value → Heap → List Loc → Prop) : Prop :=
  MetFree l y (head1 (Jvm.Cond.code y bytes maxL ret :: ws) rm) (fun a U => a = as ∧ Z.Warmed39 U.vm ∧ U.heap = h) (fun _ _ _ _ _ => True) (fun _ U o U' => ∃ v L, o = .returned v ∧ Q v U'.heap L ∧ FrameEnd U o U' L rm.cells rm.slots)
/-- the same at a call -/
abbrev own_Bk (l : Launch) (R : Room) (p : Program) (e : Env) (below : List Frame) (s : State) (args : Array Value) (y : MethodName) (len W : Nat) (as : Array Value) (h : Heap) (kc ks : Nat) (Q : Option Value → Heap → List Loc → Prop) : Prop :=
  Back l R p e below s args y len W (fun A a => a = as ∧ A.U.heap = h ∧ A.cells + kc ≤ R.cells ∧ A.slots + ks ≤ R.slots) (fun A _ v B => ∃ L, Q v B.U.heap L ∧ B.locs = A.locs ++ L ∧ B.cells = A.cells + kc ∧ B.slots = A.slots + ks)
/-- from the state A the body comes to its end as Q says -/
def own_Go (p : Program) (e : Env) (below : List Frame) (s : State) (Q : Option Value → Heap → List Loc → Prop) (C S : Nat) (A : State) : Prop :=
  ∃ t v L, Steps p.tables e below A t ∧ t.status = .running ∧ Ended t below (.returned v) ∧ Q v t.heap L ∧ FrameEnd s (.returned v) t L C S
theorem own_st {Q : Option Value → Heap → List Loc → Prop} {C S : Nat} {A B : State} (k : ∀ t, Steps p.tables e below B t → Steps p.tables e below A t) (G : own_Go p e below s Q C S B) : own_Go p e below s Q C S A := by
  obtain ⟨t, v, L, h1, h2⟩ := G
  exact ⟨t, v, L, k t h1, h2⟩
theorem own_body {y : MethodName} {bytes : ByteArray} {maxL : Nat} {ret : Option FieldType} {ws : List Jvm.Cond} {rm : Room} {as : Array Value} {Q : Option Value → Heap → List Loc → Prop} (hp : plainFor y = true)
    (body : ∀ (p : Program) (e : Env) (s : State) (m : MethodId) (below : List Frame) (meth : Method) (c : Code) (T : State), Stand p l e rm s m as below meth c T [] 0 0 → p.tables.exec = Jvm.exec → c.code = bytes → c.maxLocals = maxL → Z.Warmed39 s.vm → s.vm.findClass y.cls = some m.cls → meth.name = y.name → meth.sig.returnType = ret → meth.locks = false → T.heap = h →
      own_Go p e below s Q rm.cells rm.slots (T.setTop (entryFrame m as maxL))) : own_C l Z y bytes maxL ret ws rm as h Q := by
  refine MetFree.of_bodySF hp hisR ?_
  intro p e s m args below meth c s₁ Bd hml hP hK
  obtain ⟨rfl, hZ, hh⟩ := hP
  obtain ⟨t, v, L, h1, h2, h3, h4, h5⟩ := body p e s m below meth c s₁ (Stand.of_body Bd) Bd.exec Bd.bytes hml hZ (findClass_of_methodNamed Bd.named) (name_of_methodNamed Bd.named Bd.method).1 Bd.returns Bd.notSynchronized (by rw [← hh, Bd.state]; rfl)
  exact ⟨t, _, h1, h2, h3, v, L, rfl, h4, h5⟩
theorem own_ret {Q : Option Value → Heap → List Loc → Prop} {C S : Nat} (X : Stand p l e R s m args below meth c T locs cells slots) (hx : p.tables.exec = Jvm.exec) (hk : meth.locks = false) (eT : T.heap = h) {pc : Nat} {Ls : Array Slot} {w : Value} {t : FieldType} {i : Instr} {rest : List Value} (hret : meth.sig.returnType = some t) (hn : narrow t w = w)
    (hi : (i = .ireturn ∧ (t = .int ∨ t = .boolean ∨ t = .byte ∨ t = .char ∨ t = .short) ∧ ∃ z, w = .int z) ∨ (i = .lreturn ∧ t = .long ∧ ∃ z, w = .long z) ∨ (i = .dreturn ∧ t = .double ∧ ∃ z, w = .double z) ∨ (i = .freturn ∧ t = .float ∧ ∃ z, w = .float z) ∨ (i = .areturn ∧ t.isReference = true ∧ w.isRef = true))
    (hd : decode c.code pc = .ok (i, 1)) (hc : cells ≤ C) (hs : slots ≤ S) (hq : Q (some w) h locs) : own_Go p e below s Q C S (T.setTop (mkF m pc Ls (w :: rest))) := by
  obtain ⟨fs, hr, hrun, hended, hW, hsame⟩ := X.leave (v := some w) (fun h => by rw [hret] at h; cases h) hk
  exact ⟨_, some w, locs, retOut X hx hret hn hi hd hr, hrun, hended, by subst eT; exact hq, ⟨_, rfl⟩, hW, hsame.mono hc hs⟩
theorem own_retV {Q : Option Value → Heap → List Loc → Prop} {C S : Nat} (X : Stand p l e R s m args below meth c T locs cells slots) (hx : p.tables.exec = Jvm.exec) (hk : meth.locks = false) (eT : T.heap = h) {pc : Nat} {Ls : Array Slot} (hret : meth.sig.returnType = none)
    (hd : decode c.code pc = .ok (.return_, 1)) (hc : cells ≤ C) (hs : slots ≤ S) (hq : Q none h locs) : own_Go p e below s Q C S (T.setTop (mkF m pc Ls [])) := by
  obtain ⟨fs, hr, hrun, hended, hW, hsame⟩ := X.leave (v := none) (fun _ => rfl) hk
  exact ⟨_, none, locs, X.returnOut hx hret hd hr, hrun, hended, by subst eT; exact hq, ⟨_, rfl⟩, hW, hsame.mono hc hs⟩
theorem own_bk {y : MethodName} {bytes : ByteArray} {maxL : Nat} {ret : Option FieldType} {rm : Room} {len W : Nat} {as : Array Value} {Q : Option Value → Heap → List Loc → Prop} (hM : own_C l Z y bytes maxL ret [] rm as h Q) (hZ : Z.Warmed39 s.vm) (wc : (Jvm.Cond.code y bytes maxL ret).before a0 Z = true) (wz : (Jvm.Cond.initialized y.cls).before a0 Z = true) (hf : rm.frames + 1 ≤ R.frames) (hl : W + (maxL + 11) + rm.locals ≤ R.locals) :
    own_Bk l R p e below s args y len W as h rm.cells rm.slots Q := backOf hM hZ wc wz hf hl
theorem own_callS (X : Stand p l e R s m args below meth c T locs cells slots) (hx : p.tables.exec = Jvm.exec) (hZ : Z.Warmed39 s.vm) {own : String} {index : Nat} {y : MethodName} {bytes : ByteArray} {maxL : Nat} {ret : Option FieldType}
    (hown : s.vm.findClass own = some m.cls) (w1 : (Jvm.Cond.methodLink own index y).before a0 Z = true) (w2 : (Jvm.Cond.static y).before a0 Z = true) (w3 : (Jvm.Cond.initialized y.cls).before a0 Z = true) (w4 : (Jvm.Cond.code y bytes maxL ret).before a0 Z = true) (hy : y.cls ≠ "java/lang/invoke/MethodHandle" ∧ y.cls ≠ "java/lang/invoke/VarHandle")
    {W kc ks : Nat} {as : Array Value} {Q : Option Value → Heap → List Loc → Prop} (hK : own_Bk l R p e below s args y 3 W as h kc ks Q) (eT : T.heap = h) (hc : cells + kc ≤ R.cells) (hs : slots + ks ≤ R.slots)
    {g : JFrame} (hg : g.method = m) (hsize : g.locals.size = c.maxLocals) {argsL rest : List Value} (hlen : ∀ sig, parseMethodDescriptor y.desc = some sig → argsL.length = sig.parameters.length) (hstack : g.stack = argsL.reverse ++ rest) (has : argsL.toArray = as) (hW : 2 * g.monitorRoom + (rest.map fun v => v.category).sum ≤ W) (hdg : decode c.code g.pc = .ok (.invokestatic index, 3)) :
    ∃ (T' : State) (v : Option Value) (L : List Loc) (h' : Heap), Stand p l e R s m args below meth c T' (locs ++ L) (cells + kc) (slots + ks) ∧ T'.heap = h' ∧ Q v h' L ∧ ∀ t, Steps p.tables e below (T'.setTop { g with pc := g.pc + 3, stack := v.toList ++ rest }) t → Steps p.tables e below (T.setTop g) t := by
  obtain ⟨v, _, ⟨T', L', k', n'⟩, -, X', ⟨L, hQ, l1, y1, z1⟩, st⟩ := Jvm.LawKit.callS X hx hown (mvT hZ w1) (mvT hZ w2) (mvT hZ w3) (mvT hZ w4) hy hK hg hsize hlen hstack hW hdg (fun _ _ => ⟨has, eT, hc, hs⟩)
  dsimp only [Pt.U, Pt.locs, Pt.cells, Pt.slots] at X' hQ l1 y1 z1 st
  subst l1 y1 z1
  exact ⟨T', v, L, _, X', rfl, hQ, st⟩
theorem own_callI (X : Stand p l e R s m args below meth c T locs cells slots) (hx : p.tables.exec = Jvm.exec) (hZ : Z.Warmed39 s.vm) {own : String} {index : Nat} {y : MethodName} (hy1 : y.name = "<init>") {bytes : ByteArray} {maxL : Nat}
    (hown : s.vm.findClass own = some m.cls) (w1 : (Jvm.Cond.methodLink own index y).before a0 Z = true) (w2 : (Jvm.Cond.instanceMethod y).before a0 Z = true) (w3 : (Jvm.Cond.code y bytes maxL none).before a0 Z = true) (hy : y.cls ≠ "java/lang/invoke/MethodHandle" ∧ y.cls ≠ "java/lang/invoke/VarHandle")
    {W kc ks : Nat} {as : Array Value} {Q : Option Value → Heap → List Loc → Prop} (hK : own_Bk l R p e below s args y 3 W as h kc ks Q) (eT : T.heap = h) (hc : cells + kc ≤ R.cells) (hs : slots + ks ≤ R.slots)
    {g : JFrame} (hg : g.method = m) (hsize : g.locals.size = c.maxLocals) {a : Addr} {argsL rest : List Value} (hlen : ∀ sig, parseMethodDescriptor y.desc = some sig → argsL.length = sig.parameters.length) (hstack : g.stack = argsL.reverse ++ .ref a :: rest) (has : (.ref a :: argsL).toArray = as) (hW : 2 * g.monitorRoom + (rest.map fun v => v.category).sum ≤ W) (hdg : decode c.code g.pc = .ok (.invokespecial index, 3)) :
    ∃ (T' : State) (v : Option Value) (L : List Loc) (h' : Heap), Stand p l e R s m args below meth c T' (locs ++ L) (cells + kc) (slots + ks) ∧ T'.heap = h' ∧ Q v h' L ∧ ∀ t, Steps p.tables e below (T'.setTop { g with pc := g.pc + 3, stack := v.toList ++ rest }) t → Steps p.tables e below (T.setTop g) t := by
  obtain ⟨v, _, ⟨T', L', k', n'⟩, -, X', ⟨L, hQ, l1, y1, z1⟩, st⟩ := X.specialBack hx hy1 hown (mvT hZ w1) (mvT hZ w2) (mvT hZ w3) hy hK hg hsize (Steps.refl _) hlen hstack hW hdg (fun _ _ => ⟨has, eT, hc, hs⟩)
  dsimp only [Pt.U, Pt.locs, Pt.cells, Pt.slots] at X' hQ l1 y1 z1 st
  subst l1 y1 z1
  exact ⟨T', v, L, _, X', rfl, hQ, fun t k => st.trans k⟩
theorem own_callV (X : Stand p l e R s m args below meth c T locs cells slots) (hx : p.tables.exec = Jvm.exec) (hZ : Z.Warmed39 s.vm) {own C : String} {index : Nat} {y z : MethodName}
    (hown : s.vm.findClass own = some m.cls) (w1 : (Jvm.Cond.methodLink own index y).before a0 Z = true) (w2 : (Jvm.Cond.declares y).before a0 Z = true) (nf : NotFace s y) (w3 : (Jvm.Cond.selects C y z).before a0 Z = true) (w4 : (Jvm.Cond.instanceMethod z).before a0 Z = true) (hy : y.cls ≠ "java/lang/invoke/MethodHandle" ∧ y.cls ≠ "java/lang/invoke/VarHandle")
    {W kc ks : Nat} {as : Array Value} {Q : Option Value → Heap → List Loc → Prop} (hK : own_Bk l R p e below s args z 3 W as h kc ks Q) (eT : T.heap = h) {b : Addr} (E : Exa Z h b C) (hc : cells + kc ≤ R.cells) (hs : slots + ks ≤ R.slots)
    {g : JFrame} (hg : g.method = m) (hsize : g.locals.size = c.maxLocals) {argsL rest : List Value} (hlen : ∀ sig, parseMethodDescriptor y.desc = some sig → argsL.length = sig.parameters.length) (hstack : g.stack = argsL.reverse ++ .ref b :: rest) (has : (.ref b :: argsL).toArray = as) (hW : 2 * g.monitorRoom + (rest.map fun v => v.category).sum ≤ W) (hdg : decode c.code g.pc = .ok (.invokevirtual index, 3)) :
    ∃ (T' : State) (v : Option Value) (L : List Loc) (h' : Heap), Stand p l e R s m args below meth c T' (locs ++ L) (cells + kc) (slots + ks) ∧ T'.heap = h' ∧ Q v h' L ∧ ∀ t, Steps p.tables e below (T'.setTop { g with pc := g.pc + 3, stack := v.toList ++ rest }) t → Steps p.tables e below (T.setTop g) t := by
  obtain ⟨cq, kq, qa, qb, qc⟩ := isOf hZ eT E
  obtain ⟨v, _, ⟨T', L', k', n'⟩, -, X', ⟨L, hQ, l1, y1, z1⟩, st⟩ := X.virtualBack hx hown (mvT hZ w1) (mvT hZ w2) nf (mvT hZ w3) (mvT hZ w4) hy hK qa qc hg hsize (Steps.refl _) hlen hstack hW hdg (fun _ _ => ⟨has, eT, hc, hs⟩)
  dsimp only [Pt.U, Pt.locs, Pt.cells, Pt.slots] at X' hQ l1 y1 z1 st
  subst l1 y1 z1
  exact ⟨T', v, L, _, X', rfl, hQ, fun t k => st.trans k⟩
theorem own_callF (X : Stand p l e R s m args below meth c T locs cells slots) (hx : p.tables.exec = Jvm.exec) (hZ : Z.Warmed39 s.vm) {own C : String} {index count : Nat} {y z : MethodName}
    (hown : s.vm.findClass own = some m.cls) (w1 : (Jvm.Cond.methodLink own index y).before a0 Z = true) (w2 : (Jvm.Cond.declares y).before a0 Z = true) (w3 : (Jvm.Cond.interfaceMethod y.cls y.cls y.name y.desc).before args s = true) (w4 : (Jvm.Cond.selects C y z).before a0 Z = true) (w5 : (Jvm.Cond.instanceMethod z).before a0 Z = true) (w6 : (Jvm.Cond.publicMethod z).before a0 Z = true) (w7 : (Jvm.Cond.unhidden C y.name y.desc).before a0 Z = true) (w8 : (Jvm.Cond.castable C y.cls).before a0 Z = true) (hy : y.cls ≠ "java/lang/invoke/MethodHandle" ∧ y.cls ≠ "java/lang/invoke/VarHandle")
    {W kc ks : Nat} {as : Array Value} {Q : Option Value → Heap → List Loc → Prop} (hK : own_Bk l R p e below s args z 5 W as h kc ks Q) (eT : T.heap = h) {b : Addr} (E : Exa Z h b C) (hc : cells + kc ≤ R.cells) (hs : slots + ks ≤ R.slots)
    {g : JFrame} (hg : g.method = m) (hsize : g.locals.size = c.maxLocals) {argsL rest : List Value} (hlen : ∀ sig, parseMethodDescriptor y.desc = some sig → argsL.length = sig.parameters.length) (hstack : g.stack = argsL.reverse ++ .ref b :: rest) (has : (.ref b :: argsL).toArray = as) (hW : 2 * g.monitorRoom + (rest.map fun v => v.category).sum ≤ W) (hdg : decode c.code g.pc = .ok (.invokeinterface index count, 5)) :
    ∃ (T' : State) (v : Option Value) (L : List Loc) (h' : Heap), Stand p l e R s m args below meth c T' (locs ++ L) (cells + kc) (slots + ks) ∧ T'.heap = h' ∧ Q v h' L ∧ ∀ t, Steps p.tables e below (T'.setTop { g with pc := g.pc + 5, stack := v.toList ++ rest }) t → Steps p.tables e below (T.setTop g) t := by
  obtain ⟨cq, kq, qa, qb, qc⟩ := isOf hZ eT E
  obtain ⟨v, _, ⟨T', L', k', n'⟩, -, X', ⟨L, hQ, l1, y1, z1⟩, st⟩ := X.interfaceBack hx hown (mvT hZ w1) (mvT hZ w2) w3 (mvT hZ w4) (mvT hZ w5) (mvT hZ w6) (mvT hZ w7) (mvT hZ w8) hy hK qa qb qc hg hsize (Steps.refl _) hlen hstack hW hdg (fun _ _ => ⟨has, eT, hc, hs⟩)
  dsimp only [Pt.U, Pt.locs, Pt.cells, Pt.slots] at X' hQ l1 y1 z1 st
  subst l1 y1 z1
  exact ⟨T', v, L, _, X', rfl, hQ, fun t k => st.trans k⟩
theorem own_ninS {x y : Nat} {L : List Nat} (q : x ≠ y) (r : x ∉ L) : x ∉ y :: L := ninS q r
theorem own_old {n0 : Nat} (O : Old Z n0 h) : n0 ≤ h.size := O.1 ▸ O.2.1
end OwnKit
end Jvm.Pilot.@@N@@
/- own kit 2: Strings of known chars -/
namespace Jvm.Pilot.@@N@@
open Jvm Jvm.ClassFile Sem Op Lib Jvm.Free Jvm.Stand Jvm.LawKit Jvm.RoadKit Bundle Jvm.Pilot.@@N@@.Jvm.D
section OwnStr
variable {p : Program} {l : Launch} {e : Env} {R : Room} {s : State} {args : Array Value} {below : List Frame} {Z : State} {a0 : Array Value} {h h' : Heap} {len W n0 : Nat}
def own_CS (Z : State) : Prop := ∃ z : Int32, Sta Z Z.heap "java/lang/String" "COMPACT_STRINGS" "Z" (.int z) ∧ ¬ z = 0
def own_Str (Z : State) (h : Heap) (x : Addr) (cs : List Int32) : Prop := Exa Z h x "java/lang/String" ∧ ∃ (t : Addr) (kb : ClassId) (cd N2 : Int32) (vs : List Value), Fld Z h x "java/lang/String" "value" "[B" (.ref t) ∧ Fld Z h x "java/lang/String" "coder" "B" (.int cd) ∧ Arv Z h t kb .byte N2 vs (.int 0) ∧ StrChars.Road.CodA cs cd N2 vs ∧ (∀ c ∈ cs, ¬ c < 0 ∧ ¬ (65535 : Int32) < c) ∧ cs.length ≤ 4000
theorem own_Str.keep {x : Addr} {cs : List Int32} (S : own_Str Z h x cs) (K : Keep h h' []) (_ : x ∉ ([] : List Addr)) : own_Str Z h' x cs := by
  obtain ⟨E, t, kb, cd, N2, vs, F1, F2, A, r⟩ := S
  exact ⟨E.keep K, t, kb, cd, N2, vs, F1.keep K nin0, F2.keep K nin0, A.keep K nin0, r⟩
theorem own_Str.lt {x : Addr} {cs : List Int32} (S : own_Str Z h x cs) : x < h.size := S.1.lt
theorem own_wNew (hw : ∀ d ∈ tables_1, d.before a0 Z = true) : ∀ d ∈ StrChars.Road.words, d.before a0 Z = true := fun d hd => hw d ((by decide +kernel : ∀ d ∈ StrChars.Road.words, d ∈ tables_1) d hd)
theorem own_up (cs : List Int32) (h : ∀ c ∈ cs, ¬ c < 0 ∧ ¬ (255 : Int32) < c) : ∀ c ∈ cs, ¬ c < 0 ∧ ¬ (65535 : Int32) < c := fun c hc => ⟨(h c hc).1, fun q => (h c hc).2 (by rw [Int32.lt_iff_toInt_lt] at q ⊢; have e1 : (65535 : Int32).toInt = 65535 := rfl; have e2 : (255 : Int32).toInt = 255 := rfl; omega)⟩
/-- new String(char[]) of known chars, each 0 to 255 -/
theorem own_nsB (hZ : Z.Warmed39 s.vm) (hw : ∀ d ∈ StrChars.Road.words, d.before a0 Z = true) {kI : Nat} (wi : (Jvm.Cond.instantiable "java/lang/String" kI).before a0 Z = true) {x b : Addr} {kC : ClassId} {cs : List Int32} {d v0 c0 : Value} {N : Int32} {n : Nat} (hx0 : n0 ≤ x) (O : Old Z n0 h) (CS : own_CS Z) (E : Exa Z h x "java/lang/String") (V : Fld Z h x "java/lang/String" "value" "[B" v0) (C : Fld Z h x "java/lang/String" "coder" "B" c0) (K : Arv Z h b kC .char N (cs.map Value.int) d)
    (hn : cs.length = n) (hN : N = Int32.ofNat n) (l0 : 0 < n) (l2 : n ≤ 4000) (hp : ∀ c ∈ cs, ¬ c < 0 ∧ ¬ (255 : Int32) < c) (hfr : 4 ≤ R.frames) (hlo : W + 65 ≤ R.locals) :
    own_Bk l R p e below s args (⟨"java/lang/String", "<init>", "([C)V"⟩ : MethodName) len W #[.ref x, .ref b] h 1 n (fun v h' L => v = none ∧ Fr n0 L ∧ Keep h h' [x] ∧ own_Str Z h' x cs) := by
  obtain ⟨z, S, hz⟩ := CS
  refine Back.mono (StrChars.Road.backV hZ hw wi hx0 (own_old O) E V C K (S.ext O.2) hz hn hN l0 l2 hp rfl hfr hlo) (fun _ _ hp => hp) (fun A a v B _ hq => ?_)
  obtain ⟨L, ⟨q1, q2, q3, q4, q5, t, kb, q6, q7, q8, q9, q10⟩, hl, hc, hs⟩ := hq
  exact ⟨L, ⟨q1, q2, q3, q4, t, kb, 0, N, _, q9, q5, q10, hN ▸ StrChars.Road.codOf hn (fun c hc => (hp c hc).2), own_up _ hp, hn ▸ l2⟩, hl, hc, hs⟩
theorem own_nar255 (x : Int32) : ¬ nar .char ((x &&& (255 : Int32)).toUInt32.toUInt16.toUInt32.toInt32) < 0 ∧ ¬ (255 : Int32) < nar .char ((x &&& (255 : Int32)).toUInt32.toUInt16.toUInt32.toInt32) := by
  have t : ∀ k : Fin 256, ¬ nar .char ((Int32.ofNat k.val).toUInt32.toUInt16.toUInt32.toInt32) < 0 ∧ ¬ (255 : Int32) < nar .char ((Int32.ofNat k.val).toUInt32.toUInt16.toUInt32.toInt32) := by decide +kernel
  have h : (x &&& 255).toBitVec.toNat < 256 := by
    simp only [Int32.toBitVec_and, BitVec.toNat_and]
    exact Nat.lt_succ_of_le Nat.and_le_right
  have e : (x &&& 255) = Int32.ofNat (x &&& 255).toBitVec.toNat := by
    apply Int32.toBitVec_inj.mp
    show _ = BitVec.ofNat 32 _
    rw [BitVec.ofNat_toNat]; simp
  rw [e]
  exact t ⟨_, h⟩
theorem own_lt {x y : Int32} : x < y ↔ x.toInt < y.toInt := Int32.lt_iff_toInt_lt
theorem own_narC {c : Int32} (h : ¬ c < 0 ∧ ¬ (65535 : Int32) < c) : nar .char c = c := by
  have q := c_i2c c
  rw [own_lt, own_lt] at h
  have e1 : (65535 : Int32).toInt = 65535 := rfl
  have e2 : (0 : Int32).toInt = 0 := rfl
  apply Int32.toInt_inj.mp
  show c.toUInt32.toUInt16.toUInt32.toInt32.toInt = c.toInt
  omega
theorem own_up1 {c : Int32} (h : ¬ c < 0 ∧ ¬ (255 : Int32) < c) : ¬ c < 0 ∧ ¬ (65535 : Int32) < c := by
  rw [own_lt, own_lt] at h ⊢
  have e1 : (65535 : Int32).toInt = 65535 := rfl
  have e2 : (255 : Int32).toInt = 255 := rfl
  omega
theorem own_narL {c : Int32} (h : ¬ c < 0 ∧ ¬ (255 : Int32) < c) : nar .char c = c := own_narC (own_up1 h)
theorem own_m255 (x : Int32) : ¬ (x &&& (255 : Int32)) < 0 ∧ ¬ (255 : Int32) < (x &&& (255 : Int32)) := by
  have q := c_and x 255 (by decide)
  rw [own_lt, own_lt]
  have e1 : (255 : Int32).toInt = 255 := rfl
  have e2 : (0 : Int32).toInt = 0 := rfl
  omega
theorem own_i2cm (x : Int32) : (x &&& (255 : Int32)).toUInt32.toUInt16.toUInt32.toInt32 = (x &&& (255 : Int32)) := own_narL (own_m255 x)
theorem own_narm (x : Int32) : nar .char ((x &&& (255 : Int32)).toUInt32.toUInt16.toUInt32.toInt32) = (x &&& (255 : Int32)) := by rw [own_i2cm]; exact own_narL (own_m255 x)
theorem own_all1 {P : Int32 → Prop} {a : Int32} (h : P a) : ∀ c ∈ [a], P c := fun c hc => by rw [List.mem_singleton.mp hc]; exact h
theorem own_allC {P : Int32 → Prop} {a : Int32} {L : List Int32} (h : P a) (r : ∀ c ∈ L, P c) : ∀ c ∈ a :: L, P c := fun c hc => by
  rcases List.mem_cons.mp hc with e | e
  · rw [e]; exact h
  · exact r c e
end OwnStr
end Jvm.Pilot.@@N@@
/- own kit 3: small naturals as ints -/
namespace Jvm.Pilot.@@N@@
open Jvm Jvm.ClassFile Sem Op Lib Jvm.Free Jvm.Stand Jvm.LawKit Jvm.RoadKit Bundle Jvm.Pilot.@@N@@.Jvm.D
section OwnNum
theorem own_ti {n : Nat} (h : n < 2147483648) : (Int32.ofNat n).toInt = n := Int32.toInt_ofNat_small h
theorem own_nlt {a b : Nat} (ha : a < 2147483648) (hb : b < 2147483648) : Int32.ofNat a < Int32.ofNat b ↔ a < b := by
  rw [Int32.lt_iff_toInt_lt, own_ti ha, own_ti hb]; omega
theorem own_nin {a b : Nat} (ha : a < 2147483648) (hb : b < 2147483648) : Int32.ofNat a = Int32.ofNat b ↔ a = b := by
  rw [← Int32.toInt_inj, own_ti ha, own_ti hb]; omega
theorem own_nsub {a b : Nat} (h : a ≤ b) (hb : b < 2147483648) : Int32.ofNat b - Int32.ofNat a = Int32.ofNat (b - a) := by
  have q := c_isub (Int32.ofNat b) (Int32.ofNat a)
  have r := rng32 (Int32.ofNat b - Int32.ofNat a)
  rw [own_ti hb, own_ti (by omega)] at q
  rw [← Int32.toInt_inj, own_ti (by omega)]; omega
theorem own_nadd {a b : Nat} (h : a + b < 2147483648) : Int32.ofNat a + Int32.ofNat b = Int32.ofNat (a + b) := by
  have q := c_iadd (Int32.ofNat a) (Int32.ofNat b)
  have r := rng32 (Int32.ofNat a + Int32.ofNat b)
  rw [own_ti (by omega), own_ti (by omega)] at q
  rw [← Int32.toInt_inj, own_ti h]; omega
theorem own_nn {a : Nat} (h : a < 2147483648) : ¬ Int32.ofNat a < 0 := by
  rw [Int32.lt_iff_toInt_lt, own_ti h]; have : (0 : Int32).toInt = 0 := rfl; omega
theorem own_tcn {a : Nat} (h : a < 2147483648) : (Int32.ofNat a).toNatClampNeg = a := by
  have q := nat_of (own_nn h)
  rw [own_ti h] at q; omega
theorem own_exN {x : Int32} (h : 0 ≤ x.toInt) : ∃ n : Nat, x = Int32.ofNat n ∧ (n : Int) = x.toInt := by
  have r := rng32 x
  refine ⟨x.toInt.toNat, ?_, by omega⟩
  rw [← Int32.toInt_inj, own_ti (by omega)]; omega
end OwnNum
end Jvm.Pilot.@@N@@
namespace Jvm.Pilot.@@N@@
open Jvm Jvm.ClassFile Sem Op Lib Jvm.Free Jvm.Stand Jvm.LawKit Jvm.RoadKit Bundle Jvm.Pilot.@@N@@.Jvm.D
section OwnStrLen
variable {p : Program} {l : Launch} {e : Env} {R : Room} {s : State} {args : Array Value} {below : List Frame} {Z : State} {a0 : Array Value} {h h' : Heap} {len W n0 : Nat}
theorem own_wLen (hw : ∀ d ∈ tables_1, d.before a0 Z = true) : ∀ d ∈ StrChars.Road.wordsLen, d.before a0 Z = true := fun d hd => hw d ((by decide +kernel : ∀ d ∈ StrChars.Road.wordsLen, d ∈ tables_1) d hd)
theorem own_lenB (hZ : Z.Warmed39 s.vm) (hw : ∀ d ∈ StrChars.Road.wordsLen, d.before a0 Z = true) {kI : Nat} (wi : (Jvm.Cond.instantiable "java/lang/String" kI).before a0 Z = true) {x : Addr} {cs : List Int32} (O : Old Z n0 h) (CS : own_CS Z) (S1 : own_Str Z h x cs) (hfr : 2 ≤ R.frames) (hlo : W + 25 ≤ R.locals) :
    own_Bk l R p e below s args (⟨"java/lang/String", "length", "()I"⟩ : MethodName) len W #[.ref x] h 0 0 (fun v h' L => v = some (.int (Int32.ofNat cs.length)) ∧ Fr n0 L ∧ h' = h) := by
  obtain ⟨z, S, hz⟩ := CS
  obtain ⟨E1, t, kb, cd, N2, vs, F1, F2, A, r1, r2, r3⟩ := S1
  refine Back.mono (StrChars.Road.lenW hZ hw wi E1 F1 F2 A r1 r2 (S.ext O.2) hz r3 hfr hlo) (fun _ _ hp => hp) (fun A a v B _ hq => ?_)
  obtain ⟨L, ⟨hc, rfl, e1⟩, hl, hk, hs⟩ := hq
  exact ⟨[], ⟨hc, Fr.nil _, e1⟩, hl, hk, hs⟩
end OwnStrLen
end Jvm.Pilot.@@N@@
namespace Jvm.Pilot.@@N@@
open Jvm Jvm.ClassFile Sem Op Lib Jvm.Free Jvm.Stand Jvm.LawKit Jvm.RoadKit Bundle Jvm.Pilot.@@N@@.Jvm.D
abbrev own_EL : List (String × Nat) := [("java/lang/String", 7)]
theorem own_hEL {Z : State} {a0 : Array Value} (hw : ∀ d ∈ tables_1, d.before a0 Z = true) : EW Z a0 own_EL := (EW.cons (hw _ (List.mem_of_getElem? (i := 22) rfl)) (by decide) EW.nil)
end Jvm.Pilot.@@N@@
/- own kit W: walks that may intern String constants (base s.setVm vm0) -/
namespace Jvm.Pilot.@@N@@
open Jvm Jvm.ClassFile Sem Op Lib Jvm.Free Jvm.Stand Jvm.LawKit Jvm.RoadKit Bundle Jvm.Pilot.@@N@@.Jvm.D
section OwnWide
variable {p : Program} {l : Launch} {e : Env} {R : Room} {s : State} {m : MethodId} {args : Array Value} {below : List Frame} {meth : Method} {c : Code} {T : State} {locs : List Loc} {cells slots : Nat} {Z : State} {a0 : Array Value} {h h0 : Heap} {vm0 : Vm} {k0 : Nat}
abbrev own_CW (l : Launch) (Z : State) (y : MethodName) (bytes : ByteArray) (maxL : Nat) (ret : Option FieldType) (ws : List Jvm.Cond) (rm : Room) (as : Array Value) (h : Heap) (Q : Option Value → Heap → List Loc → Prop) : Prop :=
  MetFree l y (head1 (Jvm.Cond.code y bytes maxL ret :: ws) rm) (fun a U => a = as ∧ Z.Warmed39 U.vm ∧ U.heap = h ∧ CHv Z own_EL U.vm h) (fun _ _ _ _ _ => True) (fun _ U o U' => ∃ v L, o = .returned v ∧ Q v U'.heap L ∧ CHr Z own_EL U.vm U.heap U'.vm U'.heap ∧ ReturnedEndW U o U' L rm.cells rm.slots)
abbrev own_BkS (l : Launch) (R : Room) (p : Program) (e : Env) (below : List Frame) (s : State) (vm0 : Vm) (Z : State) (args : Array Value) (y : MethodName) (len W : Nat) (as : Array Value) (h : Heap) (kc ks : Nat) (Q : Option Value → Heap → List Loc → Prop) : Prop :=
  BackS l R p e below (s.setVm vm0) args y len W (fun A a => a = as ∧ A.U.heap = h ∧ A.cells + kc ≤ R.cells ∧ A.slots + ks ≤ R.slots) (fun A _ v B => ∃ L, Q v B.U.heap L ∧ B.locs = A.locs ++ L ∧ B.cells = A.cells + kc ∧ B.slots = A.slots + ks ∧ CHr Z own_EL vm0 h B.U.vm B.U.heap)
def own_GoW (p : Program) (e : Env) (below : List Frame) (s : State) (Z : State) (h0 : Heap) (Q : Option Value → Heap → List Loc → Prop) (C S : Nat) (A : State) : Prop :=
  ∃ t v L, Steps p.tables e below A t ∧ t.status = .running ∧ Ended t below (.returned v) ∧ Q v t.heap L ∧ CHr Z own_EL s.vm h0 t.vm t.heap ∧ ReturnedEndW s (.returned v) t L C S
theorem own_stW {Q : Option Value → Heap → List Loc → Prop} {C S : Nat} {A B : State} (k : ∀ t, Steps p.tables e below B t → Steps p.tables e below A t) (G : own_GoW p e below s Z h0 Q C S B) : own_GoW p e below s Z h0 Q C S A := by
  obtain ⟨t, v, L, h1, h2⟩ := G
  exact ⟨t, v, L, k t h1, h2⟩
theorem own_bodyW {y : MethodName} {bytes : ByteArray} {maxL : Nat} {ret : Option FieldType} {ws : List Jvm.Cond} {rm : Room} {as : Array Value} {Q : Option Value → Heap → List Loc → Prop} (hp : plainFor y = true)
    (body : ∀ (p : Program) (e : Env) (s : State) (m : MethodId) (below : List Frame) (meth : Method) (c : Code) (T : State), Stand p l e rm (s.setVm s.vm) m as below meth c T [] 0 0 → p.tables.exec = Jvm.exec → c.code = bytes → c.maxLocals = maxL → Z.Warmed39 (s.setVm s.vm).vm → (s.setVm s.vm).vm.findClass y.cls = some m.cls → meth.name = y.name → meth.sig.returnType = ret → meth.locks = false → T.heap = h → s.Since s.vm 0 → CHr Z own_EL s.vm h s.vm h →
      own_GoW p e below s Z h Q rm.cells rm.slots (T.setTop (entryFrame m as maxL))) : own_CW l Z y bytes maxL ret ws rm as h Q := by
  refine MetFree.of_bodySF hp hisR ?_
  intro p e s m args below meth c s₁ Bd hml hP hK
  obtain ⟨rfl, hZ, hh, hC⟩ := hP
  obtain ⟨t, v, L, h1, h2, h3, h4, h5, h6⟩ := body p e s m below meth c s₁ (Stand.of_body Bd) Bd.exec Bd.bytes hml hZ (findClass_of_methodNamed Bd.named) (name_of_methodNamed Bd.named Bd.method).1 Bd.returns Bd.notSynchronized (by rw [← hh, Bd.state]; rfl) ((State.WarmedH.refl s).since 0) (CHr.refl hC)
  exact ⟨t, _, h1, h2, h3, v, L, rfl, h4, hh.symm ▸ h5, h6⟩
theorem own_endW {fs : List Frame} {v : Option Value} {C S : Nat} (hS : s.Since vm0 k0) (hk : k0 ≤ h.size) (eT : T.heap = h) (hW : (s.setVm vm0).WarmedH (T.setFrames fs).vm) (hsame : (s.setVm vm0).sameButNew ({ T.setFrames fs with vm := (s.setVm vm0).vm } : State) locs cells slots) (hc : cells ≤ C) (hs : slots ≤ S) : ReturnedEndW s (.returned v) (T.setFrames fs) locs C S := by
  have q : s.Since (T.setFrames fs).vm h.size := hS.trans (hW.since h.size) hk
  subst eT
  exact ⟨⟨_, rfl⟩, q.1, q.2, ((hsame.mono hc hs).setVm s.vm)⟩
theorem own_retW {Q : Option Value → Heap → List Loc → Prop} {C S : Nat} (X : Stand p l e R (s.setVm vm0) m args below meth c T locs cells slots) (hx : p.tables.exec = Jvm.exec) (hk : meth.locks = false) (eT : T.heap = h) (hZ : Z.Warmed39 vm0) (hEL : EW Z a0 own_EL) (hS : s.Since vm0 k0) (hk0 : k0 ≤ h.size) (CR : CHr Z own_EL s.vm h0 vm0 h) {pc : Nat} {Ls : Array Slot} {w : Value} {t : FieldType} {i : Instr} {rest : List Value} (hret : meth.sig.returnType = some t) (hn : narrow t w = w)
    (hi : (i = .ireturn ∧ (t = .int ∨ t = .boolean ∨ t = .byte ∨ t = .char ∨ t = .short) ∧ ∃ z, w = .int z) ∨ (i = .lreturn ∧ t = .long ∧ ∃ z, w = .long z) ∨ (i = .dreturn ∧ t = .double ∧ ∃ z, w = .double z) ∨ (i = .freturn ∧ t = .float ∧ ∃ z, w = .float z) ∨ (i = .areturn ∧ t.isReference = true ∧ w.isRef = true))
    (hd : decode c.code pc = .ok (i, 1)) (hc : cells ≤ C) (hs : slots ≤ S) (hq : Q (some w) h locs) : own_GoW p e below s Z h0 Q C S (T.setTop (mkF m pc Ls (w :: rest))) := by
  obtain ⟨fs, hr, hrun, hended, hW, hsame⟩ := X.leave (v := some w) (fun h => by rw [hret] at h; cases h) hk
  have D := CR.trans (CHv.at X hZ hEL CR.1)
  exact ⟨_, some w, locs, retOut X hx hret hn hi hd hr, hrun, hended, by subst eT; exact hq, by subst eT; exact D, own_endW hS hk0 eT hW hsame hc hs⟩
theorem own_retVW {Q : Option Value → Heap → List Loc → Prop} {C S : Nat} (X : Stand p l e R (s.setVm vm0) m args below meth c T locs cells slots) (hx : p.tables.exec = Jvm.exec) (hk : meth.locks = false) (eT : T.heap = h) (hZ : Z.Warmed39 vm0) (hEL : EW Z a0 own_EL) (hS : s.Since vm0 k0) (hk0 : k0 ≤ h.size) (CR : CHr Z own_EL s.vm h0 vm0 h) {pc : Nat} {Ls : Array Slot} (hret : meth.sig.returnType = none)
    (hd : decode c.code pc = .ok (.return_, 1)) (hc : cells ≤ C) (hs : slots ≤ S) (hq : Q none h locs) : own_GoW p e below s Z h0 Q C S (T.setTop (mkF m pc Ls [])) := by
  obtain ⟨fs, hr, hrun, hended, hW, hsame⟩ := X.leave (v := none) (fun _ => rfl) hk
  have D := CR.trans (CHv.at X hZ hEL CR.1)
  exact ⟨_, none, locs, X.returnOut hx hret hd hr, hrun, hended, by subst eT; exact hq, by subst eT; exact D, own_endW hS hk0 eT hW hsame hc hs⟩
theorem own_bkS {y : MethodName} {bytes : ByteArray} {maxL : Nat} {ret : Option FieldType} {rm : Room} {len W : Nat} {as : Array Value} {Q : Option Value → Heap → List Loc → Prop} (hM : own_CW l Z y bytes maxL ret [] rm as h Q) (hZ : Z.Warmed39 vm0) (wc : (Jvm.Cond.code y bytes maxL ret).before a0 Z = true) (wz : (Jvm.Cond.initialized y.cls).before a0 Z = true) (hf : rm.frames + 1 ≤ R.frames) (hl : W + (maxL + 11) + rm.locals ≤ R.locals) (hEL : EW Z a0 own_EL) (H : CHv Z own_EL vm0 h) :
    own_BkS l R p e below s vm0 Z args y len W as h rm.cells rm.slots Q := backOfSH hM hZ wc wz hf hl hEL H
theorem own_callSW (X : Stand p l e R (s.setVm vm0) m args below meth c T locs cells slots) (hx : p.tables.exec = Jvm.exec) (hZ : Z.Warmed39 (s.setVm vm0).vm) {own : String} {index : Nat} {y : MethodName} {bytes : ByteArray} {maxL : Nat} {ret : Option FieldType}
    (hown : (s.setVm vm0).vm.findClass own = some m.cls) (hS : s.Since vm0 k0) (hk : k0 ≤ h.size) (w1 : (Jvm.Cond.methodLink own index y).before a0 Z = true) (w2 : (Jvm.Cond.static y).before a0 Z = true) (w3 : (Jvm.Cond.initialized y.cls).before a0 Z = true) (w4 : (Jvm.Cond.code y bytes maxL ret).before a0 Z = true) (hy : y.cls ≠ "java/lang/invoke/MethodHandle" ∧ y.cls ≠ "java/lang/invoke/VarHandle")
    {W kc ks : Nat} {as : Array Value} {Q : Option Value → Heap → List Loc → Prop} (hK : own_BkS l R p e below s vm0 Z args y 3 W as h kc ks Q) (eT : T.heap = h) (hc : cells + kc ≤ R.cells) (hs : slots + ks ≤ R.slots)
    {g : JFrame} (hg : g.method = m) (hsize : g.locals.size = c.maxLocals) {argsL rest : List Value} (hlen : ∀ sig, parseMethodDescriptor y.desc = some sig → argsL.length = sig.parameters.length) (hstack : g.stack = argsL.reverse ++ rest) (has : argsL.toArray = as) (hW : 2 * g.monitorRoom + (rest.map fun v => v.category).sum ≤ W) (hdg : decode c.code g.pc = .ok (.invokestatic index, 3)) :
    ∃ (T' : State) (v : Option Value) (L : List Loc) (h' : Heap), Stand p l e R (s.setVm T'.vm) m args below meth c T' (locs ++ L) (cells + kc) (slots + ks) ∧ T'.heap = h' ∧ Q v h' L ∧ s.Since T'.vm h'.size ∧ Z.Warmed39 (s.setVm T'.vm).vm ∧ (s.setVm T'.vm).vm.findClass own = some m.cls ∧ CHr Z own_EL vm0 h T'.vm h' ∧ ∀ t, Steps p.tables e below (T'.setTop { g with pc := g.pc + 3, stack := v.toList ++ rest }) t → Steps p.tables e below (T.setTop g) t := by
  obtain ⟨v, _, ⟨T', L', k', n'⟩, -, X', h2, hgr, ⟨L, hQ, l1, y1, z1, hC⟩, st⟩ := callSS X hx hown (mvT hZ w1) (mvT hZ w2) (mvT hZ w3) (mvT hZ w4) hy hK hg hsize hlen hstack hW hdg (fun _ _ => ⟨has, eT, hc, hs⟩)
  dsimp only [Pt.U, Pt.locs, Pt.cells, Pt.slots] at X' h2 hgr hQ l1 y1 z1 hC st
  subst l1 y1 z1
  obtain ⟨r1, r2, r3, r4⟩ := rebS hS hk X' h2 (eT ▸ hgr) hZ hown
  exact ⟨T', v, L, _, r1, rfl, hQ, r2, r3, r4, hC, fun t k => st.trans k⟩
theorem own_callIW (X : Stand p l e R (s.setVm vm0) m args below meth c T locs cells slots) (hx : p.tables.exec = Jvm.exec) (hZ : Z.Warmed39 (s.setVm vm0).vm) {own : String} {index : Nat} {y : MethodName} (hy1 : y.name = "<init>") {bytes : ByteArray} {maxL : Nat}
    (hown : (s.setVm vm0).vm.findClass own = some m.cls) (hS : s.Since vm0 k0) (hk : k0 ≤ h.size) (w1 : (Jvm.Cond.methodLink own index y).before a0 Z = true) (w2 : (Jvm.Cond.instanceMethod y).before a0 Z = true) (w3 : (Jvm.Cond.code y bytes maxL none).before a0 Z = true) (hy : y.cls ≠ "java/lang/invoke/MethodHandle" ∧ y.cls ≠ "java/lang/invoke/VarHandle")
    {W kc ks : Nat} {as : Array Value} {Q : Option Value → Heap → List Loc → Prop} (hK : own_BkS l R p e below s vm0 Z args y 3 W as h kc ks Q) (eT : T.heap = h) (hc : cells + kc ≤ R.cells) (hs : slots + ks ≤ R.slots)
    {g : JFrame} (hg : g.method = m) (hsize : g.locals.size = c.maxLocals) {a : Addr} {argsL rest : List Value} (hlen : ∀ sig, parseMethodDescriptor y.desc = some sig → argsL.length = sig.parameters.length) (hstack : g.stack = argsL.reverse ++ .ref a :: rest) (has : (.ref a :: argsL).toArray = as) (hW : 2 * g.monitorRoom + (rest.map fun v => v.category).sum ≤ W) (hdg : decode c.code g.pc = .ok (.invokespecial index, 3)) :
    ∃ (T' : State) (v : Option Value) (L : List Loc) (h' : Heap), Stand p l e R (s.setVm T'.vm) m args below meth c T' (locs ++ L) (cells + kc) (slots + ks) ∧ T'.heap = h' ∧ Q v h' L ∧ s.Since T'.vm h'.size ∧ Z.Warmed39 (s.setVm T'.vm).vm ∧ (s.setVm T'.vm).vm.findClass own = some m.cls ∧ CHr Z own_EL vm0 h T'.vm h' ∧ ∀ t, Steps p.tables e below (T'.setTop { g with pc := g.pc + 3, stack := v.toList ++ rest }) t → Steps p.tables e below (T.setTop g) t := by
  obtain ⟨v, _, ⟨T', L', k', n'⟩, -, X', h2, hgr, ⟨L, hQ, l1, y1, z1, hC⟩, st⟩ := X.specialBackS hx hy1 hown (mvT hZ w1) (mvT hZ w2) (mvT hZ w3) hy hK hg hsize (Steps.refl _) hlen hstack hW hdg (fun _ _ => ⟨has, eT, hc, hs⟩)
  dsimp only [Pt.U, Pt.locs, Pt.cells, Pt.slots] at X' h2 hgr hQ l1 y1 z1 hC st
  subst l1 y1 z1
  obtain ⟨r1, r2, r3, r4⟩ := rebS hS hk X' h2 (eT ▸ hgr) hZ hown
  exact ⟨T', v, L, _, r1, rfl, hQ, r2, r3, r4, hC, fun t k => st.trans k⟩
theorem own_callVW (X : Stand p l e R (s.setVm vm0) m args below meth c T locs cells slots) (hx : p.tables.exec = Jvm.exec) (hZ : Z.Warmed39 (s.setVm vm0).vm) {own C : String} {index : Nat} {y z : MethodName}
    (hown : (s.setVm vm0).vm.findClass own = some m.cls) (hS : s.Since vm0 k0) (hk : k0 ≤ h.size) (w1 : (Jvm.Cond.methodLink own index y).before a0 Z = true) (w2 : (Jvm.Cond.declares y).before a0 Z = true) (nf : NotFace (s.setVm vm0) y) (w3 : (Jvm.Cond.selects C y z).before a0 Z = true) (w4 : (Jvm.Cond.instanceMethod z).before a0 Z = true) (hy : y.cls ≠ "java/lang/invoke/MethodHandle" ∧ y.cls ≠ "java/lang/invoke/VarHandle")
    {W kc ks : Nat} {as : Array Value} {Q : Option Value → Heap → List Loc → Prop} (hK : own_BkS l R p e below s vm0 Z args z 3 W as h kc ks Q) (eT : T.heap = h) {b : Addr} (E : Exa Z h b C) (hc : cells + kc ≤ R.cells) (hs : slots + ks ≤ R.slots)
    {g : JFrame} (hg : g.method = m) (hsize : g.locals.size = c.maxLocals) {argsL rest : List Value} (hlen : ∀ sig, parseMethodDescriptor y.desc = some sig → argsL.length = sig.parameters.length) (hstack : g.stack = argsL.reverse ++ .ref b :: rest) (has : (.ref b :: argsL).toArray = as) (hW : 2 * g.monitorRoom + (rest.map fun v => v.category).sum ≤ W) (hdg : decode c.code g.pc = .ok (.invokevirtual index, 3)) :
    ∃ (T' : State) (v : Option Value) (L : List Loc) (h' : Heap), Stand p l e R (s.setVm T'.vm) m args below meth c T' (locs ++ L) (cells + kc) (slots + ks) ∧ T'.heap = h' ∧ Q v h' L ∧ s.Since T'.vm h'.size ∧ Z.Warmed39 (s.setVm T'.vm).vm ∧ (s.setVm T'.vm).vm.findClass own = some m.cls ∧ CHr Z own_EL vm0 h T'.vm h' ∧ ∀ t, Steps p.tables e below (T'.setTop { g with pc := g.pc + 3, stack := v.toList ++ rest }) t → Steps p.tables e below (T.setTop g) t := by
  obtain ⟨cq, kq, qa, qb, qc⟩ := isOf hZ eT E
  obtain ⟨v, _, ⟨T', L', k', n'⟩, -, X', h2, hgr, ⟨L, hQ, l1, y1, z1, hC⟩, st⟩ := X.virtualBackS hx hown (mvT hZ w1) (mvT hZ w2) nf (mvT hZ w3) (mvT hZ w4) hy hK qa qc hg hsize (Steps.refl _) hlen hstack hW hdg (fun _ _ => ⟨has, eT, hc, hs⟩)
  dsimp only [Pt.U, Pt.locs, Pt.cells, Pt.slots] at X' h2 hgr hQ l1 y1 z1 hC st
  subst l1 y1 z1
  obtain ⟨r1, r2, r3, r4⟩ := rebS hS hk X' h2 (eT ▸ hgr) hZ hown
  exact ⟨T', v, L, _, r1, rfl, hQ, r2, r3, r4, hC, fun t k => st.trans k⟩
theorem own_wStr (hw : ∀ d ∈ tables_1, d.before a0 Z = true) : ∀ d ∈ Bundle.stringAtoms, d.before a0 Z = true := fun d hd => hw d ((by decide +kernel : ∀ d ∈ Bundle.stringAtoms, d ∈ tables_1) d hd)
end OwnWide
end Jvm.Pilot.@@N@@
/- own kit W2: String constants read; a String under construction is no booked one -/
namespace Jvm.Pilot.@@N@@
open Jvm Jvm.ClassFile Sem Op Lib Jvm.Free Jvm.Stand Jvm.LawKit Jvm.RoadKit Bundle Jvm.Pilot.@@N@@.Jvm.D
section OwnWide2
variable {Z : State} {h : Heap} {vm : Vm} {EL : List (String × Nat)}
theorem own_safeNull {x : Addr} (hal : Z.vm.Alike vm) (E : Exa Z h x "java/lang/String") (V : Fld Z h x "java/lang/String" "value" "[B" .null) : Safe Z EL vm h x := fun B => by
  obtain ⟨p, -, u, a, -, q, rfl, F, rfl | rfl⟩ := B
  · obtain ⟨cS, ⟨⟨s1, s2, s3, ⟨cv, kv, iv, s4, s4'⟩, -, s6, s7, s8, -⟩, -⟩, -⟩ := F
    obtain ⟨cell, cf, k, i, f, h1, h2, h3, h4, h5, h6, h7⟩ := V
    obtain ⟨kv', z4⟩ := ff_back (U := Wst Z vm h) hal s4
    cases (show Z.fieldFound? "java/lang/String" "value" "[B" = some (cv, kv', iv, q.fSV) from z4).symm.trans h2
    have e1 : q.sC = cell := Option.some.inj ((show h[q.sa]? = some q.sC from s1).symm.trans h1)
    rw [← e1, s8] at h7
    cases h7
  · have hd := F.hd
    obtain ⟨cS, -, -, hB, -⟩ := F
    obtain ⟨cell, k, e1, e2, -⟩ := E
    have hB : vm.findClass "[B" = some q.SA.cls := hB
    rw [hal.findClass] at hB
    have ec : q.SA = cell := Option.some.inj ((show h[q.sd]? = some q.SA from hd).symm.trans e1)
    rw [← ec] at e2
    exact ids_ne hB e2 (by decide) rfl
theorem own_litStr {a b : Addr} {k : ClassId} {z : Int32} {vs : List Value} {cs : List Int32} (E : Exa Z h a "java/lang/String") (C : Fld Z h a "java/lang/String" "coder" "B" (.int 0)) (V : Fld Z h a "java/lang/String" "value" "[B" (.ref b)) (A : Arv Z h b k .byte z vs (.int 0)) (hz : z = Int32.ofNat cs.length) (hv : vs = cs.map fun c => Value.int (StrChars.lo8 c)) (hc : ∀ c ∈ cs, ¬ c < 0 ∧ ¬ (255 : Int32) < c) (hl : cs.length ≤ 4000) : own_Str Z h a cs :=
  ⟨E, b, k, 0, z, vs, V, C, A, Or.inl ⟨rfl, hz, hv, fun c q => (hc c q).2⟩, own_up _ hc, hl⟩
end OwnWide2
end Jvm.Pilot.@@N@@
namespace Jvm.Pilot.@@N@@
open Jvm Jvm.ClassFile Sem Op Lib Jvm.Free Jvm.Stand Jvm.LawKit Jvm.RoadKit Bundle Jvm.Pilot.@@N@@.Jvm.D
theorem own_eqI {args : Array Value} {first s : State} {o : Option Outcome} {idx : List Nat} {t : Term} {k : Int32} (h : (Jvm.Cond.eq t (.int k)).value args first o s idx = some true) : t.eval args first o idx s = some (.int k) := by
  obtain ⟨y, h1, h2⟩ := Cond.eq_one (beq_iff_eq.mpr h : (Jvm.Cond.eq t (.int k)).holds args first o s idx = true)
  exact h1.trans (h2.symm.trans (Term.int_eval k))
theorem own_eqR {args : Array Value} {first s : State} {o : Option Outcome} {idx : List Nat} {t u : Term} {v : Value} (h : (Jvm.Cond.eq t u).value args first o s idx = some true) (hu : u.eval args first o idx s = some v) : t.eval args first o idx s = some v := by
  obtain ⟨y, h1, h2⟩ := Cond.eq_one (beq_iff_eq.mpr h : (Jvm.Cond.eq t u).holds args first o s idx = true)
  exact h1.trans (h2.symm.trans hu)
theorem own_len {args : Array Value} {Z : State} {t : Term} {n : Int32} {a : Addr} {cl : Cell} {ty : FieldType} (A : Arr Z Z.heap a cl ty) (h : (Term.length t).eval args Z none [] Z = some (.int n)) (ht : t.eval args Z none [] Z = some (.ref a)) : cl.slots.size < 2 ^ 31 ∧ cl.slots.size.toInt32 = n := by
  have ha : Z.arrayAt? a = some cl := A.fin (Vm.Alike.refl _)
  by_cases hn : cl.slots.size < 2 ^ 31
  · have q := len_f ht ha hn
    cases h.symm.trans q
    exact ⟨hn, rfl⟩
  · simp [Term.eval, ht, ha] at h
    exact absurd h.1 hn
theorem own_el {args : Array Value} {Z : State} {t : Term} {v : Value} {a : Addr} {cl : Cell} {ty : FieldType} {j : Int32} (A : Arr Z Z.heap a cl ty) (h : (Term.elem t (.int j)).eval args Z none [] Z = some v) (ht : t.eval args Z none [] Z = some (.ref a)) : cl.slots[j.toNatClampNeg]? = some v := (elem_in h ht (Term.int_eval j) A.1).2
def own_hs (c : Int32) : Prop := ¬ c < 55296 ∧ c < 56320
def own_lg (c : Int32) : Prop := ¬ c < 56320 ∧ c < 57344
instance (c : Int32) : Decidable (own_hs c) := by unfold own_hs; infer_instance
instance (c : Int32) : Decidable (own_lg c) := by unfold own_lg; infer_instance
def own_tcp (a b : Int32) : Int32 := (((a <<< ((10 : Int32) &&& 31)) + b) + (-56613888 : Int32))
def own_cp (cs : List Int32) (i : Nat) : Int32 := if own_hs (cs.getD i 0) ∧ i + 1 < cs.length ∧ own_lg (cs.getD (i + 1) 0) then own_tcp (cs.getD i 0) (cs.getD (i + 1) 0) else cs.getD i 0
def own_ic (a b : Int32) : Int32 := if a < b then -1 else if a = b then 0 else 1
def own_sg (a : Int32) : Int32 := if a < 0 then -1 else if (0 : Int32) < a then 1 else 0
def own_mk (n c0 c1 : Int32) : List Int32 := if n = 0 then [] else if n = 1 then [c0] else [c0, c1]
def own_pts (n c0 c1 : Int32) : List Int32 := if n = 1 then [1, c0, 0] else if n = 2 then (if c0 < 55296 then [2, c0, c1] else if (56319 : Int32) < c0 then [2, c0, c1] else if c1 < 56320 then [2, c0, c1] else if (57343 : Int32) < c1 then [2, c0, c1] else [1, (((65536 : Int32) + ((c0 - (55296 : Int32)) <<< ((10 : Int32) &&& 31))) + (c1 - (56320 : Int32))), 0]) else [0, 0, 0]
def own_ln (a b : Int32) : Int32 := if a < b then -1 else if b < a then 1 else 0
def own_exp (a b : List Int32) : Int32 := if a.getD 0 0 < 1 then own_ln (a.getD 0 0) (b.getD 0 0) else if b.getD 0 0 < 1 then own_ln (a.getD 0 0) (b.getD 0 0) else if a.getD 1 0 = b.getD 1 0 then (if a.getD 0 0 < 2 then own_ln (a.getD 0 0) (b.getD 0 0) else if b.getD 0 0 < 2 then own_ln (a.getD 0 0) (b.getD 0 0) else if a.getD 2 0 = b.getD 2 0 then own_ln (a.getD 0 0) (b.getD 0 0) else if a.getD 2 0 < b.getD 2 0 then -1 else 1) else if a.getD 1 0 < b.getD 1 0 then -1 else 1
def own_Cmp (cs ds : List Int32) (r : Int32) : Prop :=
  (¬ 0 < min cs.length ds.length ∧ r = own_ic (Int32.ofNat cs.length) (Int32.ofNat ds.length)) ∨
  (0 < min cs.length ds.length ∧ ¬ own_cp cs 0 = own_cp ds 0 ∧ r = own_ic (own_cp cs 0) (own_cp ds 0)) ∨
  (0 < min cs.length ds.length ∧ own_cp cs 0 = own_cp ds 0 ∧ own_cp cs 0 < 65536 ∧ ¬ 1 < min cs.length ds.length ∧ r = own_ic (Int32.ofNat cs.length) (Int32.ofNat ds.length)) ∨
  (0 < min cs.length ds.length ∧ own_cp cs 0 = own_cp ds 0 ∧ own_cp cs 0 < 65536 ∧ 1 < min cs.length ds.length ∧ ¬ own_cp cs 1 = own_cp ds 1 ∧ r = own_ic (own_cp cs 1) (own_cp ds 1)) ∨
  (0 < min cs.length ds.length ∧ own_cp cs 0 = own_cp ds 0 ∧ own_cp cs 0 < 65536 ∧ 1 < min cs.length ds.length ∧ own_cp cs 1 = own_cp ds 1 ∧ r = own_ic (Int32.ofNat cs.length) (Int32.ofNat ds.length)) ∨
  (0 < min cs.length ds.length ∧ own_cp cs 0 = own_cp ds 0 ∧ ¬ own_cp cs 0 < 65536 ∧ r = own_ic (Int32.ofNat cs.length) (Int32.ofNat ds.length))
def own_D (L la : List Int32) : Prop := (la = [0, 0, 0] ∧ L.length = 0) ∨ (∃ p, la = [1, p, 0] ∧ own_cp L 0 = p ∧ p < 65536 ∧ L.length = 1) ∨ (∃ p, la = [1, p, 0] ∧ own_cp L 0 = p ∧ ¬ p < 65536 ∧ L.length = 2) ∨ (∃ p q, la = [2, p, q] ∧ own_cp L 0 = p ∧ p < 65536 ∧ L.length = 2 ∧ own_cp L 1 = q)
theorem own_tot {a b : Int32} (h1 : ¬ a < b) (h2 : ¬ a = b) : b < a := by
  rw [Int32.lt_iff_toInt_lt] at h1 ⊢
  have h3 : ¬ a.toInt = b.toInt := fun q => h2 (Int32.toInt_inj.mp q)
  omega
theorem own_asy {a b : Int32} (h1 : a < b) : ¬ b < a := by
  rw [Int32.lt_iff_toInt_lt] at h1 ⊢; omega
theorem own_irr {a b : Int32} (h1 : a < b) : ¬ a = b := fun q => by rw [q, Int32.lt_iff_toInt_lt] at h1; omega
theorem own_sgi {a b : Int32} (h : ¬ a = b) : own_sg (own_ic a b) = if a < b then -1 else 1 := by
  unfold own_ic
  by_cases q : a < b
  · rw [if_pos q, if_pos q]; decide
  · rw [if_neg q, if_neg q, if_neg h]; decide
theorem own_lnN (a b : Int32) : own_ln b a = - own_ln a b := by
  unfold own_ln
  by_cases q : a < b
  · have q2 := own_asy q
    simp only [if_pos q, if_neg q2]; decide
  · by_cases q2 : b < a
    · simp only [if_neg q, if_pos q2]
    · simp only [if_neg q, if_neg q2]; decide
theorem own_expN (a b : List Int32) : own_exp b a = - own_exp a b := by
  have ln := own_lnN (a.getD 0 0) (b.getD 0 0)
  unfold own_exp
  by_cases q1 : a.getD 0 0 < 1
  · rw [if_pos q1, if_pos q1, ln]; split <;> rfl
  · rw [if_neg q1, if_neg q1]
    by_cases q2 : b.getD 0 0 < 1
    · rw [if_pos q2, if_pos q2, ln]
    · rw [if_neg q2, if_neg q2]
      by_cases q3 : a.getD 1 0 = b.getD 1 0
      · rw [if_pos q3, if_pos q3.symm]
        by_cases q4 : a.getD 0 0 < 2
        · rw [if_pos q4, if_pos q4, ln]; split <;> rfl
        · rw [if_neg q4, if_neg q4]
          by_cases q5 : b.getD 0 0 < 2
          · rw [if_pos q5, if_pos q5, ln]
          · rw [if_neg q5, if_neg q5]
            by_cases q6 : a.getD 2 0 = b.getD 2 0
            · rw [if_pos q6, if_pos q6.symm, ln]
            · rw [if_neg q6, if_neg (fun q => q6 q.symm)]
              by_cases q7 : a.getD 2 0 < b.getD 2 0
              · rw [if_pos q7, if_neg (own_asy q7)]; decide
              · rw [if_neg q7, if_pos (own_tot q7 q6)]
      · rw [if_neg q3, if_neg (fun q => q3 q.symm)]
        by_cases q7 : a.getD 1 0 < b.getD 1 0
        · rw [if_pos q7, if_neg (own_asy q7)]; decide
        · rw [if_neg q7, if_pos (own_tot q7 q3)]
theorem own_expE (k p q k' p' q' : Int32) : own_exp [k, p, q] [k', p', q'] = (if k < 1 then own_ln k k' else if k' < 1 then own_ln k k' else if p = p' then (if k < 2 then own_ln k k' else if k' < 2 then own_ln k k' else if q = q' then own_ln k k' else if q < q' then -1 else 1) else if p < p' then -1 else 1) := rfl
theorem own_final {L M la lb : List Int32} {r : Int32} (h1 : own_D L la) (h2 : own_D M lb) (h : own_Cmp L M r) : own_sg r = own_exp la lb := by
  unfold own_Cmp at h
  rcases h1 with ⟨rfl, e1⟩ | ⟨p, rfl, e0, e2, e1⟩ | ⟨p, rfl, e0, e2, e1⟩ | ⟨p, q, rfl, e0, e2, e1, e3⟩
  · rcases h2 with ⟨rfl, f1⟩ | ⟨p', rfl, f0, f2, f1⟩ | ⟨p', rfl, f0, f2, f1⟩ | ⟨p', q', rfl, f0, f2, f1, f3⟩
    · simp only [e1, f1] at h
      rcases h with ⟨a1, rfl⟩ | ⟨a1, a2, rfl⟩ | ⟨a1, a2, a3, a4, rfl⟩ | ⟨a1, a2, a3, a4, a5, rfl⟩ | ⟨a1, a2, a3, a4, a5, rfl⟩ | ⟨a1, a2, a3, rfl⟩
      · rw [own_expE, if_pos (by decide : (0 : Int32) < 1)]; decide
      · exact absurd a1 (by decide)
      · exact absurd a1 (by decide)
      · exact absurd a1 (by decide)
      · exact absurd a1 (by decide)
      · exact absurd a1 (by decide)
    · simp only [e1, f1, f0] at h
      rcases h with ⟨a1, rfl⟩ | ⟨a1, a2, rfl⟩ | ⟨a1, a2, a3, a4, rfl⟩ | ⟨a1, a2, a3, a4, a5, rfl⟩ | ⟨a1, a2, a3, a4, a5, rfl⟩ | ⟨a1, a2, a3, rfl⟩
      · rw [own_expE, if_pos (by decide : (0 : Int32) < 1)]; decide
      · exact absurd a1 (by decide)
      · exact absurd a1 (by decide)
      · exact absurd a1 (by decide)
      · exact absurd a1 (by decide)
      · exact absurd a1 (by decide)
    · simp only [e1, f1, f0] at h
      rcases h with ⟨a1, rfl⟩ | ⟨a1, a2, rfl⟩ | ⟨a1, a2, a3, a4, rfl⟩ | ⟨a1, a2, a3, a4, a5, rfl⟩ | ⟨a1, a2, a3, a4, a5, rfl⟩ | ⟨a1, a2, a3, rfl⟩
      · rw [own_expE, if_pos (by decide : (0 : Int32) < 1)]; decide
      · exact absurd a1 (by decide)
      · exact absurd a1 (by decide)
      · exact absurd a1 (by decide)
      · exact absurd a1 (by decide)
      · exact absurd a1 (by decide)
    · simp only [e1, f1, f0, f3] at h
      rcases h with ⟨a1, rfl⟩ | ⟨a1, a2, rfl⟩ | ⟨a1, a2, a3, a4, rfl⟩ | ⟨a1, a2, a3, a4, a5, rfl⟩ | ⟨a1, a2, a3, a4, a5, rfl⟩ | ⟨a1, a2, a3, rfl⟩
      · rw [own_expE, if_pos (by decide : (0 : Int32) < 1)]; decide
      · exact absurd a1 (by decide)
      · exact absurd a1 (by decide)
      · exact absurd a1 (by decide)
      · exact absurd a1 (by decide)
      · exact absurd a1 (by decide)
  · rcases h2 with ⟨rfl, f1⟩ | ⟨p', rfl, f0, f2, f1⟩ | ⟨p', rfl, f0, f2, f1⟩ | ⟨p', q', rfl, f0, f2, f1, f3⟩
    · simp only [e1, f1, e0] at h
      rcases h with ⟨a1, rfl⟩ | ⟨a1, a2, rfl⟩ | ⟨a1, a2, a3, a4, rfl⟩ | ⟨a1, a2, a3, a4, a5, rfl⟩ | ⟨a1, a2, a3, a4, a5, rfl⟩ | ⟨a1, a2, a3, rfl⟩
      · rw [own_expE, if_neg (by decide : ¬ (1 : Int32) < 1), if_pos (by decide : (0 : Int32) < 1)]; decide
      · exact absurd a1 (by decide)
      · exact absurd a1 (by decide)
      · exact absurd a1 (by decide)
      · exact absurd a1 (by decide)
      · exact absurd a1 (by decide)
    · simp only [e1, f1, e0, f0] at h
      rcases h with ⟨a1, rfl⟩ | ⟨a1, a2, rfl⟩ | ⟨a1, a2, a3, a4, rfl⟩ | ⟨a1, a2, a3, a4, a5, rfl⟩ | ⟨a1, a2, a3, a4, a5, rfl⟩ | ⟨a1, a2, a3, rfl⟩
      · exact absurd (by decide) a1
      · rw [own_sgi a2, own_expE, if_neg (by decide : ¬ (1 : Int32) < 1), if_neg (by decide : ¬ (1 : Int32) < 1), if_neg a2]
      · rw [own_expE, if_neg (by decide : ¬ (1 : Int32) < 1), if_neg (by decide : ¬ (1 : Int32) < 1), if_pos a2, if_pos (by decide : (1 : Int32) < 2)]; decide
      · exact absurd a4 (by decide)
      · exact absurd a4 (by decide)
      · exact absurd e2 a3
    · simp only [e1, f1, e0, f0] at h
      rcases h with ⟨a1, rfl⟩ | ⟨a1, a2, rfl⟩ | ⟨a1, a2, a3, a4, rfl⟩ | ⟨a1, a2, a3, a4, a5, rfl⟩ | ⟨a1, a2, a3, a4, a5, rfl⟩ | ⟨a1, a2, a3, rfl⟩
      · exact absurd (by decide) a1
      · rw [own_sgi a2, own_expE, if_neg (by decide : ¬ (1 : Int32) < 1), if_neg (by decide : ¬ (1 : Int32) < 1), if_neg a2]
      · rw [a2] at e2; exact absurd e2 f2
      · rw [a2] at e2; exact absurd e2 f2
      · rw [a2] at e2; exact absurd e2 f2
      · rw [a2] at e2; exact absurd e2 f2
    · simp only [e1, f1, e0, f0, f3] at h
      rcases h with ⟨a1, rfl⟩ | ⟨a1, a2, rfl⟩ | ⟨a1, a2, a3, a4, rfl⟩ | ⟨a1, a2, a3, a4, a5, rfl⟩ | ⟨a1, a2, a3, a4, a5, rfl⟩ | ⟨a1, a2, a3, rfl⟩
      · exact absurd (by decide) a1
      · rw [own_sgi a2, own_expE, if_neg (by decide : ¬ (1 : Int32) < 1), if_neg (by decide : ¬ (2 : Int32) < 1), if_neg a2]
      · rw [own_expE, if_neg (by decide : ¬ (1 : Int32) < 1), if_neg (by decide : ¬ (2 : Int32) < 1), if_pos a2, if_pos (by decide : (1 : Int32) < 2)]; decide
      · exact absurd a4 (by decide)
      · exact absurd a4 (by decide)
      · exact absurd e2 a3
  · rcases h2 with ⟨rfl, f1⟩ | ⟨p', rfl, f0, f2, f1⟩ | ⟨p', rfl, f0, f2, f1⟩ | ⟨p', q', rfl, f0, f2, f1, f3⟩
    · simp only [e1, f1, e0] at h
      rcases h with ⟨a1, rfl⟩ | ⟨a1, a2, rfl⟩ | ⟨a1, a2, a3, a4, rfl⟩ | ⟨a1, a2, a3, a4, a5, rfl⟩ | ⟨a1, a2, a3, a4, a5, rfl⟩ | ⟨a1, a2, a3, rfl⟩
      · rw [own_expE, if_neg (by decide : ¬ (1 : Int32) < 1), if_pos (by decide : (0 : Int32) < 1)]; decide
      · exact absurd a1 (by decide)
      · exact absurd a1 (by decide)
      · exact absurd a1 (by decide)
      · exact absurd a1 (by decide)
      · exact absurd a1 (by decide)
    · simp only [e1, f1, e0, f0] at h
      rcases h with ⟨a1, rfl⟩ | ⟨a1, a2, rfl⟩ | ⟨a1, a2, a3, a4, rfl⟩ | ⟨a1, a2, a3, a4, a5, rfl⟩ | ⟨a1, a2, a3, a4, a5, rfl⟩ | ⟨a1, a2, a3, rfl⟩
      · exact absurd (by decide) a1
      · rw [own_sgi a2, own_expE, if_neg (by decide : ¬ (1 : Int32) < 1), if_neg (by decide : ¬ (1 : Int32) < 1), if_neg a2]
      · rw [a2] at e2; exact absurd f2 e2
      · rw [a2] at e2; exact absurd f2 e2
      · rw [a2] at e2; exact absurd f2 e2
      · rw [a2] at e2; exact absurd f2 e2
    · simp only [e1, f1, e0, f0] at h
      rcases h with ⟨a1, rfl⟩ | ⟨a1, a2, rfl⟩ | ⟨a1, a2, a3, a4, rfl⟩ | ⟨a1, a2, a3, a4, a5, rfl⟩ | ⟨a1, a2, a3, a4, a5, rfl⟩ | ⟨a1, a2, a3, rfl⟩
      · exact absurd (by decide) a1
      · rw [own_sgi a2, own_expE, if_neg (by decide : ¬ (1 : Int32) < 1), if_neg (by decide : ¬ (1 : Int32) < 1), if_neg a2]
      · exact absurd (by decide) a4
      · exact absurd a3 e2
      · exact absurd a3 e2
      · rw [own_expE, if_neg (by decide : ¬ (1 : Int32) < 1), if_neg (by decide : ¬ (1 : Int32) < 1), if_pos a2, if_pos (by decide : (1 : Int32) < 2)]; decide
    · simp only [e1, f1, e0, f0, f3] at h
      rcases h with ⟨a1, rfl⟩ | ⟨a1, a2, rfl⟩ | ⟨a1, a2, a3, a4, rfl⟩ | ⟨a1, a2, a3, a4, a5, rfl⟩ | ⟨a1, a2, a3, a4, a5, rfl⟩ | ⟨a1, a2, a3, rfl⟩
      · exact absurd (by decide) a1
      · rw [own_sgi a2, own_expE, if_neg (by decide : ¬ (1 : Int32) < 1), if_neg (by decide : ¬ (2 : Int32) < 1), if_neg a2]
      · rw [a2] at e2; exact absurd f2 e2
      · rw [a2] at e2; exact absurd f2 e2
      · rw [a2] at e2; exact absurd f2 e2
      · rw [a2] at e2; exact absurd f2 e2
  · rcases h2 with ⟨rfl, f1⟩ | ⟨p', rfl, f0, f2, f1⟩ | ⟨p', rfl, f0, f2, f1⟩ | ⟨p', q', rfl, f0, f2, f1, f3⟩
    · simp only [e1, f1, e0, e3] at h
      rcases h with ⟨a1, rfl⟩ | ⟨a1, a2, rfl⟩ | ⟨a1, a2, a3, a4, rfl⟩ | ⟨a1, a2, a3, a4, a5, rfl⟩ | ⟨a1, a2, a3, a4, a5, rfl⟩ | ⟨a1, a2, a3, rfl⟩
      · rw [own_expE, if_neg (by decide : ¬ (2 : Int32) < 1), if_pos (by decide : (0 : Int32) < 1)]; decide
      · exact absurd a1 (by decide)
      · exact absurd a1 (by decide)
      · exact absurd a1 (by decide)
      · exact absurd a1 (by decide)
      · exact absurd a1 (by decide)
    · simp only [e1, f1, e0, f0, e3] at h
      rcases h with ⟨a1, rfl⟩ | ⟨a1, a2, rfl⟩ | ⟨a1, a2, a3, a4, rfl⟩ | ⟨a1, a2, a3, a4, a5, rfl⟩ | ⟨a1, a2, a3, a4, a5, rfl⟩ | ⟨a1, a2, a3, rfl⟩
      · exact absurd (by decide) a1
      · rw [own_sgi a2, own_expE, if_neg (by decide : ¬ (2 : Int32) < 1), if_neg (by decide : ¬ (1 : Int32) < 1), if_neg a2]
      · rw [own_expE, if_neg (by decide : ¬ (2 : Int32) < 1), if_neg (by decide : ¬ (1 : Int32) < 1), if_pos a2, if_neg (by decide : ¬ (2 : Int32) < 2), if_pos (by decide : (1 : Int32) < 2)]; decide
      · exact absurd a4 (by decide)
      · exact absurd a4 (by decide)
      · exact absurd e2 a3
    · simp only [e1, f1, e0, f0, e3] at h
      rcases h with ⟨a1, rfl⟩ | ⟨a1, a2, rfl⟩ | ⟨a1, a2, a3, a4, rfl⟩ | ⟨a1, a2, a3, a4, a5, rfl⟩ | ⟨a1, a2, a3, a4, a5, rfl⟩ | ⟨a1, a2, a3, rfl⟩
      · exact absurd (by decide) a1
      · rw [own_sgi a2, own_expE, if_neg (by decide : ¬ (2 : Int32) < 1), if_neg (by decide : ¬ (1 : Int32) < 1), if_neg a2]
      · rw [a2] at e2; exact absurd e2 f2
      · rw [a2] at e2; exact absurd e2 f2
      · rw [a2] at e2; exact absurd e2 f2
      · rw [a2] at e2; exact absurd e2 f2
    · simp only [e1, f1, e0, f0, e3, f3] at h
      rcases h with ⟨a1, rfl⟩ | ⟨a1, a2, rfl⟩ | ⟨a1, a2, a3, a4, rfl⟩ | ⟨a1, a2, a3, a4, a5, rfl⟩ | ⟨a1, a2, a3, a4, a5, rfl⟩ | ⟨a1, a2, a3, rfl⟩
      · exact absurd (by decide) a1
      · rw [own_sgi a2, own_expE, if_neg (by decide : ¬ (2 : Int32) < 1), if_neg (by decide : ¬ (2 : Int32) < 1), if_neg a2]
      · exact absurd (by decide) a4
      · rw [own_sgi a5, own_expE, if_neg (by decide : ¬ (2 : Int32) < 1), if_neg (by decide : ¬ (2 : Int32) < 1), if_pos a2, if_neg (by decide : ¬ (2 : Int32) < 2), if_neg (by decide : ¬ (2 : Int32) < 2), if_neg a5]
      · rw [own_expE, if_neg (by decide : ¬ (2 : Int32) < 1), if_neg (by decide : ¬ (2 : Int32) < 1), if_pos a2, if_neg (by decide : ¬ (2 : Int32) < 2), if_neg (by decide : ¬ (2 : Int32) < 2), if_pos a5]; decide
      · exact absurd e2 a3
theorem own_shl10 (x : Int32) : (x <<< ((10 : Int32) &&& 31)) = x * 1024 := by
  have e : ((10 : Int32) &&& 31) = 10 := by decide
  rw [e]
  apply Int32.toBitVec_inj.mp
  rw [Int32.toBitVec_shiftLeft, Int32.toBitVec_mul]
  have e1 : ((10 : Int32).toBitVec.smod 32) = 10#32 := by decide
  rw [e1, BitVec.shiftLeft_eq']
  have e2 : (1024 : Int32).toBitVec = BitVec.twoPow 32 10 := by decide
  rw [e2, BitVec.mul_twoPow_eq_shiftLeft]
  rfl
theorem own_sur (a b : Int32) : (((65536 : Int32) + ((a - (55296 : Int32)) <<< ((10 : Int32) &&& 31))) + (b - (56320 : Int32))) = own_tcp a b := by
  unfold own_tcp
  rw [own_shl10, own_shl10]
  grind
theorem own_big {c0 c1 : Int32} (q1 : ¬ c0 < 55296) (q2 : ¬ (56319 : Int32) < c0) (q3 : ¬ c1 < 56320) (q4 : ¬ (57343 : Int32) < c1) : ¬ own_tcp c0 c1 < 65536 := by
  rw [← own_sur, own_shl10]
  rw [Int32.lt_iff_toInt_lt] at q1 q2 q3 q4 ⊢
  have f1 : (56319 : Int32).toInt = 56319 := rfl
  have f2 : (56320 : Int32).toInt = 56320 := rfl
  have f3 : (57343 : Int32).toInt = 57343 := rfl
  have f5 : (55296 : Int32).toInt = 55296 := rfl
  have f6 : (65536 : Int32).toInt = 65536 := rfl
  have f7 : (1024 : Int32).toInt = 1024 := rfl
  rw [f5] at q1
  rw [f1] at q2
  rw [f2] at q3
  rw [f3] at q4
  have s1 : (c0 - 55296).toInt = c0.toInt - 55296 := by
    have q := c_isub c0 55296
    have r := rng32 (c0 - 55296)
    rw [f5] at q; omega
  have s2 : (c1 - 56320).toInt = c1.toInt - 56320 := by
    have q := c_isub c1 56320
    have r := rng32 (c1 - 56320)
    rw [f2] at q; omega
  have m1 : ((c0 - 55296) * 1024).toInt = (c0.toInt - 55296) * 1024 := by
    rw [Int32.toInt_mul, s1, f7]
    exact Int.bmod_eq_of_le (by omega) (by omega)
  have a1 : (65536 + (c0 - 55296) * 1024).toInt = 65536 + (c0.toInt - 55296) * 1024 := by
    have q := c_iadd 65536 ((c0 - 55296) * 1024)
    have r := rng32 (65536 + (c0 - 55296) * 1024)
    rw [f6, m1] at q; omega
  have a2 : (65536 + (c0 - 55296) * 1024 + (c1 - 56320)).toInt = 65536 + (c0.toInt - 55296) * 1024 + (c1.toInt - 56320) := by
    have q := c_iadd (65536 + (c0 - 55296) * 1024) (c1 - 56320)
    have r := rng32 (65536 + (c0 - 55296) * 1024 + (c1 - 56320))
    rw [a1, s2] at q; omega
  rw [a2, f6]; omega
theorem own_mkD {n c0 c1 : Int32} (hn : n = 0 ∨ n = 1 ∨ n = 2) (h0 : ¬ c0 < 0 ∧ ¬ (65535 : Int32) < c0) (h1 : ¬ c1 < 0 ∧ ¬ (65535 : Int32) < c1) : own_D (own_mk n c0 c1) (own_pts n c0 c1) := by
  have lt0 : c0 < 65536 := by have q := h0.2; rw [Int32.lt_iff_toInt_lt] at q ⊢; have e1 : (65535 : Int32).toInt = 65535 := rfl; have e2 : (65536 : Int32).toInt = 65536 := rfl; omega
  rcases hn with rfl | rfl | rfl
  · exact Or.inl ⟨rfl, rfl⟩
  · exact Or.inr (Or.inl ⟨c0, rfl, if_neg (fun q => absurd (show 0 + 1 < 1 from q.2.1) (by decide)), lt0, rfl⟩)
  · have eL : own_mk 2 c0 c1 = [c0, c1] := rfl
    have eP : own_pts 2 c0 c1 = (if c0 < 55296 then [2, c0, c1] else if (56319 : Int32) < c0 then [2, c0, c1] else if c1 < 56320 then [2, c0, c1] else if (57343 : Int32) < c1 then [2, c0, c1] else [1, (((65536 : Int32) + ((c0 - (55296 : Int32)) <<< ((10 : Int32) &&& 31))) + (c1 - (56320 : Int32))), 0]) := rfl
    have c1e : own_cp [c0, c1] 1 = c1 := if_neg (fun q => absurd (show 1 + 1 < 2 from q.2.1) (by decide))
    have nb : ¬ (own_hs c0 ∧ own_lg c1) → own_D [c0, c1] [2, c0, c1] := fun q => Or.inr (Or.inr (Or.inr ⟨c0, c1, rfl, if_neg (fun z => q ⟨z.1, z.2.2⟩), lt0, rfl, c1e⟩))
    rw [eL, eP]
    have f1 : (56319 : Int32).toInt = 56319 := rfl
    have f2 : (56320 : Int32).toInt = 56320 := rfl
    have f3 : (57343 : Int32).toInt = 57343 := rfl
    have f4 : (57344 : Int32).toInt = 57344 := rfl
    have f5 : (55296 : Int32).toInt = 55296 := rfl
    by_cases q1 : c0 < 55296
    · rw [if_pos q1]; exact nb (fun z => z.1.1 q1)
    rw [if_neg q1]
    by_cases q2 : (56319 : Int32) < c0
    · rw [if_pos q2]; exact nb (fun z => by have z1 := z.1.2; rw [Int32.lt_iff_toInt_lt] at z1 q2; omega)
    rw [if_neg q2]
    by_cases q3 : c1 < 56320
    · rw [if_pos q3]; exact nb (fun z => z.2.1 q3)
    rw [if_neg q3]
    by_cases q4 : (57343 : Int32) < c1
    · rw [if_pos q4]; exact nb (fun z => by have z1 := z.2.2; rw [Int32.lt_iff_toInt_lt] at z1 q4; omega)
    rw [if_neg q4]
    have hp : own_hs c0 ∧ own_lg c1 := ⟨⟨q1, by rw [Int32.lt_iff_toInt_lt] at q2 ⊢; omega⟩, ⟨q3, by rw [Int32.lt_iff_toInt_lt] at q4 ⊢; omega⟩⟩
    have ec : own_cp [c0, c1] 0 = own_tcp c0 c1 := if_pos ⟨hp.1, (by decide : 0 + 1 < 2), hp.2⟩
    have ex : (((65536 : Int32) + ((c0 - (55296 : Int32)) <<< ((10 : Int32) &&& 31))) + (c1 - (56320 : Int32))) = own_tcp c0 c1 := own_sur c0 c1
    refine Or.inr (Or.inr (Or.inl ⟨own_tcp c0 c1, by rw [ex], ec, ?_, rfl⟩))
    exact own_big q1 q2 q3 q4

def own_FM (Z : State) : Prop := ∃ G : Value, Sta Z Z.heap "jdk/internal/util/Preconditions" "SIOOBE_FORMATTER" "Ljava/util/function/BiFunction;" G ∧ G.isRef = true
theorem own_c16 (x : Int32) : ¬ (x.toUInt32.toUInt16.toUInt32.toInt32) < 0 ∧ ¬ (65535 : Int32) < (x.toUInt32.toUInt16.toUInt32.toInt32) := by
  have c := c_i2c x
  have r := rng32 x
  rw [own_lt, own_lt]
  have e1 : (65535 : Int32).toInt = 65535 := rfl
  have e2 : (0 : Int32).toInt = 0 := rfl
  omega
theorem own_gm (L : List Int32) (k : Nat) : (L.map Value.int).getD k (.int 0) = .int (L.getD k 0) := by
  simp only [List.getD_eq_getElem?_getD, List.getElem?_map]
  cases L[k]? <;> rfl
theorem own_gl (L : List Int32) {k : Nat} (h : k < L.length) : (L.map fun c => Value.int (StrChars.lo8 c)).getD k (.int 0) = .int (StrChars.lo8 (L.getD k 0)) := by
  simp [List.getD_eq_getElem?_getD, List.getElem?_map, List.getElem?_eq_getElem h]
theorem own_ifT {P : Prop} [Decidable P] (h : ¬ (if P then (1 : Int32) else 0) = 0) : P := Decidable.byContradiction fun q => h (if_neg q)
theorem own_ifF {P : Prop} [Decidable P] (h : (if P then (1 : Int32) else 0) = 0) : ¬ P := fun q => by rw [if_pos q] at h; revert h; decide
theorem own_loT : ∀ k : Fin 256, (StrChars.lo8 (Int32.ofNat k.val) &&& (255 : Int32)) = Int32.ofNat k.val := by decide +kernel
theorem own_lo {c : Int32} (h0 : ¬ c < 0) (h1 : ¬ (255 : Int32) < c) : (StrChars.lo8 c &&& (255 : Int32)) = c := by
  rw [own_lt] at h0 h1
  have e1 : (255 : Int32).toInt = 255 := rfl
  have e2 : (0 : Int32).toInt = 0 := rfl
  obtain ⟨n, rfl, q⟩ := own_exN (x := c) (by omega)
  exact own_loT ⟨n, by omega⟩
theorem own_shr1 {i : Nat} (h : i ≤ 2) : (Int32.ofNat (2 * i) >>> ((1 : Int32) &&& 31)) = Int32.ofNat i := by
  have : i = 0 ∨ i = 1 ∨ i = 2 := by omega
  rcases this with rfl | rfl | rfl <;> decide
theorem own_nltN {a b : Nat} (ha : a < 2147483648) (hb : b < 2147483648) (h : ¬ Int32.ofNat a < Int32.ofNat b) : b ≤ a := by
  have q : ¬ a < b := fun q => h ((own_nlt ha hb).mpr q)
  omega
theorem own_min {a b : Nat} (ha : a < 2147483648) (hb : b < 2147483648) : (if Int32.ofNat b < Int32.ofNat a then Int32.ofNat b else Int32.ofNat a) = Int32.ofNat (min a b) := by
  by_cases q : b < a
  · rw [if_pos ((own_nlt hb ha).mpr q), show min a b = b from by omega]
  · rw [if_neg (fun z => q ((own_nlt hb ha).mp z)), show min a b = a from by omega]
theorem own_mkl (n c0 c1 : Int32) : (own_mk n c0 c1).length ≤ 2 := by
  unfold own_mk
  split
  · exact Nat.zero_le 2
  · split
    · exact (by decide : 1 ≤ 2)
    · exact (by decide : 2 ≤ 2)
theorem own_mkb {n c0 c1 : Int32} (h0 : ¬ c0 < 0 ∧ ¬ (65535 : Int32) < c0) (h1 : ¬ c1 < 0 ∧ ¬ (65535 : Int32) < c1) : ∀ c ∈ own_mk n c0 c1, ¬ c < 0 ∧ ¬ (65535 : Int32) < c := by
  unfold own_mk
  split
  · exact fun c hc => nomatch hc
  · split
    · exact own_all1 h0
    · exact own_allC h0 (own_all1 h1)
theorem own_rem3 (x : Int32) : ((x &&& (255 : Int32)) % (3 : Int32)) = 0 ∨ ((x &&& (255 : Int32)) % (3 : Int32)) = 1 ∨ ((x &&& (255 : Int32)) % (3 : Int32)) = 2 := by
  have a1 := c_mask x 255 8 (by decide) (by decide)
  have a2 := c_irem (x &&& (255 : Int32)) 3 3 (by decide)
  have a4 := a2.1 (by omega)
  obtain ⟨n, e, q⟩ := own_exN (x := (x &&& (255 : Int32)) % (3 : Int32)) (by omega)
  rw [e]
  have : n = 0 ∨ n = 1 ∨ n = 2 := by omega
  rcases this with rfl | rfl | rfl <;> decide
theorem own_latB {cs : List Int32} (h : ∀ c ∈ cs, ¬ (255 : Int32) < c) {c : Int32} (hm : c ∈ cs) : ¬ (255 : Int32) < c := h c hm
theorem own_nhs {c : Int32} (h : ¬ (255 : Int32) < c) : ¬ own_hs c := fun q => by
  have z := q.1
  rw [own_lt] at h z
  have e1 : (255 : Int32).toInt = 255 := rfl
  have e2 : (55296 : Int32).toInt = 55296 := rfl
  omega
def own_U16 (Z : State) : Prop := Sta Z Z.heap "java/lang/StringUTF16" "$assertionsDisabled" "Z" (.int 1) ∧ Sta Z Z.heap "java/lang/StringUTF16" "HI_BYTE_SHIFT" "I" (.int 0) ∧ Sta Z Z.heap "java/lang/StringUTF16" "LO_BYTE_SHIFT" "I" (.int 8)
theorem own_narB (x : Int32) : (StrChars.lo8 x).toInt8.toInt32 = StrChars.lo8 x := by
  show (x.toInt8.toInt32).toInt8.toInt32 = x.toInt8.toInt32
  rw [Int8.toInt8_toInt32]
theorem own_narH (x : Int32) : (StrChars.hi8 x).toInt8.toInt32 = StrChars.hi8 x := own_narB _
theorem own_rc16 {c : Int32} (h : ¬ c < 0 ∧ ¬ (65535 : Int32) < c) : narrow .char (.int c) = .int c := by show Value.int (nar .char c) = _; rw [own_narC h]
theorem own_shl1 {i : Nat} (h : i ≤ 4) : (Int32.ofNat i <<< ((1 : Int32) &&& 31)) = Int32.ofNat (2 * i) := by
  have : i = 0 ∨ i = 1 ∨ i = 2 ∨ i = 3 ∨ i = 4 := by omega
  rcases this with rfl | rfl | rfl | rfl | rfl <;> decide
theorem own_gin {L : List Int32} {k : Nat} {Q : Int32 → Prop} (hb : ∀ c ∈ L, Q c) (h : k < L.length) : Q (L.getD k 0) := by
  rw [List.getD_eq_getElem?_getD, List.getElem?_eq_getElem h]; exact hb _ (List.getElem_mem h)
theorem d20_0 : decode jdk_52_method_4_code 0 = .ok (.getstatic 44, 3) := by decide +kernel
theorem d20_3 : decode jdk_52_method_4_code 3 = .ok (.ifCond .ne 25, 3) := by decide +kernel
theorem d20_28 : decode jdk_52_method_4_code 28 = .ok (.iload_n 1, 1) := by decide +kernel
theorem d20_29 : decode jdk_52_method_4_code 29 = .ok (.iconst 1, 1) := by decide +kernel
theorem d20_30 : decode jdk_52_method_4_code 30 = .ok (.ishl, 1) := by decide +kernel
theorem d20_31 : decode jdk_52_method_4_code 31 = .ok (.istore_n 1, 1) := by decide +kernel
theorem d20_32 : decode jdk_52_method_4_code 32 = .ok (.aload_n 0, 1) := by decide +kernel
theorem d20_33 : decode jdk_52_method_4_code 33 = .ok (.iload_n 1, 1) := by decide +kernel
theorem d20_34 : decode jdk_52_method_4_code 34 = .ok (.iinc 1 1, 3) := by decide +kernel
theorem d20_37 : decode jdk_52_method_4_code 37 = .ok (.iload_n 2, 1) := by decide +kernel
theorem d20_38 : decode jdk_52_method_4_code 38 = .ok (.getstatic 59, 3) := by decide +kernel
theorem d20_41 : decode jdk_52_method_4_code 41 = .ok (.ishr, 1) := by decide +kernel
theorem d20_42 : decode jdk_52_method_4_code 42 = .ok (.i2b, 1) := by decide +kernel
theorem d20_43 : decode jdk_52_method_4_code 43 = .ok (.bastore, 1) := by decide +kernel
theorem d20_44 : decode jdk_52_method_4_code 44 = .ok (.aload_n 0, 1) := by decide +kernel
theorem d20_45 : decode jdk_52_method_4_code 45 = .ok (.iload_n 1, 1) := by decide +kernel
theorem d20_46 : decode jdk_52_method_4_code 46 = .ok (.iload_n 2, 1) := by decide +kernel
theorem d20_47 : decode jdk_52_method_4_code 47 = .ok (.getstatic 63, 3) := by decide +kernel
theorem d20_50 : decode jdk_52_method_4_code 50 = .ok (.ishr, 1) := by decide +kernel
theorem d20_51 : decode jdk_52_method_4_code 51 = .ok (.i2b, 1) := by decide +kernel
theorem d20_52 : decode jdk_52_method_4_code 52 = .ok (.bastore, 1) := by decide +kernel
theorem d20_53 : decode jdk_52_method_4_code 53 = .ok (.return_, 1) := by decide +kernel
theorem pn_java_lang_StringUTF16 : plainName "java/lang/StringUTF16" = true := by first | (simp [plainName, overriddenIn]; done) | decide +kernel
theorem ef_pc20 (m : MethodId) (x0 : Addr) (x1 : Int32) (x2 : Int32) : entryFrame m #[(.ref x0), (.int x1), (.int x2)] 3 = mkF m 0 #[.val (.ref x0), .val (.int x1), .val (.int x2)] [] := by (first | (simp [entryFrame, mkF, argsToLocals, Value.category]; done) | rfl)
abbrev pc20R : Room := { frames := 0, cells := 0, slots := 0, locals := 0 }
set_option maxRecDepth 65536 in
set_option maxHeartbeats 40000000 in
theorem pc20 (l : Launch) (Z : State) (a0 : Array Value) (hw : ∀ d ∈ tables_1, d.before a0 Z = true) (a1 : Nat) (k1 : ClassId) (cq : Int32) (ve0 ve1 : Value) (h0 : Heap) (n0 : Nat) (O0 : Old Z n0 h0) (UT : own_U16 Z) (g1 : n0 ≤ a1) (V1 : Arv Z h0 a1 k1 .byte 2 [ve0, ve1] (.int 0)) :
    own_C l Z (⟨"java/lang/StringUTF16", "putChar", "([BII)V"⟩ : MethodName) jdk_52_method_4_code 3 none [] pc20R #[(.ref a1), (.int (0 : Int32)), (.int cq)] h0 (fun v h L => v = none ∧ Fr n0 L ∧ Keep h0 h [a1] ∧ Arv Z h a1 k1 .byte 2 [.int (StrChars.lo8 cq), .int (StrChars.hi8 cq)] (.int 0)) := by
  refine own_body (plainFor_of_name pn_java_lang_StringUTF16) ?_
  intro p e s m below meth c T0 X0 hx hby hml hZ hown hnm hret hlk e0
  have N0 := Fr.nil n0
  have zO := own_old O0
  obtain ⟨Ua, Uh, Ul⟩ := id UT
  refine own_st (fun _ k => castTop (ef_pc20 m a1 (0 : Int32) cq) k) ?_
  show own_Go p e below s _ _ _ (T0.setTop (mkF m 0 #[.val (.ref a1), .val (.int (0 : Int32)), .val (.int cq)] []))
  obtain ⟨T101, X101, e101, st101⟩ := getS2 X0 hx hZ hown (host := "") (Or.inl (hw _ (List.mem_of_getElem? (i := 88) rfl))) Via.refl e0 (Ua.ext O0.2) (g := (mkF m 0 #[.val (.ref a1), .val (.int (0 : Int32)), .val (.int cq)] [])) rfl (hb hby d20_0)
  refine own_st st101 ?_
  show own_Go p e below s _ _ _ (T101.setTop (mkF m 3 #[.val (.ref a1), .val (.int (0 : Int32)), .val (.int cq)] [(.int (1 : Int32))]))
  refine own_st (fun _ k => XS.ifYes X101.here hx rfl (pc0 := 3) (pc' := 28) rfl (hb hby d20_3) rfl ((if0 _ _).trans (feq (by decide)).2) (by decide) (by decide) k) ?_
  show own_Go p e below s _ _ _ (T101.setTop (mkF m 28 #[.val (.ref a1), .val (.int (0 : Int32)), .val (.int cq)] []))
  refine own_st (fun _ k => XS.iloadN X101.here hx rfl (hb hby d20_28) rfl k) ?_
  show own_Go p e below s _ _ _ (T101.setTop (mkF m 29 #[.val (.ref a1), .val (.int (0 : Int32)), .val (.int cq)] [(.int (0 : Int32))]))
  refine own_st (fun _ k => XS.iconst X101.here hx rfl (hb hby d20_29) k) ?_
  show own_Go p e below s _ _ _ (T101.setTop (mkF m 30 #[.val (.ref a1), .val (.int (0 : Int32)), .val (.int cq)] [(.int (1 : Int32)), (.int (0 : Int32))]))
  refine own_st (fun _ k => XS.ishl X101.here hx rfl (hb hby d20_30) rfl k) ?_
  show own_Go p e below s _ _ _ (T101.setTop (mkF m 31 #[.val (.ref a1), .val (.int (0 : Int32)), .val (.int cq)] [(.int ((0 : Int32) <<< ((1 : Int32) &&& 31)))]))
  rw [(by decide : ((0 : Int32) <<< ((1 : Int32) &&& 31)) = (0 : Int32))]
  show own_Go p e below s _ _ _ (T101.setTop (mkF m 31 #[.val (.ref a1), .val (.int (0 : Int32)), .val (.int cq)] [(.int (0 : Int32))]))
  refine own_st (fun _ k => XS.istoreN X101.here hx rfl (hb hby d20_31) rfl (l' := #[.val (.ref a1), .val (.int (0 : Int32)), .val (.int cq)]) rfl k) ?_
  show own_Go p e below s _ _ _ (T101.setTop (mkF m 32 #[.val (.ref a1), .val (.int (0 : Int32)), .val (.int cq)] []))
  refine own_st (fun _ k => XS.aloadN X101.here hx rfl (hb hby d20_32) rfl rfl k) ?_
  show own_Go p e below s _ _ _ (T101.setTop (mkF m 33 #[.val (.ref a1), .val (.int (0 : Int32)), .val (.int cq)] [(.ref a1)]))
  refine own_st (fun _ k => XS.iloadN X101.here hx rfl (hb hby d20_33) rfl k) ?_
  show own_Go p e below s _ _ _ (T101.setTop (mkF m 34 #[.val (.ref a1), .val (.int (0 : Int32)), .val (.int cq)] [(.int (0 : Int32)), (.ref a1)]))
  refine own_st (fun _ k => XS.iinc X101.here hx rfl (hb hby d20_34) rfl (l' := #[.val (.ref a1), .val (.int ((0 : Int32) + (1 : Int32))), .val (.int cq)]) rfl k) ?_
  show own_Go p e below s _ _ _ (T101.setTop (mkF m 37 #[.val (.ref a1), .val (.int ((0 : Int32) + (1 : Int32))), .val (.int cq)] [(.int (0 : Int32)), (.ref a1)]))
  rw [(by decide : ((0 : Int32) + (1 : Int32)) = (1 : Int32))]
  show own_Go p e below s _ _ _ (T101.setTop (mkF m 37 #[.val (.ref a1), .val (.int (1 : Int32)), .val (.int cq)] [(.int (0 : Int32)), (.ref a1)]))
  refine own_st (fun _ k => XS.iloadN X101.here hx rfl (hb hby d20_37) rfl k) ?_
  show own_Go p e below s _ _ _ (T101.setTop (mkF m 38 #[.val (.ref a1), .val (.int (1 : Int32)), .val (.int cq)] [(.int cq), (.int (0 : Int32)), (.ref a1)]))
  obtain ⟨T102, X102, e102, st102⟩ := getS2 X101 hx hZ hown (host := "") (Or.inl (hw _ (List.mem_of_getElem? (i := 89) rfl))) Via.refl e101 (Uh.ext O0.2) (g := (mkF m 38 #[.val (.ref a1), .val (.int (1 : Int32)), .val (.int cq)] [(.int cq), (.int (0 : Int32)), (.ref a1)])) rfl (hb hby d20_38)
  refine own_st st102 ?_
  show own_Go p e below s _ _ _ (T102.setTop (mkF m 41 #[.val (.ref a1), .val (.int (1 : Int32)), .val (.int cq)] [(.int (0 : Int32)), (.int cq), (.int (0 : Int32)), (.ref a1)]))
  refine own_st (fun _ k => XS.ishr X102.here hx rfl (hb hby d20_41) rfl k) ?_
  show own_Go p e below s _ _ _ (T102.setTop (mkF m 42 #[.val (.ref a1), .val (.int (1 : Int32)), .val (.int cq)] [(.int (cq >>> ((0 : Int32) &&& 31))), (.int (0 : Int32)), (.ref a1)]))
  refine own_st (fun _ k => XS.i2b X102.here hx rfl (hb hby d20_42) rfl k) ?_
  show own_Go p e below s _ _ _ (T102.setTop (mkF m 43 #[.val (.ref a1), .val (.int (1 : Int32)), .val (.int cq)] [(.int ((cq >>> ((0 : Int32) &&& 31)).toInt8.toInt32)), (.int (0 : Int32)), (.ref a1)]))
  rw [StrChars.shr0]
  show own_Go p e below s _ _ _ (T102.setTop (mkF m 43 #[.val (.ref a1), .val (.int (1 : Int32)), .val (.int cq)] [(.int (StrChars.lo8 cq)), (.int (0 : Int32)), (.ref a1)]))
  obtain ⟨c103, Ar103, q103, S103, M103, H103, U103⟩ := V1
  obtain ⟨T103, h103, X103, e103, W103, st103⟩ := stB X102 hx hZ e102 Ar103 (j := (0 : Int32)) (inb_of S103 ⟨by decide, by decide⟩) (g := (mkF m 43 #[.val (.ref a1), .val (.int (1 : Int32)), .val (.int cq)] [(.int (StrChars.lo8 cq)), (.int (0 : Int32)), (.ref a1)])) rfl rfl (hb hby d20_43)
  have V103 : Arv Z h103 a1 k1 .byte (2 : Int32) [(.int (StrChars.lo8 cq)), ve1] (.int 0) := by
    have q := Arv.set Ar103 q103 S103 M103 H103 U103 (fits_nar_byte _) W103 0 rfl (Nat.le_of_ble_eq_true rfl)
    rw [own_narB] at q
    exact q
  have K103 := Keep.of_wr W103
  have N103 := Fr.snoc X103 N0 (by omega : n0 ≤ a1)
  refine own_st st103 ?_
  have zK103 := K103.1
  show own_Go p e below s _ _ _ (T103.setTop (mkF m 44 #[.val (.ref a1), .val (.int (1 : Int32)), .val (.int cq)] []))
  refine own_st (fun _ k => XS.aloadN X103.here hx rfl (hb hby d20_44) rfl rfl k) ?_
  show own_Go p e below s _ _ _ (T103.setTop (mkF m 45 #[.val (.ref a1), .val (.int (1 : Int32)), .val (.int cq)] [(.ref a1)]))
  refine own_st (fun _ k => XS.iloadN X103.here hx rfl (hb hby d20_45) rfl k) ?_
  show own_Go p e below s _ _ _ (T103.setTop (mkF m 46 #[.val (.ref a1), .val (.int (1 : Int32)), .val (.int cq)] [(.int (1 : Int32)), (.ref a1)]))
  refine own_st (fun _ k => XS.iloadN X103.here hx rfl (hb hby d20_46) rfl k) ?_
  show own_Go p e below s _ _ _ (T103.setTop (mkF m 47 #[.val (.ref a1), .val (.int (1 : Int32)), .val (.int cq)] [(.int cq), (.int (1 : Int32)), (.ref a1)]))
  have O105 : Old Z n0 h103 := O0.keep ((Keep.refl h0 [a1]).trans K103 (allS (Or.inl (by simp)) all0)) (allS (by omega) all0)
  obtain ⟨T104, X104, e104, st104⟩ := getS2 X103 hx hZ hown (host := "") (Or.inl (hw _ (List.mem_of_getElem? (i := 90) rfl))) Via.refl e103 (Ul.ext O105.2) (g := (mkF m 47 #[.val (.ref a1), .val (.int (1 : Int32)), .val (.int cq)] [(.int cq), (.int (1 : Int32)), (.ref a1)])) rfl (hb hby d20_47)
  refine own_st st104 ?_
  show own_Go p e below s _ _ _ (T104.setTop (mkF m 50 #[.val (.ref a1), .val (.int (1 : Int32)), .val (.int cq)] [(.int (8 : Int32)), (.int cq), (.int (1 : Int32)), (.ref a1)]))
  refine own_st (fun _ k => XS.ishr X104.here hx rfl (hb hby d20_50) rfl k) ?_
  show own_Go p e below s _ _ _ (T104.setTop (mkF m 51 #[.val (.ref a1), .val (.int (1 : Int32)), .val (.int cq)] [(.int (cq >>> ((8 : Int32) &&& 31))), (.int (1 : Int32)), (.ref a1)]))
  refine own_st (fun _ k => XS.i2b X104.here hx rfl (hb hby d20_51) rfl k) ?_
  show own_Go p e below s _ _ _ (T104.setTop (mkF m 52 #[.val (.ref a1), .val (.int (1 : Int32)), .val (.int cq)] [(.int ((cq >>> ((8 : Int32) &&& 31)).toInt8.toInt32)), (.int (1 : Int32)), (.ref a1)]))
  show own_Go p e below s _ _ _ (T104.setTop (mkF m 52 #[.val (.ref a1), .val (.int (1 : Int32)), .val (.int cq)] [(.int (StrChars.hi8 cq)), (.int (1 : Int32)), (.ref a1)]))
  obtain ⟨c106, Ar106, q106, S106, M106, H106, U106⟩ := V103
  obtain ⟨T106, h106, X106, e106, W106, st106⟩ := stB X104 hx hZ e104 Ar106 (j := (1 : Int32)) (inb_of S106 ⟨by decide, by decide⟩) (g := (mkF m 52 #[.val (.ref a1), .val (.int (1 : Int32)), .val (.int cq)] [(.int (StrChars.hi8 cq)), (.int (1 : Int32)), (.ref a1)])) rfl rfl (hb hby d20_52)
  have V106 : Arv Z h106 a1 k1 .byte (2 : Int32) [(.int (StrChars.lo8 cq)), (.int (StrChars.hi8 cq))] (.int 0) := by
    have q := Arv.set Ar106 q106 S106 M106 H106 U106 (fits_nar_byte _) W106 1 rfl (Nat.le_of_ble_eq_true rfl)
    rw [own_narH] at q
    exact q
  have K106 := Keep.of_wr W106
  have N106 := Fr.snoc X106 N103 (by omega : n0 ≤ a1)
  refine own_st st106 ?_
  have zK106 := K106.1
  show own_Go p e below s _ _ _ (T106.setTop (mkF m 53 #[.val (.ref a1), .val (.int (1 : Int32)), .val (.int cq)] []))
  exact own_retV X106 hx hlk e106 hret (hb hby d20_53) (by decide) (by decide) ⟨rfl, N106, (((Keep.refl h0 [a1]).trans K103 (allS (Or.inl (by simp)) all0)).trans K106 (allS (Or.inl (by simp)) all0)), V106⟩
theorem ef_pc40 (m : MethodId) (x0 : Addr) (x1 : Int32) (x2 : Int32) : entryFrame m #[(.ref x0), (.int x1), (.int x2)] 3 = mkF m 0 #[.val (.ref x0), .val (.int x1), .val (.int x2)] [] := by (first | (simp [entryFrame, mkF, argsToLocals, Value.category]; done) | rfl)
abbrev pc40R : Room := { frames := 0, cells := 0, slots := 0, locals := 0 }
set_option maxRecDepth 65536 in
set_option maxHeartbeats 40000000 in
theorem pc40 (l : Launch) (Z : State) (a0 : Array Value) (hw : ∀ d ∈ tables_1, d.before a0 Z = true) (a1 : Nat) (k1 : ClassId) (cq : Int32) (ve0 ve1 ve2 ve3 : Value) (h0 : Heap) (n0 : Nat) (O0 : Old Z n0 h0) (UT : own_U16 Z) (g1 : n0 ≤ a1) (V1 : Arv Z h0 a1 k1 .byte 4 [ve0, ve1, ve2, ve3] (.int 0)) :
    own_C l Z (⟨"java/lang/StringUTF16", "putChar", "([BII)V"⟩ : MethodName) jdk_52_method_4_code 3 none [] pc40R #[(.ref a1), (.int (0 : Int32)), (.int cq)] h0 (fun v h L => v = none ∧ Fr n0 L ∧ Keep h0 h [a1] ∧ Arv Z h a1 k1 .byte 4 [.int (StrChars.lo8 cq), .int (StrChars.hi8 cq), ve2, ve3] (.int 0)) := by
  refine own_body (plainFor_of_name pn_java_lang_StringUTF16) ?_
  intro p e s m below meth c T0 X0 hx hby hml hZ hown hnm hret hlk e0
  have N0 := Fr.nil n0
  have zO := own_old O0
  obtain ⟨Ua, Uh, Ul⟩ := id UT
  refine own_st (fun _ k => castTop (ef_pc40 m a1 (0 : Int32) cq) k) ?_
  show own_Go p e below s _ _ _ (T0.setTop (mkF m 0 #[.val (.ref a1), .val (.int (0 : Int32)), .val (.int cq)] []))
  obtain ⟨T101, X101, e101, st101⟩ := getS2 X0 hx hZ hown (host := "") (Or.inl (hw _ (List.mem_of_getElem? (i := 88) rfl))) Via.refl e0 (Ua.ext O0.2) (g := (mkF m 0 #[.val (.ref a1), .val (.int (0 : Int32)), .val (.int cq)] [])) rfl (hb hby d20_0)
  refine own_st st101 ?_
  show own_Go p e below s _ _ _ (T101.setTop (mkF m 3 #[.val (.ref a1), .val (.int (0 : Int32)), .val (.int cq)] [(.int (1 : Int32))]))
  refine own_st (fun _ k => XS.ifYes X101.here hx rfl (pc0 := 3) (pc' := 28) rfl (hb hby d20_3) rfl ((if0 _ _).trans (feq (by decide)).2) (by decide) (by decide) k) ?_
  show own_Go p e below s _ _ _ (T101.setTop (mkF m 28 #[.val (.ref a1), .val (.int (0 : Int32)), .val (.int cq)] []))
  refine own_st (fun _ k => XS.iloadN X101.here hx rfl (hb hby d20_28) rfl k) ?_
  show own_Go p e below s _ _ _ (T101.setTop (mkF m 29 #[.val (.ref a1), .val (.int (0 : Int32)), .val (.int cq)] [(.int (0 : Int32))]))
  refine own_st (fun _ k => XS.iconst X101.here hx rfl (hb hby d20_29) k) ?_
  show own_Go p e below s _ _ _ (T101.setTop (mkF m 30 #[.val (.ref a1), .val (.int (0 : Int32)), .val (.int cq)] [(.int (1 : Int32)), (.int (0 : Int32))]))
  refine own_st (fun _ k => XS.ishl X101.here hx rfl (hb hby d20_30) rfl k) ?_
  show own_Go p e below s _ _ _ (T101.setTop (mkF m 31 #[.val (.ref a1), .val (.int (0 : Int32)), .val (.int cq)] [(.int ((0 : Int32) <<< ((1 : Int32) &&& 31)))]))
  rw [(by decide : ((0 : Int32) <<< ((1 : Int32) &&& 31)) = (0 : Int32))]
  show own_Go p e below s _ _ _ (T101.setTop (mkF m 31 #[.val (.ref a1), .val (.int (0 : Int32)), .val (.int cq)] [(.int (0 : Int32))]))
  refine own_st (fun _ k => XS.istoreN X101.here hx rfl (hb hby d20_31) rfl (l' := #[.val (.ref a1), .val (.int (0 : Int32)), .val (.int cq)]) rfl k) ?_
  show own_Go p e below s _ _ _ (T101.setTop (mkF m 32 #[.val (.ref a1), .val (.int (0 : Int32)), .val (.int cq)] []))
  refine own_st (fun _ k => XS.aloadN X101.here hx rfl (hb hby d20_32) rfl rfl k) ?_
  show own_Go p e below s _ _ _ (T101.setTop (mkF m 33 #[.val (.ref a1), .val (.int (0 : Int32)), .val (.int cq)] [(.ref a1)]))
  refine own_st (fun _ k => XS.iloadN X101.here hx rfl (hb hby d20_33) rfl k) ?_
  show own_Go p e below s _ _ _ (T101.setTop (mkF m 34 #[.val (.ref a1), .val (.int (0 : Int32)), .val (.int cq)] [(.int (0 : Int32)), (.ref a1)]))
  refine own_st (fun _ k => XS.iinc X101.here hx rfl (hb hby d20_34) rfl (l' := #[.val (.ref a1), .val (.int ((0 : Int32) + (1 : Int32))), .val (.int cq)]) rfl k) ?_
  show own_Go p e below s _ _ _ (T101.setTop (mkF m 37 #[.val (.ref a1), .val (.int ((0 : Int32) + (1 : Int32))), .val (.int cq)] [(.int (0 : Int32)), (.ref a1)]))
  rw [(by decide : ((0 : Int32) + (1 : Int32)) = (1 : Int32))]
  show own_Go p e below s _ _ _ (T101.setTop (mkF m 37 #[.val (.ref a1), .val (.int (1 : Int32)), .val (.int cq)] [(.int (0 : Int32)), (.ref a1)]))
  refine own_st (fun _ k => XS.iloadN X101.here hx rfl (hb hby d20_37) rfl k) ?_
  show own_Go p e below s _ _ _ (T101.setTop (mkF m 38 #[.val (.ref a1), .val (.int (1 : Int32)), .val (.int cq)] [(.int cq), (.int (0 : Int32)), (.ref a1)]))
  obtain ⟨T102, X102, e102, st102⟩ := getS2 X101 hx hZ hown (host := "") (Or.inl (hw _ (List.mem_of_getElem? (i := 89) rfl))) Via.refl e101 (Uh.ext O0.2) (g := (mkF m 38 #[.val (.ref a1), .val (.int (1 : Int32)), .val (.int cq)] [(.int cq), (.int (0 : Int32)), (.ref a1)])) rfl (hb hby d20_38)
  refine own_st st102 ?_
  show own_Go p e below s _ _ _ (T102.setTop (mkF m 41 #[.val (.ref a1), .val (.int (1 : Int32)), .val (.int cq)] [(.int (0 : Int32)), (.int cq), (.int (0 : Int32)), (.ref a1)]))
  refine own_st (fun _ k => XS.ishr X102.here hx rfl (hb hby d20_41) rfl k) ?_
  show own_Go p e below s _ _ _ (T102.setTop (mkF m 42 #[.val (.ref a1), .val (.int (1 : Int32)), .val (.int cq)] [(.int (cq >>> ((0 : Int32) &&& 31))), (.int (0 : Int32)), (.ref a1)]))
  refine own_st (fun _ k => XS.i2b X102.here hx rfl (hb hby d20_42) rfl k) ?_
  show own_Go p e below s _ _ _ (T102.setTop (mkF m 43 #[.val (.ref a1), .val (.int (1 : Int32)), .val (.int cq)] [(.int ((cq >>> ((0 : Int32) &&& 31)).toInt8.toInt32)), (.int (0 : Int32)), (.ref a1)]))
  rw [StrChars.shr0]
  show own_Go p e below s _ _ _ (T102.setTop (mkF m 43 #[.val (.ref a1), .val (.int (1 : Int32)), .val (.int cq)] [(.int (StrChars.lo8 cq)), (.int (0 : Int32)), (.ref a1)]))
  obtain ⟨c103, Ar103, q103, S103, M103, H103, U103⟩ := V1
  obtain ⟨T103, h103, X103, e103, W103, st103⟩ := stB X102 hx hZ e102 Ar103 (j := (0 : Int32)) (inb_of S103 ⟨by decide, by decide⟩) (g := (mkF m 43 #[.val (.ref a1), .val (.int (1 : Int32)), .val (.int cq)] [(.int (StrChars.lo8 cq)), (.int (0 : Int32)), (.ref a1)])) rfl rfl (hb hby d20_43)
  have V103 : Arv Z h103 a1 k1 .byte (4 : Int32) [(.int (StrChars.lo8 cq)), ve1, ve2, ve3] (.int 0) := by
    have q := Arv.set Ar103 q103 S103 M103 H103 U103 (fits_nar_byte _) W103 0 rfl (Nat.le_of_ble_eq_true rfl)
    rw [own_narB] at q
    exact q
  have K103 := Keep.of_wr W103
  have N103 := Fr.snoc X103 N0 (by omega : n0 ≤ a1)
  refine own_st st103 ?_
  have zK103 := K103.1
  show own_Go p e below s _ _ _ (T103.setTop (mkF m 44 #[.val (.ref a1), .val (.int (1 : Int32)), .val (.int cq)] []))
  refine own_st (fun _ k => XS.aloadN X103.here hx rfl (hb hby d20_44) rfl rfl k) ?_
  show own_Go p e below s _ _ _ (T103.setTop (mkF m 45 #[.val (.ref a1), .val (.int (1 : Int32)), .val (.int cq)] [(.ref a1)]))
  refine own_st (fun _ k => XS.iloadN X103.here hx rfl (hb hby d20_45) rfl k) ?_
  show own_Go p e below s _ _ _ (T103.setTop (mkF m 46 #[.val (.ref a1), .val (.int (1 : Int32)), .val (.int cq)] [(.int (1 : Int32)), (.ref a1)]))
  refine own_st (fun _ k => XS.iloadN X103.here hx rfl (hb hby d20_46) rfl k) ?_
  show own_Go p e below s _ _ _ (T103.setTop (mkF m 47 #[.val (.ref a1), .val (.int (1 : Int32)), .val (.int cq)] [(.int cq), (.int (1 : Int32)), (.ref a1)]))
  have O105 : Old Z n0 h103 := O0.keep ((Keep.refl h0 [a1]).trans K103 (allS (Or.inl (by simp)) all0)) (allS (by omega) all0)
  obtain ⟨T104, X104, e104, st104⟩ := getS2 X103 hx hZ hown (host := "") (Or.inl (hw _ (List.mem_of_getElem? (i := 90) rfl))) Via.refl e103 (Ul.ext O105.2) (g := (mkF m 47 #[.val (.ref a1), .val (.int (1 : Int32)), .val (.int cq)] [(.int cq), (.int (1 : Int32)), (.ref a1)])) rfl (hb hby d20_47)
  refine own_st st104 ?_
  show own_Go p e below s _ _ _ (T104.setTop (mkF m 50 #[.val (.ref a1), .val (.int (1 : Int32)), .val (.int cq)] [(.int (8 : Int32)), (.int cq), (.int (1 : Int32)), (.ref a1)]))
  refine own_st (fun _ k => XS.ishr X104.here hx rfl (hb hby d20_50) rfl k) ?_
  show own_Go p e below s _ _ _ (T104.setTop (mkF m 51 #[.val (.ref a1), .val (.int (1 : Int32)), .val (.int cq)] [(.int (cq >>> ((8 : Int32) &&& 31))), (.int (1 : Int32)), (.ref a1)]))
  refine own_st (fun _ k => XS.i2b X104.here hx rfl (hb hby d20_51) rfl k) ?_
  show own_Go p e below s _ _ _ (T104.setTop (mkF m 52 #[.val (.ref a1), .val (.int (1 : Int32)), .val (.int cq)] [(.int ((cq >>> ((8 : Int32) &&& 31)).toInt8.toInt32)), (.int (1 : Int32)), (.ref a1)]))
  show own_Go p e below s _ _ _ (T104.setTop (mkF m 52 #[.val (.ref a1), .val (.int (1 : Int32)), .val (.int cq)] [(.int (StrChars.hi8 cq)), (.int (1 : Int32)), (.ref a1)]))
  obtain ⟨c106, Ar106, q106, S106, M106, H106, U106⟩ := V103
  obtain ⟨T106, h106, X106, e106, W106, st106⟩ := stB X104 hx hZ e104 Ar106 (j := (1 : Int32)) (inb_of S106 ⟨by decide, by decide⟩) (g := (mkF m 52 #[.val (.ref a1), .val (.int (1 : Int32)), .val (.int cq)] [(.int (StrChars.hi8 cq)), (.int (1 : Int32)), (.ref a1)])) rfl rfl (hb hby d20_52)
  have V106 : Arv Z h106 a1 k1 .byte (4 : Int32) [(.int (StrChars.lo8 cq)), (.int (StrChars.hi8 cq)), ve2, ve3] (.int 0) := by
    have q := Arv.set Ar106 q106 S106 M106 H106 U106 (fits_nar_byte _) W106 1 rfl (Nat.le_of_ble_eq_true rfl)
    rw [own_narH] at q
    exact q
  have K106 := Keep.of_wr W106
  have N106 := Fr.snoc X106 N103 (by omega : n0 ≤ a1)
  refine own_st st106 ?_
  have zK106 := K106.1
  show own_Go p e below s _ _ _ (T106.setTop (mkF m 53 #[.val (.ref a1), .val (.int (1 : Int32)), .val (.int cq)] []))
  exact own_retV X106 hx hlk e106 hret (hb hby d20_53) (by decide) (by decide) ⟨rfl, N106, (((Keep.refl h0 [a1]).trans K103 (allS (Or.inl (by simp)) all0)).trans K106 (allS (Or.inl (by simp)) all0)), V106⟩
theorem ef_pc41 (m : MethodId) (x0 : Addr) (x1 : Int32) (x2 : Int32) : entryFrame m #[(.ref x0), (.int x1), (.int x2)] 3 = mkF m 0 #[.val (.ref x0), .val (.int x1), .val (.int x2)] [] := by (first | (simp [entryFrame, mkF, argsToLocals, Value.category]; done) | rfl)
abbrev pc41R : Room := { frames := 0, cells := 0, slots := 0, locals := 0 }
set_option maxRecDepth 65536 in
set_option maxHeartbeats 40000000 in
theorem pc41 (l : Launch) (Z : State) (a0 : Array Value) (hw : ∀ d ∈ tables_1, d.before a0 Z = true) (a1 : Nat) (k1 : ClassId) (cq : Int32) (ve0 ve1 ve2 ve3 : Value) (h0 : Heap) (n0 : Nat) (O0 : Old Z n0 h0) (UT : own_U16 Z) (g1 : n0 ≤ a1) (V1 : Arv Z h0 a1 k1 .byte 4 [ve0, ve1, ve2, ve3] (.int 0)) :
    own_C l Z (⟨"java/lang/StringUTF16", "putChar", "([BII)V"⟩ : MethodName) jdk_52_method_4_code 3 none [] pc41R #[(.ref a1), (.int (1 : Int32)), (.int cq)] h0 (fun v h L => v = none ∧ Fr n0 L ∧ Keep h0 h [a1] ∧ Arv Z h a1 k1 .byte 4 [ve0, ve1, .int (StrChars.lo8 cq), .int (StrChars.hi8 cq)] (.int 0)) := by
  refine own_body (plainFor_of_name pn_java_lang_StringUTF16) ?_
  intro p e s m below meth c T0 X0 hx hby hml hZ hown hnm hret hlk e0
  have N0 := Fr.nil n0
  have zO := own_old O0
  obtain ⟨Ua, Uh, Ul⟩ := id UT
  refine own_st (fun _ k => castTop (ef_pc41 m a1 (1 : Int32) cq) k) ?_
  show own_Go p e below s _ _ _ (T0.setTop (mkF m 0 #[.val (.ref a1), .val (.int (1 : Int32)), .val (.int cq)] []))
  obtain ⟨T101, X101, e101, st101⟩ := getS2 X0 hx hZ hown (host := "") (Or.inl (hw _ (List.mem_of_getElem? (i := 88) rfl))) Via.refl e0 (Ua.ext O0.2) (g := (mkF m 0 #[.val (.ref a1), .val (.int (1 : Int32)), .val (.int cq)] [])) rfl (hb hby d20_0)
  refine own_st st101 ?_
  show own_Go p e below s _ _ _ (T101.setTop (mkF m 3 #[.val (.ref a1), .val (.int (1 : Int32)), .val (.int cq)] [(.int (1 : Int32))]))
  refine own_st (fun _ k => XS.ifYes X101.here hx rfl (pc0 := 3) (pc' := 28) rfl (hb hby d20_3) rfl ((if0 _ _).trans (feq (by decide)).2) (by decide) (by decide) k) ?_
  show own_Go p e below s _ _ _ (T101.setTop (mkF m 28 #[.val (.ref a1), .val (.int (1 : Int32)), .val (.int cq)] []))
  refine own_st (fun _ k => XS.iloadN X101.here hx rfl (hb hby d20_28) rfl k) ?_
  show own_Go p e below s _ _ _ (T101.setTop (mkF m 29 #[.val (.ref a1), .val (.int (1 : Int32)), .val (.int cq)] [(.int (1 : Int32))]))
  refine own_st (fun _ k => XS.iconst X101.here hx rfl (hb hby d20_29) k) ?_
  show own_Go p e below s _ _ _ (T101.setTop (mkF m 30 #[.val (.ref a1), .val (.int (1 : Int32)), .val (.int cq)] [(.int (1 : Int32)), (.int (1 : Int32))]))
  refine own_st (fun _ k => XS.ishl X101.here hx rfl (hb hby d20_30) rfl k) ?_
  show own_Go p e below s _ _ _ (T101.setTop (mkF m 31 #[.val (.ref a1), .val (.int (1 : Int32)), .val (.int cq)] [(.int ((1 : Int32) <<< ((1 : Int32) &&& 31)))]))
  rw [(by decide : ((1 : Int32) <<< ((1 : Int32) &&& 31)) = (2 : Int32))]
  show own_Go p e below s _ _ _ (T101.setTop (mkF m 31 #[.val (.ref a1), .val (.int (1 : Int32)), .val (.int cq)] [(.int (2 : Int32))]))
  refine own_st (fun _ k => XS.istoreN X101.here hx rfl (hb hby d20_31) rfl (l' := #[.val (.ref a1), .val (.int (2 : Int32)), .val (.int cq)]) rfl k) ?_
  show own_Go p e below s _ _ _ (T101.setTop (mkF m 32 #[.val (.ref a1), .val (.int (2 : Int32)), .val (.int cq)] []))
  refine own_st (fun _ k => XS.aloadN X101.here hx rfl (hb hby d20_32) rfl rfl k) ?_
  show own_Go p e below s _ _ _ (T101.setTop (mkF m 33 #[.val (.ref a1), .val (.int (2 : Int32)), .val (.int cq)] [(.ref a1)]))
  refine own_st (fun _ k => XS.iloadN X101.here hx rfl (hb hby d20_33) rfl k) ?_
  show own_Go p e below s _ _ _ (T101.setTop (mkF m 34 #[.val (.ref a1), .val (.int (2 : Int32)), .val (.int cq)] [(.int (2 : Int32)), (.ref a1)]))
  refine own_st (fun _ k => XS.iinc X101.here hx rfl (hb hby d20_34) rfl (l' := #[.val (.ref a1), .val (.int ((2 : Int32) + (1 : Int32))), .val (.int cq)]) rfl k) ?_
  show own_Go p e below s _ _ _ (T101.setTop (mkF m 37 #[.val (.ref a1), .val (.int ((2 : Int32) + (1 : Int32))), .val (.int cq)] [(.int (2 : Int32)), (.ref a1)]))
  rw [(by decide : ((2 : Int32) + (1 : Int32)) = (3 : Int32))]
  show own_Go p e below s _ _ _ (T101.setTop (mkF m 37 #[.val (.ref a1), .val (.int (3 : Int32)), .val (.int cq)] [(.int (2 : Int32)), (.ref a1)]))
  refine own_st (fun _ k => XS.iloadN X101.here hx rfl (hb hby d20_37) rfl k) ?_
  show own_Go p e below s _ _ _ (T101.setTop (mkF m 38 #[.val (.ref a1), .val (.int (3 : Int32)), .val (.int cq)] [(.int cq), (.int (2 : Int32)), (.ref a1)]))
  obtain ⟨T102, X102, e102, st102⟩ := getS2 X101 hx hZ hown (host := "") (Or.inl (hw _ (List.mem_of_getElem? (i := 89) rfl))) Via.refl e101 (Uh.ext O0.2) (g := (mkF m 38 #[.val (.ref a1), .val (.int (3 : Int32)), .val (.int cq)] [(.int cq), (.int (2 : Int32)), (.ref a1)])) rfl (hb hby d20_38)
  refine own_st st102 ?_
  show own_Go p e below s _ _ _ (T102.setTop (mkF m 41 #[.val (.ref a1), .val (.int (3 : Int32)), .val (.int cq)] [(.int (0 : Int32)), (.int cq), (.int (2 : Int32)), (.ref a1)]))
  refine own_st (fun _ k => XS.ishr X102.here hx rfl (hb hby d20_41) rfl k) ?_
  show own_Go p e below s _ _ _ (T102.setTop (mkF m 42 #[.val (.ref a1), .val (.int (3 : Int32)), .val (.int cq)] [(.int (cq >>> ((0 : Int32) &&& 31))), (.int (2 : Int32)), (.ref a1)]))
  refine own_st (fun _ k => XS.i2b X102.here hx rfl (hb hby d20_42) rfl k) ?_
  show own_Go p e below s _ _ _ (T102.setTop (mkF m 43 #[.val (.ref a1), .val (.int (3 : Int32)), .val (.int cq)] [(.int ((cq >>> ((0 : Int32) &&& 31)).toInt8.toInt32)), (.int (2 : Int32)), (.ref a1)]))
  rw [StrChars.shr0]
  show own_Go p e below s _ _ _ (T102.setTop (mkF m 43 #[.val (.ref a1), .val (.int (3 : Int32)), .val (.int cq)] [(.int (StrChars.lo8 cq)), (.int (2 : Int32)), (.ref a1)]))
  obtain ⟨c103, Ar103, q103, S103, M103, H103, U103⟩ := V1
  obtain ⟨T103, h103, X103, e103, W103, st103⟩ := stB X102 hx hZ e102 Ar103 (j := (2 : Int32)) (inb_of S103 ⟨by decide, by decide⟩) (g := (mkF m 43 #[.val (.ref a1), .val (.int (3 : Int32)), .val (.int cq)] [(.int (StrChars.lo8 cq)), (.int (2 : Int32)), (.ref a1)])) rfl rfl (hb hby d20_43)
  have V103 : Arv Z h103 a1 k1 .byte (4 : Int32) [ve0, ve1, (.int (StrChars.lo8 cq)), ve3] (.int 0) := by
    have q := Arv.set Ar103 q103 S103 M103 H103 U103 (fits_nar_byte _) W103 2 rfl (Nat.le_of_ble_eq_true rfl)
    rw [own_narB] at q
    exact q
  have K103 := Keep.of_wr W103
  have N103 := Fr.snoc X103 N0 (by omega : n0 ≤ a1)
  refine own_st st103 ?_
  have zK103 := K103.1
  show own_Go p e below s _ _ _ (T103.setTop (mkF m 44 #[.val (.ref a1), .val (.int (3 : Int32)), .val (.int cq)] []))
  refine own_st (fun _ k => XS.aloadN X103.here hx rfl (hb hby d20_44) rfl rfl k) ?_
  show own_Go p e below s _ _ _ (T103.setTop (mkF m 45 #[.val (.ref a1), .val (.int (3 : Int32)), .val (.int cq)] [(.ref a1)]))
  refine own_st (fun _ k => XS.iloadN X103.here hx rfl (hb hby d20_45) rfl k) ?_
  show own_Go p e below s _ _ _ (T103.setTop (mkF m 46 #[.val (.ref a1), .val (.int (3 : Int32)), .val (.int cq)] [(.int (3 : Int32)), (.ref a1)]))
  refine own_st (fun _ k => XS.iloadN X103.here hx rfl (hb hby d20_46) rfl k) ?_
  show own_Go p e below s _ _ _ (T103.setTop (mkF m 47 #[.val (.ref a1), .val (.int (3 : Int32)), .val (.int cq)] [(.int cq), (.int (3 : Int32)), (.ref a1)]))
  have O105 : Old Z n0 h103 := O0.keep ((Keep.refl h0 [a1]).trans K103 (allS (Or.inl (by simp)) all0)) (allS (by omega) all0)
  obtain ⟨T104, X104, e104, st104⟩ := getS2 X103 hx hZ hown (host := "") (Or.inl (hw _ (List.mem_of_getElem? (i := 90) rfl))) Via.refl e103 (Ul.ext O105.2) (g := (mkF m 47 #[.val (.ref a1), .val (.int (3 : Int32)), .val (.int cq)] [(.int cq), (.int (3 : Int32)), (.ref a1)])) rfl (hb hby d20_47)
  refine own_st st104 ?_
  show own_Go p e below s _ _ _ (T104.setTop (mkF m 50 #[.val (.ref a1), .val (.int (3 : Int32)), .val (.int cq)] [(.int (8 : Int32)), (.int cq), (.int (3 : Int32)), (.ref a1)]))
  refine own_st (fun _ k => XS.ishr X104.here hx rfl (hb hby d20_50) rfl k) ?_
  show own_Go p e below s _ _ _ (T104.setTop (mkF m 51 #[.val (.ref a1), .val (.int (3 : Int32)), .val (.int cq)] [(.int (cq >>> ((8 : Int32) &&& 31))), (.int (3 : Int32)), (.ref a1)]))
  refine own_st (fun _ k => XS.i2b X104.here hx rfl (hb hby d20_51) rfl k) ?_
  show own_Go p e below s _ _ _ (T104.setTop (mkF m 52 #[.val (.ref a1), .val (.int (3 : Int32)), .val (.int cq)] [(.int ((cq >>> ((8 : Int32) &&& 31)).toInt8.toInt32)), (.int (3 : Int32)), (.ref a1)]))
  show own_Go p e below s _ _ _ (T104.setTop (mkF m 52 #[.val (.ref a1), .val (.int (3 : Int32)), .val (.int cq)] [(.int (StrChars.hi8 cq)), (.int (3 : Int32)), (.ref a1)]))
  obtain ⟨c106, Ar106, q106, S106, M106, H106, U106⟩ := V103
  obtain ⟨T106, h106, X106, e106, W106, st106⟩ := stB X104 hx hZ e104 Ar106 (j := (3 : Int32)) (inb_of S106 ⟨by decide, by decide⟩) (g := (mkF m 52 #[.val (.ref a1), .val (.int (3 : Int32)), .val (.int cq)] [(.int (StrChars.hi8 cq)), (.int (3 : Int32)), (.ref a1)])) rfl rfl (hb hby d20_52)
  have V106 : Arv Z h106 a1 k1 .byte (4 : Int32) [ve0, ve1, (.int (StrChars.lo8 cq)), (.int (StrChars.hi8 cq))] (.int 0) := by
    have q := Arv.set Ar106 q106 S106 M106 H106 U106 (fits_nar_byte _) W106 3 rfl (Nat.le_of_ble_eq_true rfl)
    rw [own_narH] at q
    exact q
  have K106 := Keep.of_wr W106
  have N106 := Fr.snoc X106 N103 (by omega : n0 ≤ a1)
  refine own_st st106 ?_
  have zK106 := K106.1
  show own_Go p e below s _ _ _ (T106.setTop (mkF m 53 #[.val (.ref a1), .val (.int (3 : Int32)), .val (.int cq)] []))
  exact own_retV X106 hx hlk e106 hret (hb hby d20_53) (by decide) (by decide) ⟨rfl, N106, (((Keep.refl h0 [a1]).trans K103 (allS (Or.inl (by simp)) all0)).trans K106 (allS (Or.inl (by simp)) all0)), V106⟩
theorem d19_0 : decode jdk_52_method_3_code 0 = .ok (.iload_n 0, 1) := by decide +kernel
theorem d19_1 : decode jdk_52_method_3_code 1 = .ok (.ifCond .ge 11, 3) := by decide +kernel
theorem d19_12 : decode jdk_52_method_3_code 12 = .ok (.iload_n 0, 1) := by decide +kernel
theorem d19_13 : decode jdk_52_method_3_code 13 = .ok (.ldc 20, 2) := by decide +kernel
theorem d19_15 : decode jdk_52_method_3_code 15 = .ok (.if_icmp .lt 40, 3) := by decide +kernel
theorem d19_55 : decode jdk_52_method_3_code 55 = .ok (.iload_n 0, 1) := by decide +kernel
theorem d19_56 : decode jdk_52_method_3_code 56 = .ok (.iconst 1, 1) := by decide +kernel
theorem d19_57 : decode jdk_52_method_3_code 57 = .ok (.ishl, 1) := by decide +kernel
theorem d19_58 : decode jdk_52_method_3_code 58 = .ok (.ireturn, 1) := by decide +kernel
theorem ef_nl1 (m : MethodId) (x0 : Int32) : entryFrame m #[(.int x0)] 1 = mkF m 0 #[.val (.int x0)] [] := by (first | (simp [entryFrame, mkF, argsToLocals, Value.category]; done) | rfl)
abbrev nl1R : Room := { frames := 0, cells := 0, slots := 0, locals := 0 }
set_option maxRecDepth 65536 in
set_option maxHeartbeats 40000000 in
theorem nl1 (l : Launch) (Z : State) (a0 : Array Value) (hw : ∀ d ∈ tables_1, d.before a0 Z = true)  (h0 : Heap) (n0 : Nat) (O0 : Old Z n0 h0)  :
    own_C l Z (⟨"java/lang/StringUTF16", "newBytesLength", "(I)I"⟩ : MethodName) jdk_52_method_3_code 1 (some .int) [] nl1R #[(.int (1 : Int32))] h0 (fun v h L => v = some (.int 2) ∧ Fr n0 L ∧ h = h0) := by
  refine own_body (plainFor_of_name pn_java_lang_StringUTF16) ?_
  intro p e s m below meth c T0 X0 hx hby hml hZ hown hnm hret hlk e0
  have N0 := Fr.nil n0
  have zO := own_old O0
  refine own_st (fun _ k => castTop (ef_nl1 m (1 : Int32)) k) ?_
  show own_Go p e below s _ _ _ (T0.setTop (mkF m 0 #[.val (.int (1 : Int32))] []))
  refine own_st (fun _ k => XS.iloadN X0.here hx rfl (hb hby d19_0) rfl k) ?_
  show own_Go p e below s _ _ _ (T0.setTop (mkF m 1 #[.val (.int (1 : Int32))] [(.int (1 : Int32))]))
  refine own_st (fun _ k => XS.ifYes X0.here hx rfl (pc0 := 1) (pc' := 12) rfl (hb hby d19_1) rfl ((if0 _ _).trans (flt (by decide)).2.1) (by decide) (by decide) k) ?_
  show own_Go p e below s _ _ _ (T0.setTop (mkF m 12 #[.val (.int (1 : Int32))] []))
  refine own_st (fun _ k => XS.iloadN X0.here hx rfl (hb hby d19_12) rfl k) ?_
  show own_Go p e below s _ _ _ (T0.setTop (mkF m 13 #[.val (.int (1 : Int32))] [(.int (1 : Int32))]))
  refine own_st (X0.ldcInt hx hown (mvT hZ (hw _ (List.mem_of_getElem? (i := 84) rfl))) (g := (mkF m 13 #[.val (.int (1 : Int32))] [(.int (1 : Int32))])) rfl (hb hby d19_13)) ?_
  show own_Go p e below s _ _ _ (T0.setTop (mkF m 15 #[.val (.int (1 : Int32))] [(.int (1073741823 : Int32)), (.int (1 : Int32))]))
  refine own_st (fun _ k => XS.icmpYes X0.here hx rfl (pc0 := 15) (pc' := 55) rfl (hb hby d19_15) rfl (tlt (by decide)).1 (by decide) (by decide) k) ?_
  show own_Go p e below s _ _ _ (T0.setTop (mkF m 55 #[.val (.int (1 : Int32))] []))
  refine own_st (fun _ k => XS.iloadN X0.here hx rfl (hb hby d19_55) rfl k) ?_
  show own_Go p e below s _ _ _ (T0.setTop (mkF m 56 #[.val (.int (1 : Int32))] [(.int (1 : Int32))]))
  refine own_st (fun _ k => XS.iconst X0.here hx rfl (hb hby d19_56) k) ?_
  show own_Go p e below s _ _ _ (T0.setTop (mkF m 57 #[.val (.int (1 : Int32))] [(.int (1 : Int32)), (.int (1 : Int32))]))
  refine own_st (fun _ k => XS.ishl X0.here hx rfl (hb hby d19_57) rfl k) ?_
  show own_Go p e below s _ _ _ (T0.setTop (mkF m 58 #[.val (.int (1 : Int32))] [(.int ((1 : Int32) <<< ((1 : Int32) &&& 31)))]))
  rw [(by decide : ((1 : Int32) <<< ((1 : Int32) &&& 31)) = (2 : Int32))]
  show own_Go p e below s _ _ _ (T0.setTop (mkF m 58 #[.val (.int (1 : Int32))] [(.int (2 : Int32))]))
  exact own_ret X0 hx hlk e0 hret rfl (Or.inl ⟨rfl, Or.inl rfl, _, rfl⟩) (hb hby d19_58) (by decide) (by decide) ⟨rfl, N0, rfl⟩
theorem ef_nl2 (m : MethodId) (x0 : Int32) : entryFrame m #[(.int x0)] 1 = mkF m 0 #[.val (.int x0)] [] := by (first | (simp [entryFrame, mkF, argsToLocals, Value.category]; done) | rfl)
abbrev nl2R : Room := { frames := 0, cells := 0, slots := 0, locals := 0 }
set_option maxRecDepth 65536 in
set_option maxHeartbeats 40000000 in
theorem nl2 (l : Launch) (Z : State) (a0 : Array Value) (hw : ∀ d ∈ tables_1, d.before a0 Z = true)  (h0 : Heap) (n0 : Nat) (O0 : Old Z n0 h0)  :
    own_C l Z (⟨"java/lang/StringUTF16", "newBytesLength", "(I)I"⟩ : MethodName) jdk_52_method_3_code 1 (some .int) [] nl2R #[(.int (2 : Int32))] h0 (fun v h L => v = some (.int 4) ∧ Fr n0 L ∧ h = h0) := by
  refine own_body (plainFor_of_name pn_java_lang_StringUTF16) ?_
  intro p e s m below meth c T0 X0 hx hby hml hZ hown hnm hret hlk e0
  have N0 := Fr.nil n0
  have zO := own_old O0
  refine own_st (fun _ k => castTop (ef_nl2 m (2 : Int32)) k) ?_
  show own_Go p e below s _ _ _ (T0.setTop (mkF m 0 #[.val (.int (2 : Int32))] []))
  refine own_st (fun _ k => XS.iloadN X0.here hx rfl (hb hby d19_0) rfl k) ?_
  show own_Go p e below s _ _ _ (T0.setTop (mkF m 1 #[.val (.int (2 : Int32))] [(.int (2 : Int32))]))
  refine own_st (fun _ k => XS.ifYes X0.here hx rfl (pc0 := 1) (pc' := 12) rfl (hb hby d19_1) rfl ((if0 _ _).trans (flt (by decide)).2.1) (by decide) (by decide) k) ?_
  show own_Go p e below s _ _ _ (T0.setTop (mkF m 12 #[.val (.int (2 : Int32))] []))
  refine own_st (fun _ k => XS.iloadN X0.here hx rfl (hb hby d19_12) rfl k) ?_
  show own_Go p e below s _ _ _ (T0.setTop (mkF m 13 #[.val (.int (2 : Int32))] [(.int (2 : Int32))]))
  refine own_st (X0.ldcInt hx hown (mvT hZ (hw _ (List.mem_of_getElem? (i := 84) rfl))) (g := (mkF m 13 #[.val (.int (2 : Int32))] [(.int (2 : Int32))])) rfl (hb hby d19_13)) ?_
  show own_Go p e below s _ _ _ (T0.setTop (mkF m 15 #[.val (.int (2 : Int32))] [(.int (1073741823 : Int32)), (.int (2 : Int32))]))
  refine own_st (fun _ k => XS.icmpYes X0.here hx rfl (pc0 := 15) (pc' := 55) rfl (hb hby d19_15) rfl (tlt (by decide)).1 (by decide) (by decide) k) ?_
  show own_Go p e below s _ _ _ (T0.setTop (mkF m 55 #[.val (.int (2 : Int32))] []))
  refine own_st (fun _ k => XS.iloadN X0.here hx rfl (hb hby d19_55) rfl k) ?_
  show own_Go p e below s _ _ _ (T0.setTop (mkF m 56 #[.val (.int (2 : Int32))] [(.int (2 : Int32))]))
  refine own_st (fun _ k => XS.iconst X0.here hx rfl (hb hby d19_56) k) ?_
  show own_Go p e below s _ _ _ (T0.setTop (mkF m 57 #[.val (.int (2 : Int32))] [(.int (1 : Int32)), (.int (2 : Int32))]))
  refine own_st (fun _ k => XS.ishl X0.here hx rfl (hb hby d19_57) rfl k) ?_
  show own_Go p e below s _ _ _ (T0.setTop (mkF m 58 #[.val (.int (2 : Int32))] [(.int ((2 : Int32) <<< ((1 : Int32) &&& 31)))]))
  rw [(by decide : ((2 : Int32) <<< ((1 : Int32) &&& 31)) = (4 : Int32))]
  show own_Go p e below s _ _ _ (T0.setTop (mkF m 58 #[.val (.int (2 : Int32))] [(.int (4 : Int32))]))
  exact own_ret X0 hx hlk e0 hret rfl (Or.inl ⟨rfl, Or.inl rfl, _, rfl⟩) (hb hby d19_58) (by decide) (by decide) ⟨rfl, N0, rfl⟩
theorem d18_0 : decode jdk_52_method_2_code 0 = .ok (.iload_n 0, 1) := by decide +kernel
theorem pd__28I_29I : parseMethodDescriptor "(I)I" = some ⟨[.int], some .int⟩ := by decide +kernel
theorem d18_1 : decode jdk_52_method_2_code 1 = .ok (.invokestatic 11, 3) := by decide +kernel
theorem d18_4 : decode jdk_52_method_2_code 4 = .ok (.newarray .byte, 2) := by decide +kernel
theorem d18_6 : decode jdk_52_method_2_code 6 = .ok (.areturn, 1) := by decide +kernel
theorem ef_nf1 (m : MethodId) (x0 : Int32) : entryFrame m #[(.int x0)] 1 = mkF m 0 #[.val (.int x0)] [] := by (first | (simp [entryFrame, mkF, argsToLocals, Value.category]; done) | rfl)
abbrev nf1R : Room := { frames := 1, cells := 1, slots := 2, locals := 12 }
set_option maxRecDepth 65536 in
set_option maxHeartbeats 40000000 in
theorem nf1 (l : Launch) (Z : State) (a0 : Array Value) (hw : ∀ d ∈ tables_1, d.before a0 Z = true)  (h0 : Heap) (n0 : Nat) (O0 : Old Z n0 h0)  :
    own_C l Z (⟨"java/lang/StringUTF16", "newBytesFor", "(I)[B"⟩ : MethodName) jdk_52_method_2_code 1 (some (.array .byte)) [] nf1R #[(.int (1 : Int32))] h0 (fun v h L => Fr n0 L ∧ ∃ (b : Nat) (kb : ClassId), v = some (.ref b) ∧ Keep h0 h [] ∧ h0.size ≤ b ∧ b < h.size ∧ Arv Z h b kb .byte 2 [(.int (0 : Int32)), (.int (0 : Int32))] (.int 0)) := by
  refine own_body (plainFor_of_name pn_java_lang_StringUTF16) ?_
  intro p e s m below meth c T0 X0 hx hby hml hZ hown hnm hret hlk e0
  have N0 := Fr.nil n0
  have zO := own_old O0
  refine own_st (fun _ k => castTop (ef_nf1 m (1 : Int32)) k) ?_
  show own_Go p e below s _ _ _ (T0.setTop (mkF m 0 #[.val (.int (1 : Int32))] []))
  refine own_st (fun _ k => XS.iloadN X0.here hx rfl (hb hby d18_0) rfl k) ?_
  show own_Go p e below s _ _ _ (T0.setTop (mkF m 1 #[.val (.int (1 : Int32))] [(.int (1 : Int32))]))
  obtain ⟨T101, v101, L101, h101, X101, e101, q101, st101⟩ := own_callS X0 hx hZ (y := (⟨"java/lang/StringUTF16", "newBytesLength", "(I)I"⟩ : MethodName)) hown (hw _ (List.mem_of_getElem? (i := 81) rfl)) (hw _ (List.mem_of_getElem? (i := 82) rfl)) (hw _ (List.mem_of_getElem? (i := 65) rfl)) (hw _ (List.mem_of_getElem? (i := 83) rfl)) (by decide) (own_bk (W := 0) (nl1 l Z a0 hw h0 n0 O0) hZ (hw _ (List.mem_of_getElem? (i := 83) rfl)) (hw _ (List.mem_of_getElem? (i := 65) rfl)) (by decide) (by decide)) e0 (by decide) (by decide) (g := (mkF m 1 #[.val (.int (1 : Int32))] [(.int (1 : Int32))])) rfl (by rw [hml]; rfl) (argsL := [(.int (1 : Int32))]) (rest := []) (lenOf pd__28I_29I rfl) rfl rfl (by show 2 * 0 + _ ≤ _; exact Nat.le_of_eq rfl) (hb hby d18_1)
  obtain ⟨rfl, N101q, hq101⟩ := q101
  replace e101 := e101.trans hq101
  refine own_st st101 ?_
  have N101 := Fr.app N0 N101q
  show own_Go p e below s _ _ _ (T101.setTop (mkF m 4 #[.val (.int (1 : Int32))] [(.int (2 : Int32))]))
  obtain ⟨T102, h102, k102, X102, e102, E102, A102, st102⟩ := newP X101 hx hZ (hw _ (List.mem_of_getElem? (i := 23) rfl)) e101 (g := (mkF m 4 #[.val (.int (1 : Int32))] [(.int (2 : Int32))])) rfl (hb hby d18_4) rfl (by decide) (cap := 2) (by decide) (by decide) (by decide) (by decide)
  obtain ⟨b102, g102⟩ : ∃ z, z = h0.size := ⟨_, rfl⟩
  rw [← g102] at A102 st102
  have K102 : Keep h0 h102 [] := (Keep.refl _ _).ext E102
  have l102 : b102 < h102.size := A102.lt
  refine own_st st102 ?_
  have zK102 := K102.1
  have V102 : Arv Z h102 b102 k102 .byte (2 : Int32) [(.int (0 : Int32)), (.int (0 : Int32))] (.int (0 : Int32)) := (Arv.new A102 (by decide)).pad (pad_rep [] (.int (0 : Int32)) 2)
  show own_Go p e below s _ _ _ (T102.setTop (mkF m 6 #[.val (.int (1 : Int32))] [(.ref b102)]))
  exact own_ret X102 hx hlk e102 hret rfl (Or.inr (Or.inr (Or.inr (Or.inr ⟨rfl, rfl, rfl⟩)))) (hb hby d18_6) (by decide) (by decide) ⟨N101, b102, _, rfl, ((Keep.refl h0 []).trans K102 all0), by omega, V102.lt, V102⟩
theorem ef_nf2 (m : MethodId) (x0 : Int32) : entryFrame m #[(.int x0)] 1 = mkF m 0 #[.val (.int x0)] [] := by (first | (simp [entryFrame, mkF, argsToLocals, Value.category]; done) | rfl)
abbrev nf2R : Room := { frames := 1, cells := 1, slots := 4, locals := 12 }
set_option maxRecDepth 65536 in
set_option maxHeartbeats 40000000 in
theorem nf2 (l : Launch) (Z : State) (a0 : Array Value) (hw : ∀ d ∈ tables_1, d.before a0 Z = true)  (h0 : Heap) (n0 : Nat) (O0 : Old Z n0 h0)  :
    own_C l Z (⟨"java/lang/StringUTF16", "newBytesFor", "(I)[B"⟩ : MethodName) jdk_52_method_2_code 1 (some (.array .byte)) [] nf2R #[(.int (2 : Int32))] h0 (fun v h L => Fr n0 L ∧ ∃ (b : Nat) (kb : ClassId), v = some (.ref b) ∧ Keep h0 h [] ∧ h0.size ≤ b ∧ b < h.size ∧ Arv Z h b kb .byte 4 [(.int (0 : Int32)), (.int (0 : Int32)), (.int (0 : Int32)), (.int (0 : Int32))] (.int 0)) := by
  refine own_body (plainFor_of_name pn_java_lang_StringUTF16) ?_
  intro p e s m below meth c T0 X0 hx hby hml hZ hown hnm hret hlk e0
  have N0 := Fr.nil n0
  have zO := own_old O0
  refine own_st (fun _ k => castTop (ef_nf2 m (2 : Int32)) k) ?_
  show own_Go p e below s _ _ _ (T0.setTop (mkF m 0 #[.val (.int (2 : Int32))] []))
  refine own_st (fun _ k => XS.iloadN X0.here hx rfl (hb hby d18_0) rfl k) ?_
  show own_Go p e below s _ _ _ (T0.setTop (mkF m 1 #[.val (.int (2 : Int32))] [(.int (2 : Int32))]))
  obtain ⟨T101, v101, L101, h101, X101, e101, q101, st101⟩ := own_callS X0 hx hZ (y := (⟨"java/lang/StringUTF16", "newBytesLength", "(I)I"⟩ : MethodName)) hown (hw _ (List.mem_of_getElem? (i := 81) rfl)) (hw _ (List.mem_of_getElem? (i := 82) rfl)) (hw _ (List.mem_of_getElem? (i := 65) rfl)) (hw _ (List.mem_of_getElem? (i := 83) rfl)) (by decide) (own_bk (W := 0) (nl2 l Z a0 hw h0 n0 O0) hZ (hw _ (List.mem_of_getElem? (i := 83) rfl)) (hw _ (List.mem_of_getElem? (i := 65) rfl)) (by decide) (by decide)) e0 (by decide) (by decide) (g := (mkF m 1 #[.val (.int (2 : Int32))] [(.int (2 : Int32))])) rfl (by rw [hml]; rfl) (argsL := [(.int (2 : Int32))]) (rest := []) (lenOf pd__28I_29I rfl) rfl rfl (by show 2 * 0 + _ ≤ _; exact Nat.le_of_eq rfl) (hb hby d18_1)
  obtain ⟨rfl, N101q, hq101⟩ := q101
  replace e101 := e101.trans hq101
  refine own_st st101 ?_
  have N101 := Fr.app N0 N101q
  show own_Go p e below s _ _ _ (T101.setTop (mkF m 4 #[.val (.int (2 : Int32))] [(.int (4 : Int32))]))
  obtain ⟨T102, h102, k102, X102, e102, E102, A102, st102⟩ := newP X101 hx hZ (hw _ (List.mem_of_getElem? (i := 23) rfl)) e101 (g := (mkF m 4 #[.val (.int (2 : Int32))] [(.int (4 : Int32))])) rfl (hb hby d18_4) rfl (by decide) (cap := 4) (by decide) (by decide) (by decide) (by decide)
  obtain ⟨b102, g102⟩ : ∃ z, z = h0.size := ⟨_, rfl⟩
  rw [← g102] at A102 st102
  have K102 : Keep h0 h102 [] := (Keep.refl _ _).ext E102
  have l102 : b102 < h102.size := A102.lt
  refine own_st st102 ?_
  have zK102 := K102.1
  have V102 : Arv Z h102 b102 k102 .byte (4 : Int32) [(.int (0 : Int32)), (.int (0 : Int32)), (.int (0 : Int32)), (.int (0 : Int32))] (.int (0 : Int32)) := (Arv.new A102 (by decide)).pad (pad_rep [] (.int (0 : Int32)) 4)
  show own_Go p e below s _ _ _ (T102.setTop (mkF m 6 #[.val (.int (2 : Int32))] [(.ref b102)]))
  exact own_ret X102 hx hlk e102 hret rfl (Or.inr (Or.inr (Or.inr (Or.inr ⟨rfl, rfl, rfl⟩)))) (hb hby d18_6) (by decide) (by decide) ⟨N101, b102, _, rfl, ((Keep.refl h0 []).trans K102 all0), by omega, V102.lt, V102⟩
theorem d17_0 : decode jdk_52_method_14_code 0 = .ok (.iload_n 2, 1) := by decide +kernel
theorem pd__28I_29_5bB : parseMethodDescriptor "(I)[B" = some ⟨[.int], some (.array .byte)⟩ := by decide +kernel
theorem d17_1 : decode jdk_52_method_14_code 1 = .ok (.invokestatic 107, 3) := by decide +kernel
theorem d17_4 : decode jdk_52_method_14_code 4 = .ok (.astore_n 3, 1) := by decide +kernel
theorem d17_5 : decode jdk_52_method_14_code 5 = .ok (.iconst 0, 1) := by decide +kernel
theorem d17_6 : decode jdk_52_method_14_code 6 = .ok (.istore 4, 2) := by decide +kernel
theorem d17_8 : decode jdk_52_method_14_code 8 = .ok (.iload 4, 2) := by decide +kernel
theorem d17_10 : decode jdk_52_method_14_code 10 = .ok (.iload_n 2, 1) := by decide +kernel
theorem d17_11 : decode jdk_52_method_14_code 11 = .ok (.if_icmp .ge 21, 3) := by decide +kernel
theorem d17_14 : decode jdk_52_method_14_code 14 = .ok (.aload_n 3, 1) := by decide +kernel
theorem d17_15 : decode jdk_52_method_14_code 15 = .ok (.iload 4, 2) := by decide +kernel
theorem d17_17 : decode jdk_52_method_14_code 17 = .ok (.aload_n 0, 1) := by decide +kernel
theorem d17_18 : decode jdk_52_method_14_code 18 = .ok (.iload_n 1, 1) := by decide +kernel
theorem d17_19 : decode jdk_52_method_14_code 19 = .ok (.caload, 1) := by decide +kernel
theorem pd__28_5bBII_29V : parseMethodDescriptor "([BII)V" = some ⟨[(.array .byte), .int, .int], none⟩ := by decide +kernel
theorem d17_20 : decode jdk_52_method_14_code 20 = .ok (.invokestatic 111, 3) := by decide +kernel
theorem d17_23 : decode jdk_52_method_14_code 23 = .ok (.iinc 1 1, 3) := by decide +kernel
theorem d17_26 : decode jdk_52_method_14_code 26 = .ok (.iinc 4 1, 3) := by decide +kernel
theorem d17_29 : decode jdk_52_method_14_code 29 = .ok (.goto (-21), 3) := by decide +kernel
theorem d17_32 : decode jdk_52_method_14_code 32 = .ok (.aload_n 3, 1) := by decide +kernel
theorem d17_33 : decode jdk_52_method_14_code 33 = .ok (.areturn, 1) := by decide +kernel
theorem ef_tb1 (m : MethodId) (x0 : Addr) (x1 : Int32) (x2 : Int32) : entryFrame m #[(.ref x0), (.int x1), (.int x2)] 5 = mkF m 0 #[.val (.ref x0), .val (.int x1), .val (.int x2), .unset, .unset] [] := by (first | (simp [entryFrame, mkF, argsToLocals, Value.category]; done) | rfl)
abbrev tb1R : Room := { frames := 2, cells := 1, slots := 2, locals := 24 }
set_option maxRecDepth 65536 in
set_option maxHeartbeats 40000000 in
theorem tb1 (l : Launch) (Z : State) (a0 : Array Value) (hw : ∀ d ∈ tables_1, d.before a0 Z = true) (a1 : Nat) (k1 : ClassId) (c0 : Int32) (h0 : Heap) (n0 : Nat) (O0 : Old Z n0 h0) (UT : own_U16 Z) (V1 : Arv Z h0 a1 k1 .char 1 [.int c0] (.int 0)) :
    own_C l Z (⟨"java/lang/StringUTF16", "toBytes", "([CII)[B"⟩ : MethodName) jdk_52_method_14_code 5 (some (.array .byte)) [] tb1R #[(.ref a1), (.int (0 : Int32)), (.int (1 : Int32))] h0 (fun v h L => Fr n0 L ∧ ∃ (b : Nat) (kb : ClassId), v = some (.ref b) ∧ Keep h0 h [] ∧ h0.size ≤ b ∧ b < h.size ∧ Arv Z h b kb .byte 2 [.int (StrChars.lo8 c0), .int (StrChars.hi8 c0)] (.int 0)) := by
  refine own_body (plainFor_of_name pn_java_lang_StringUTF16) ?_
  intro p e s m below meth c T0 X0 hx hby hml hZ hown hnm hret hlk e0
  have N0 := Fr.nil n0
  have zO := own_old O0
  have la1 : a1 < h0.size := V1.lt
  refine own_st (fun _ k => castTop (ef_tb1 m a1 (0 : Int32) (1 : Int32)) k) ?_
  show own_Go p e below s _ _ _ (T0.setTop (mkF m 0 #[.val (.ref a1), .val (.int (0 : Int32)), .val (.int (1 : Int32)), .unset, .unset] []))
  refine own_st (fun _ k => XS.iloadN X0.here hx rfl (hb hby d17_0) rfl k) ?_
  show own_Go p e below s _ _ _ (T0.setTop (mkF m 1 #[.val (.ref a1), .val (.int (0 : Int32)), .val (.int (1 : Int32)), .unset, .unset] [(.int (1 : Int32))]))
  obtain ⟨T101, v101, L101, h101, X101, e101, q101, st101⟩ := own_callS X0 hx hZ (y := (⟨"java/lang/StringUTF16", "newBytesFor", "(I)[B"⟩ : MethodName)) hown (hw _ (List.mem_of_getElem? (i := 78) rfl)) (hw _ (List.mem_of_getElem? (i := 79) rfl)) (hw _ (List.mem_of_getElem? (i := 65) rfl)) (hw _ (List.mem_of_getElem? (i := 80) rfl)) (by decide) (own_bk (W := 0) (nf1 l Z a0 hw h0 n0 O0) hZ (hw _ (List.mem_of_getElem? (i := 80) rfl)) (hw _ (List.mem_of_getElem? (i := 65) rfl)) (by decide) (by decide)) e0 (by decide) (by decide) (g := (mkF m 1 #[.val (.ref a1), .val (.int (0 : Int32)), .val (.int (1 : Int32)), .unset, .unset] [(.int (1 : Int32))])) rfl (by rw [hml]; rfl) (argsL := [(.int (1 : Int32))]) (rest := []) (lenOf pd__28I_29_5bB rfl) rfl rfl (by show 2 * 0 + _ ≤ _; exact Nat.le_of_eq rfl) (hb hby d17_1)
  obtain ⟨N101q, b101, k101, rfl, K101, zb101, zc101, V101⟩ := q101
  refine own_st st101 ?_
  have zK101 := K101.1
  have N101 := Fr.app N0 N101q
  show own_Go p e below s _ _ _ (T101.setTop (mkF m 4 #[.val (.ref a1), .val (.int (0 : Int32)), .val (.int (1 : Int32)), .unset, .unset] [(.ref b101)]))
  refine own_st (fun _ k => XS.astoreN X101.here hx rfl (hb hby d17_4) rfl rfl (l' := #[.val (.ref a1), .val (.int (0 : Int32)), .val (.int (1 : Int32)), .val (.ref b101), .unset]) rfl k) ?_
  show own_Go p e below s _ _ _ (T101.setTop (mkF m 5 #[.val (.ref a1), .val (.int (0 : Int32)), .val (.int (1 : Int32)), .val (.ref b101), .unset] []))
  refine own_st (fun _ k => XS.iconst X101.here hx rfl (hb hby d17_5) k) ?_
  show own_Go p e below s _ _ _ (T101.setTop (mkF m 6 #[.val (.ref a1), .val (.int (0 : Int32)), .val (.int (1 : Int32)), .val (.ref b101), .unset] [(.int (0 : Int32))]))
  refine own_st (fun _ k => XS.istore X101.here hx rfl (hb hby d17_6) rfl (l' := #[.val (.ref a1), .val (.int (0 : Int32)), .val (.int (1 : Int32)), .val (.ref b101), .val (.int (0 : Int32))]) rfl k) ?_
  show own_Go p e below s _ _ _ (T101.setTop (mkF m 8 #[.val (.ref a1), .val (.int (0 : Int32)), .val (.int (1 : Int32)), .val (.ref b101), .val (.int (0 : Int32))] []))
  refine own_st (fun _ k => XS.iload X101.here hx rfl (hb hby d17_8) rfl k) ?_
  show own_Go p e below s _ _ _ (T101.setTop (mkF m 10 #[.val (.ref a1), .val (.int (0 : Int32)), .val (.int (1 : Int32)), .val (.ref b101), .val (.int (0 : Int32))] [(.int (0 : Int32))]))
  refine own_st (fun _ k => XS.iloadN X101.here hx rfl (hb hby d17_10) rfl k) ?_
  show own_Go p e below s _ _ _ (T101.setTop (mkF m 11 #[.val (.ref a1), .val (.int (0 : Int32)), .val (.int (1 : Int32)), .val (.ref b101), .val (.int (0 : Int32))] [(.int (1 : Int32)), (.int (0 : Int32))]))
  refine own_st (fun _ k => XS.icmpNo X101.here hx rfl (hb hby d17_11) rfl (tlt (by decide)).2.1 k) ?_
  show own_Go p e below s _ _ _ (T101.setTop (mkF m 14 #[.val (.ref a1), .val (.int (0 : Int32)), .val (.int (1 : Int32)), .val (.ref b101), .val (.int (0 : Int32))] []))
  refine own_st (fun _ k => XS.aloadN X101.here hx rfl (hb hby d17_14) rfl rfl k) ?_
  show own_Go p e below s _ _ _ (T101.setTop (mkF m 15 #[.val (.ref a1), .val (.int (0 : Int32)), .val (.int (1 : Int32)), .val (.ref b101), .val (.int (0 : Int32))] [(.ref b101)]))
  refine own_st (fun _ k => XS.iload X101.here hx rfl (hb hby d17_15) rfl k) ?_
  show own_Go p e below s _ _ _ (T101.setTop (mkF m 17 #[.val (.ref a1), .val (.int (0 : Int32)), .val (.int (1 : Int32)), .val (.ref b101), .val (.int (0 : Int32))] [(.int (0 : Int32)), (.ref b101)]))
  refine own_st (fun _ k => XS.aloadN X101.here hx rfl (hb hby d17_17) rfl rfl k) ?_
  show own_Go p e below s _ _ _ (T101.setTop (mkF m 18 #[.val (.ref a1), .val (.int (0 : Int32)), .val (.int (1 : Int32)), .val (.ref b101), .val (.int (0 : Int32))] [(.ref a1), (.int (0 : Int32)), (.ref b101)]))
  refine own_st (fun _ k => XS.iloadN X101.here hx rfl (hb hby d17_18) rfl k) ?_
  show own_Go p e below s _ _ _ (T101.setTop (mkF m 19 #[.val (.ref a1), .val (.int (0 : Int32)), .val (.int (1 : Int32)), .val (.ref b101), .val (.int (0 : Int32))] [(.int (0 : Int32)), (.ref a1), (.int (0 : Int32)), (.ref b101)]))
  have f102 := (V1.keep ((Keep.refl h0 []).trans K101 all0) nin0)
  obtain ⟨c103, Ar103, q103, S103, M103, H103, U103⟩ := id f102
  have hi103 := inb_of (j := (0 : Int32)) S103 ⟨by decide, by decide⟩
  refine own_st (X101.caload hx (j := (0 : Int32)) (v := (.int c0)) (by rw [e101]; exact Ar103.1) (State.isArrayOf_alike hZ.alike Ar103.2.1) Ar103.2.2 hi103 (H103.at hi103 rfl) (g := (mkF m 19 #[.val (.ref a1), .val (.int (0 : Int32)), .val (.int (1 : Int32)), .val (.ref b101), .val (.int (0 : Int32))] [(.int (0 : Int32)), (.ref a1), (.int (0 : Int32)), (.ref b101)])) rfl rfl (hb hby d17_19)) ?_
  show own_Go p e below s _ _ _ (T101.setTop (mkF m 20 #[.val (.ref a1), .val (.int (0 : Int32)), .val (.int (1 : Int32)), .val (.ref b101), .val (.int (0 : Int32))] [(.int c0), (.int (0 : Int32)), (.ref b101)]))
  have O104 : Old Z n0 h101 := O0.keep ((Keep.refl h0 []).trans K101 all0) all0
  obtain ⟨T105, v105, L105, h105, X105, e105, q105, st105⟩ := own_callS X101 hx hZ (y := (⟨"java/lang/StringUTF16", "putChar", "([BII)V"⟩ : MethodName)) hown (hw _ (List.mem_of_getElem? (i := 85) rfl)) (hw _ (List.mem_of_getElem? (i := 86) rfl)) (hw _ (List.mem_of_getElem? (i := 65) rfl)) (hw _ (List.mem_of_getElem? (i := 87) rfl)) (by decide) (own_bk (W := 0) (pc20 l Z a0 hw b101 _ c0 (.int (0 : Int32)) (.int (0 : Int32)) h101 n0 O104 UT (by omega) V101) hZ (hw _ (List.mem_of_getElem? (i := 87) rfl)) (hw _ (List.mem_of_getElem? (i := 65) rfl)) (by decide) (by decide)) e101 (by decide) (by decide) (g := (mkF m 20 #[.val (.ref a1), .val (.int (0 : Int32)), .val (.int (1 : Int32)), .val (.ref b101), .val (.int (0 : Int32))] [(.int c0), (.int (0 : Int32)), (.ref b101)])) rfl (by rw [hml]; rfl) (argsL := [(.ref b101), (.int (0 : Int32)), (.int c0)]) (rest := []) (lenOf pd__28_5bBII_29V rfl) rfl rfl (by show 2 * 0 + _ ≤ _; exact Nat.le_of_eq rfl) (hb hby d17_20)
  obtain ⟨rfl, N105q, K105, V105⟩ := q105
  refine own_st st105 ?_
  have zK105 := K105.1
  have N105 := Fr.app N101 N105q
  show own_Go p e below s _ _ _ (T105.setTop (mkF m 23 #[.val (.ref a1), .val (.int (0 : Int32)), .val (.int (1 : Int32)), .val (.ref b101), .val (.int (0 : Int32))] []))
  refine own_st (fun _ k => XS.iinc X105.here hx rfl (hb hby d17_23) rfl (l' := #[.val (.ref a1), .val (.int ((0 : Int32) + (1 : Int32))), .val (.int (1 : Int32)), .val (.ref b101), .val (.int (0 : Int32))]) rfl k) ?_
  show own_Go p e below s _ _ _ (T105.setTop (mkF m 26 #[.val (.ref a1), .val (.int ((0 : Int32) + (1 : Int32))), .val (.int (1 : Int32)), .val (.ref b101), .val (.int (0 : Int32))] []))
  refine own_st (fun _ k => XS.iinc X105.here hx rfl (hb hby d17_26) rfl (l' := #[.val (.ref a1), .val (.int ((0 : Int32) + (1 : Int32))), .val (.int (1 : Int32)), .val (.ref b101), .val (.int ((0 : Int32) + (1 : Int32)))]) rfl k) ?_
  show own_Go p e below s _ _ _ (T105.setTop (mkF m 29 #[.val (.ref a1), .val (.int ((0 : Int32) + (1 : Int32))), .val (.int (1 : Int32)), .val (.ref b101), .val (.int ((0 : Int32) + (1 : Int32)))] []))
  refine own_st (fun _ k => XS.goto X105.here hx rfl (pc0 := 29) (pc' := 8) rfl (hb hby d17_29) (by decide) (by decide) k) ?_
  show own_Go p e below s _ _ _ (T105.setTop (mkF m 8 #[.val (.ref a1), .val (.int ((0 : Int32) + (1 : Int32))), .val (.int (1 : Int32)), .val (.ref b101), .val (.int ((0 : Int32) + (1 : Int32)))] []))
  rw [(by decide : ((0 : Int32) + (1 : Int32)) = (1 : Int32))]
  show own_Go p e below s _ _ _ (T105.setTop (mkF m 8 #[.val (.ref a1), .val (.int (1 : Int32)), .val (.int (1 : Int32)), .val (.ref b101), .val (.int ((0 : Int32) + (1 : Int32)))] []))
  rw [(by decide : ((0 : Int32) + (1 : Int32)) = (1 : Int32))]
  show own_Go p e below s _ _ _ (T105.setTop (mkF m 8 #[.val (.ref a1), .val (.int (1 : Int32)), .val (.int (1 : Int32)), .val (.ref b101), .val (.int (1 : Int32))] []))
  refine own_st (fun _ k => XS.iload X105.here hx rfl (hb hby d17_8) rfl k) ?_
  show own_Go p e below s _ _ _ (T105.setTop (mkF m 10 #[.val (.ref a1), .val (.int (1 : Int32)), .val (.int (1 : Int32)), .val (.ref b101), .val (.int (1 : Int32))] [(.int (1 : Int32))]))
  refine own_st (fun _ k => XS.iloadN X105.here hx rfl (hb hby d17_10) rfl k) ?_
  show own_Go p e below s _ _ _ (T105.setTop (mkF m 11 #[.val (.ref a1), .val (.int (1 : Int32)), .val (.int (1 : Int32)), .val (.ref b101), .val (.int (1 : Int32))] [(.int (1 : Int32)), (.int (1 : Int32))]))
  refine own_st (fun _ k => XS.icmpYes X105.here hx rfl (pc0 := 11) (pc' := 32) rfl (hb hby d17_11) rfl (flt (by decide)).2.1 (by decide) (by decide) k) ?_
  show own_Go p e below s _ _ _ (T105.setTop (mkF m 32 #[.val (.ref a1), .val (.int (1 : Int32)), .val (.int (1 : Int32)), .val (.ref b101), .val (.int (1 : Int32))] []))
  refine own_st (fun _ k => XS.aloadN X105.here hx rfl (hb hby d17_32) rfl rfl k) ?_
  show own_Go p e below s _ _ _ (T105.setTop (mkF m 33 #[.val (.ref a1), .val (.int (1 : Int32)), .val (.int (1 : Int32)), .val (.ref b101), .val (.int (1 : Int32))] [(.ref b101)]))
  exact own_ret X105 hx hlk e105 hret rfl (Or.inr (Or.inr (Or.inr (Or.inr ⟨rfl, rfl, rfl⟩)))) (hb hby d17_33) (by decide) (by decide) ⟨N105, b101, _, rfl, (((Keep.refl h0 []).trans K101 all0).trans K105 (allS (Or.inr (by omega)) all0)), by omega, V105.lt, V105⟩
theorem ef_tb2 (m : MethodId) (x0 : Addr) (x1 : Int32) (x2 : Int32) : entryFrame m #[(.ref x0), (.int x1), (.int x2)] 5 = mkF m 0 #[.val (.ref x0), .val (.int x1), .val (.int x2), .unset, .unset] [] := by (first | (simp [entryFrame, mkF, argsToLocals, Value.category]; done) | rfl)
abbrev tb2R : Room := { frames := 2, cells := 1, slots := 4, locals := 24 }
set_option maxRecDepth 65536 in
set_option maxHeartbeats 40000000 in
theorem tb2 (l : Launch) (Z : State) (a0 : Array Value) (hw : ∀ d ∈ tables_1, d.before a0 Z = true) (a1 : Nat) (k1 : ClassId) (c0 c1 : Int32) (h0 : Heap) (n0 : Nat) (O0 : Old Z n0 h0) (UT : own_U16 Z) (V1 : Arv Z h0 a1 k1 .char 2 [.int c0, .int c1] (.int 0)) :
    own_C l Z (⟨"java/lang/StringUTF16", "toBytes", "([CII)[B"⟩ : MethodName) jdk_52_method_14_code 5 (some (.array .byte)) [] tb2R #[(.ref a1), (.int (0 : Int32)), (.int (2 : Int32))] h0 (fun v h L => Fr n0 L ∧ ∃ (b : Nat) (kb : ClassId), v = some (.ref b) ∧ Keep h0 h [] ∧ h0.size ≤ b ∧ b < h.size ∧ Arv Z h b kb .byte 4 [.int (StrChars.lo8 c0), .int (StrChars.hi8 c0), .int (StrChars.lo8 c1), .int (StrChars.hi8 c1)] (.int 0)) := by
  refine own_body (plainFor_of_name pn_java_lang_StringUTF16) ?_
  intro p e s m below meth c T0 X0 hx hby hml hZ hown hnm hret hlk e0
  have N0 := Fr.nil n0
  have zO := own_old O0
  have la1 : a1 < h0.size := V1.lt
  refine own_st (fun _ k => castTop (ef_tb2 m a1 (0 : Int32) (2 : Int32)) k) ?_
  show own_Go p e below s _ _ _ (T0.setTop (mkF m 0 #[.val (.ref a1), .val (.int (0 : Int32)), .val (.int (2 : Int32)), .unset, .unset] []))
  refine own_st (fun _ k => XS.iloadN X0.here hx rfl (hb hby d17_0) rfl k) ?_
  show own_Go p e below s _ _ _ (T0.setTop (mkF m 1 #[.val (.ref a1), .val (.int (0 : Int32)), .val (.int (2 : Int32)), .unset, .unset] [(.int (2 : Int32))]))
  obtain ⟨T101, v101, L101, h101, X101, e101, q101, st101⟩ := own_callS X0 hx hZ (y := (⟨"java/lang/StringUTF16", "newBytesFor", "(I)[B"⟩ : MethodName)) hown (hw _ (List.mem_of_getElem? (i := 78) rfl)) (hw _ (List.mem_of_getElem? (i := 79) rfl)) (hw _ (List.mem_of_getElem? (i := 65) rfl)) (hw _ (List.mem_of_getElem? (i := 80) rfl)) (by decide) (own_bk (W := 0) (nf2 l Z a0 hw h0 n0 O0) hZ (hw _ (List.mem_of_getElem? (i := 80) rfl)) (hw _ (List.mem_of_getElem? (i := 65) rfl)) (by decide) (by decide)) e0 (by decide) (by decide) (g := (mkF m 1 #[.val (.ref a1), .val (.int (0 : Int32)), .val (.int (2 : Int32)), .unset, .unset] [(.int (2 : Int32))])) rfl (by rw [hml]; rfl) (argsL := [(.int (2 : Int32))]) (rest := []) (lenOf pd__28I_29_5bB rfl) rfl rfl (by show 2 * 0 + _ ≤ _; exact Nat.le_of_eq rfl) (hb hby d17_1)
  obtain ⟨N101q, b101, k101, rfl, K101, zb101, zc101, V101⟩ := q101
  refine own_st st101 ?_
  have zK101 := K101.1
  have N101 := Fr.app N0 N101q
  show own_Go p e below s _ _ _ (T101.setTop (mkF m 4 #[.val (.ref a1), .val (.int (0 : Int32)), .val (.int (2 : Int32)), .unset, .unset] [(.ref b101)]))
  refine own_st (fun _ k => XS.astoreN X101.here hx rfl (hb hby d17_4) rfl rfl (l' := #[.val (.ref a1), .val (.int (0 : Int32)), .val (.int (2 : Int32)), .val (.ref b101), .unset]) rfl k) ?_
  show own_Go p e below s _ _ _ (T101.setTop (mkF m 5 #[.val (.ref a1), .val (.int (0 : Int32)), .val (.int (2 : Int32)), .val (.ref b101), .unset] []))
  refine own_st (fun _ k => XS.iconst X101.here hx rfl (hb hby d17_5) k) ?_
  show own_Go p e below s _ _ _ (T101.setTop (mkF m 6 #[.val (.ref a1), .val (.int (0 : Int32)), .val (.int (2 : Int32)), .val (.ref b101), .unset] [(.int (0 : Int32))]))
  refine own_st (fun _ k => XS.istore X101.here hx rfl (hb hby d17_6) rfl (l' := #[.val (.ref a1), .val (.int (0 : Int32)), .val (.int (2 : Int32)), .val (.ref b101), .val (.int (0 : Int32))]) rfl k) ?_
  show own_Go p e below s _ _ _ (T101.setTop (mkF m 8 #[.val (.ref a1), .val (.int (0 : Int32)), .val (.int (2 : Int32)), .val (.ref b101), .val (.int (0 : Int32))] []))
  refine own_st (fun _ k => XS.iload X101.here hx rfl (hb hby d17_8) rfl k) ?_
  show own_Go p e below s _ _ _ (T101.setTop (mkF m 10 #[.val (.ref a1), .val (.int (0 : Int32)), .val (.int (2 : Int32)), .val (.ref b101), .val (.int (0 : Int32))] [(.int (0 : Int32))]))
  refine own_st (fun _ k => XS.iloadN X101.here hx rfl (hb hby d17_10) rfl k) ?_
  show own_Go p e below s _ _ _ (T101.setTop (mkF m 11 #[.val (.ref a1), .val (.int (0 : Int32)), .val (.int (2 : Int32)), .val (.ref b101), .val (.int (0 : Int32))] [(.int (2 : Int32)), (.int (0 : Int32))]))
  refine own_st (fun _ k => XS.icmpNo X101.here hx rfl (hb hby d17_11) rfl (tlt (by decide)).2.1 k) ?_
  show own_Go p e below s _ _ _ (T101.setTop (mkF m 14 #[.val (.ref a1), .val (.int (0 : Int32)), .val (.int (2 : Int32)), .val (.ref b101), .val (.int (0 : Int32))] []))
  refine own_st (fun _ k => XS.aloadN X101.here hx rfl (hb hby d17_14) rfl rfl k) ?_
  show own_Go p e below s _ _ _ (T101.setTop (mkF m 15 #[.val (.ref a1), .val (.int (0 : Int32)), .val (.int (2 : Int32)), .val (.ref b101), .val (.int (0 : Int32))] [(.ref b101)]))
  refine own_st (fun _ k => XS.iload X101.here hx rfl (hb hby d17_15) rfl k) ?_
  show own_Go p e below s _ _ _ (T101.setTop (mkF m 17 #[.val (.ref a1), .val (.int (0 : Int32)), .val (.int (2 : Int32)), .val (.ref b101), .val (.int (0 : Int32))] [(.int (0 : Int32)), (.ref b101)]))
  refine own_st (fun _ k => XS.aloadN X101.here hx rfl (hb hby d17_17) rfl rfl k) ?_
  show own_Go p e below s _ _ _ (T101.setTop (mkF m 18 #[.val (.ref a1), .val (.int (0 : Int32)), .val (.int (2 : Int32)), .val (.ref b101), .val (.int (0 : Int32))] [(.ref a1), (.int (0 : Int32)), (.ref b101)]))
  refine own_st (fun _ k => XS.iloadN X101.here hx rfl (hb hby d17_18) rfl k) ?_
  show own_Go p e below s _ _ _ (T101.setTop (mkF m 19 #[.val (.ref a1), .val (.int (0 : Int32)), .val (.int (2 : Int32)), .val (.ref b101), .val (.int (0 : Int32))] [(.int (0 : Int32)), (.ref a1), (.int (0 : Int32)), (.ref b101)]))
  have f102 := (V1.keep ((Keep.refl h0 []).trans K101 all0) nin0)
  obtain ⟨c103, Ar103, q103, S103, M103, H103, U103⟩ := id f102
  have hi103 := inb_of (j := (0 : Int32)) S103 ⟨by decide, by decide⟩
  refine own_st (X101.caload hx (j := (0 : Int32)) (v := (.int c0)) (by rw [e101]; exact Ar103.1) (State.isArrayOf_alike hZ.alike Ar103.2.1) Ar103.2.2 hi103 (H103.at hi103 rfl) (g := (mkF m 19 #[.val (.ref a1), .val (.int (0 : Int32)), .val (.int (2 : Int32)), .val (.ref b101), .val (.int (0 : Int32))] [(.int (0 : Int32)), (.ref a1), (.int (0 : Int32)), (.ref b101)])) rfl rfl (hb hby d17_19)) ?_
  show own_Go p e below s _ _ _ (T101.setTop (mkF m 20 #[.val (.ref a1), .val (.int (0 : Int32)), .val (.int (2 : Int32)), .val (.ref b101), .val (.int (0 : Int32))] [(.int c0), (.int (0 : Int32)), (.ref b101)]))
  have O104 : Old Z n0 h101 := O0.keep ((Keep.refl h0 []).trans K101 all0) all0
  obtain ⟨T105, v105, L105, h105, X105, e105, q105, st105⟩ := own_callS X101 hx hZ (y := (⟨"java/lang/StringUTF16", "putChar", "([BII)V"⟩ : MethodName)) hown (hw _ (List.mem_of_getElem? (i := 85) rfl)) (hw _ (List.mem_of_getElem? (i := 86) rfl)) (hw _ (List.mem_of_getElem? (i := 65) rfl)) (hw _ (List.mem_of_getElem? (i := 87) rfl)) (by decide) (own_bk (W := 0) (pc40 l Z a0 hw b101 _ c0 (.int (0 : Int32)) (.int (0 : Int32)) (.int (0 : Int32)) (.int (0 : Int32)) h101 n0 O104 UT (by omega) V101) hZ (hw _ (List.mem_of_getElem? (i := 87) rfl)) (hw _ (List.mem_of_getElem? (i := 65) rfl)) (by decide) (by decide)) e101 (by decide) (by decide) (g := (mkF m 20 #[.val (.ref a1), .val (.int (0 : Int32)), .val (.int (2 : Int32)), .val (.ref b101), .val (.int (0 : Int32))] [(.int c0), (.int (0 : Int32)), (.ref b101)])) rfl (by rw [hml]; rfl) (argsL := [(.ref b101), (.int (0 : Int32)), (.int c0)]) (rest := []) (lenOf pd__28_5bBII_29V rfl) rfl rfl (by show 2 * 0 + _ ≤ _; exact Nat.le_of_eq rfl) (hb hby d17_20)
  obtain ⟨rfl, N105q, K105, V105⟩ := q105
  refine own_st st105 ?_
  have zK105 := K105.1
  have N105 := Fr.app N101 N105q
  show own_Go p e below s _ _ _ (T105.setTop (mkF m 23 #[.val (.ref a1), .val (.int (0 : Int32)), .val (.int (2 : Int32)), .val (.ref b101), .val (.int (0 : Int32))] []))
  refine own_st (fun _ k => XS.iinc X105.here hx rfl (hb hby d17_23) rfl (l' := #[.val (.ref a1), .val (.int ((0 : Int32) + (1 : Int32))), .val (.int (2 : Int32)), .val (.ref b101), .val (.int (0 : Int32))]) rfl k) ?_
  show own_Go p e below s _ _ _ (T105.setTop (mkF m 26 #[.val (.ref a1), .val (.int ((0 : Int32) + (1 : Int32))), .val (.int (2 : Int32)), .val (.ref b101), .val (.int (0 : Int32))] []))
  refine own_st (fun _ k => XS.iinc X105.here hx rfl (hb hby d17_26) rfl (l' := #[.val (.ref a1), .val (.int ((0 : Int32) + (1 : Int32))), .val (.int (2 : Int32)), .val (.ref b101), .val (.int ((0 : Int32) + (1 : Int32)))]) rfl k) ?_
  show own_Go p e below s _ _ _ (T105.setTop (mkF m 29 #[.val (.ref a1), .val (.int ((0 : Int32) + (1 : Int32))), .val (.int (2 : Int32)), .val (.ref b101), .val (.int ((0 : Int32) + (1 : Int32)))] []))
  refine own_st (fun _ k => XS.goto X105.here hx rfl (pc0 := 29) (pc' := 8) rfl (hb hby d17_29) (by decide) (by decide) k) ?_
  show own_Go p e below s _ _ _ (T105.setTop (mkF m 8 #[.val (.ref a1), .val (.int ((0 : Int32) + (1 : Int32))), .val (.int (2 : Int32)), .val (.ref b101), .val (.int ((0 : Int32) + (1 : Int32)))] []))
  rw [(by decide : ((0 : Int32) + (1 : Int32)) = (1 : Int32))]
  show own_Go p e below s _ _ _ (T105.setTop (mkF m 8 #[.val (.ref a1), .val (.int (1 : Int32)), .val (.int (2 : Int32)), .val (.ref b101), .val (.int ((0 : Int32) + (1 : Int32)))] []))
  rw [(by decide : ((0 : Int32) + (1 : Int32)) = (1 : Int32))]
  show own_Go p e below s _ _ _ (T105.setTop (mkF m 8 #[.val (.ref a1), .val (.int (1 : Int32)), .val (.int (2 : Int32)), .val (.ref b101), .val (.int (1 : Int32))] []))
  refine own_st (fun _ k => XS.iload X105.here hx rfl (hb hby d17_8) rfl k) ?_
  show own_Go p e below s _ _ _ (T105.setTop (mkF m 10 #[.val (.ref a1), .val (.int (1 : Int32)), .val (.int (2 : Int32)), .val (.ref b101), .val (.int (1 : Int32))] [(.int (1 : Int32))]))
  refine own_st (fun _ k => XS.iloadN X105.here hx rfl (hb hby d17_10) rfl k) ?_
  show own_Go p e below s _ _ _ (T105.setTop (mkF m 11 #[.val (.ref a1), .val (.int (1 : Int32)), .val (.int (2 : Int32)), .val (.ref b101), .val (.int (1 : Int32))] [(.int (2 : Int32)), (.int (1 : Int32))]))
  refine own_st (fun _ k => XS.icmpNo X105.here hx rfl (hb hby d17_11) rfl (tlt (by decide)).2.1 k) ?_
  show own_Go p e below s _ _ _ (T105.setTop (mkF m 14 #[.val (.ref a1), .val (.int (1 : Int32)), .val (.int (2 : Int32)), .val (.ref b101), .val (.int (1 : Int32))] []))
  refine own_st (fun _ k => XS.aloadN X105.here hx rfl (hb hby d17_14) rfl rfl k) ?_
  show own_Go p e below s _ _ _ (T105.setTop (mkF m 15 #[.val (.ref a1), .val (.int (1 : Int32)), .val (.int (2 : Int32)), .val (.ref b101), .val (.int (1 : Int32))] [(.ref b101)]))
  refine own_st (fun _ k => XS.iload X105.here hx rfl (hb hby d17_15) rfl k) ?_
  show own_Go p e below s _ _ _ (T105.setTop (mkF m 17 #[.val (.ref a1), .val (.int (1 : Int32)), .val (.int (2 : Int32)), .val (.ref b101), .val (.int (1 : Int32))] [(.int (1 : Int32)), (.ref b101)]))
  refine own_st (fun _ k => XS.aloadN X105.here hx rfl (hb hby d17_17) rfl rfl k) ?_
  show own_Go p e below s _ _ _ (T105.setTop (mkF m 18 #[.val (.ref a1), .val (.int (1 : Int32)), .val (.int (2 : Int32)), .val (.ref b101), .val (.int (1 : Int32))] [(.ref a1), (.int (1 : Int32)), (.ref b101)]))
  refine own_st (fun _ k => XS.iloadN X105.here hx rfl (hb hby d17_18) rfl k) ?_
  show own_Go p e below s _ _ _ (T105.setTop (mkF m 19 #[.val (.ref a1), .val (.int (1 : Int32)), .val (.int (2 : Int32)), .val (.ref b101), .val (.int (1 : Int32))] [(.int (1 : Int32)), (.ref a1), (.int (1 : Int32)), (.ref b101)]))
  have f106 := (f102.keep ((Keep.refl h101 [b101]).trans K105 (allS (Or.inl (by simp)) all0)) (own_ninS (by omega) nin0))
  obtain ⟨c107, Ar107, q107, S107, M107, H107, U107⟩ := id f106
  have hi107 := inb_of (j := (1 : Int32)) S107 ⟨by decide, by decide⟩
  refine own_st (X105.caload hx (j := (1 : Int32)) (v := (.int c1)) (by rw [e105]; exact Ar107.1) (State.isArrayOf_alike hZ.alike Ar107.2.1) Ar107.2.2 hi107 (H107.at hi107 rfl) (g := (mkF m 19 #[.val (.ref a1), .val (.int (1 : Int32)), .val (.int (2 : Int32)), .val (.ref b101), .val (.int (1 : Int32))] [(.int (1 : Int32)), (.ref a1), (.int (1 : Int32)), (.ref b101)])) rfl rfl (hb hby d17_19)) ?_
  show own_Go p e below s _ _ _ (T105.setTop (mkF m 20 #[.val (.ref a1), .val (.int (1 : Int32)), .val (.int (2 : Int32)), .val (.ref b101), .val (.int (1 : Int32))] [(.int c1), (.int (1 : Int32)), (.ref b101)]))
  have O108 : Old Z n0 h105 := O104.keep ((Keep.refl h101 [b101]).trans K105 (allS (Or.inl (by simp)) all0)) (allS (by omega) all0)
  obtain ⟨T109, v109, L109, h109, X109, e109, q109, st109⟩ := own_callS X105 hx hZ (y := (⟨"java/lang/StringUTF16", "putChar", "([BII)V"⟩ : MethodName)) hown (hw _ (List.mem_of_getElem? (i := 85) rfl)) (hw _ (List.mem_of_getElem? (i := 86) rfl)) (hw _ (List.mem_of_getElem? (i := 65) rfl)) (hw _ (List.mem_of_getElem? (i := 87) rfl)) (by decide) (own_bk (W := 0) (pc41 l Z a0 hw b101 _ c1 (.int (StrChars.lo8 c0)) (.int (StrChars.hi8 c0)) (.int (0 : Int32)) (.int (0 : Int32)) h105 n0 O108 UT (by omega) V105) hZ (hw _ (List.mem_of_getElem? (i := 87) rfl)) (hw _ (List.mem_of_getElem? (i := 65) rfl)) (by decide) (by decide)) e105 (by decide) (by decide) (g := (mkF m 20 #[.val (.ref a1), .val (.int (1 : Int32)), .val (.int (2 : Int32)), .val (.ref b101), .val (.int (1 : Int32))] [(.int c1), (.int (1 : Int32)), (.ref b101)])) rfl (by rw [hml]; rfl) (argsL := [(.ref b101), (.int (1 : Int32)), (.int c1)]) (rest := []) (lenOf pd__28_5bBII_29V rfl) rfl rfl (by show 2 * 0 + _ ≤ _; exact Nat.le_of_eq rfl) (hb hby d17_20)
  obtain ⟨rfl, N109q, K109, V109⟩ := q109
  refine own_st st109 ?_
  have zK109 := K109.1
  have N109 := Fr.app N105 N109q
  show own_Go p e below s _ _ _ (T109.setTop (mkF m 23 #[.val (.ref a1), .val (.int (1 : Int32)), .val (.int (2 : Int32)), .val (.ref b101), .val (.int (1 : Int32))] []))
  refine own_st (fun _ k => XS.iinc X109.here hx rfl (hb hby d17_23) rfl (l' := #[.val (.ref a1), .val (.int ((1 : Int32) + (1 : Int32))), .val (.int (2 : Int32)), .val (.ref b101), .val (.int (1 : Int32))]) rfl k) ?_
  show own_Go p e below s _ _ _ (T109.setTop (mkF m 26 #[.val (.ref a1), .val (.int ((1 : Int32) + (1 : Int32))), .val (.int (2 : Int32)), .val (.ref b101), .val (.int (1 : Int32))] []))
  refine own_st (fun _ k => XS.iinc X109.here hx rfl (hb hby d17_26) rfl (l' := #[.val (.ref a1), .val (.int ((1 : Int32) + (1 : Int32))), .val (.int (2 : Int32)), .val (.ref b101), .val (.int ((1 : Int32) + (1 : Int32)))]) rfl k) ?_
  show own_Go p e below s _ _ _ (T109.setTop (mkF m 29 #[.val (.ref a1), .val (.int ((1 : Int32) + (1 : Int32))), .val (.int (2 : Int32)), .val (.ref b101), .val (.int ((1 : Int32) + (1 : Int32)))] []))
  refine own_st (fun _ k => XS.goto X109.here hx rfl (pc0 := 29) (pc' := 8) rfl (hb hby d17_29) (by decide) (by decide) k) ?_
  show own_Go p e below s _ _ _ (T109.setTop (mkF m 8 #[.val (.ref a1), .val (.int ((1 : Int32) + (1 : Int32))), .val (.int (2 : Int32)), .val (.ref b101), .val (.int ((1 : Int32) + (1 : Int32)))] []))
  rw [(by decide : ((1 : Int32) + (1 : Int32)) = (2 : Int32))]
  show own_Go p e below s _ _ _ (T109.setTop (mkF m 8 #[.val (.ref a1), .val (.int (2 : Int32)), .val (.int (2 : Int32)), .val (.ref b101), .val (.int ((1 : Int32) + (1 : Int32)))] []))
  rw [(by decide : ((1 : Int32) + (1 : Int32)) = (2 : Int32))]
  show own_Go p e below s _ _ _ (T109.setTop (mkF m 8 #[.val (.ref a1), .val (.int (2 : Int32)), .val (.int (2 : Int32)), .val (.ref b101), .val (.int (2 : Int32))] []))
  refine own_st (fun _ k => XS.iload X109.here hx rfl (hb hby d17_8) rfl k) ?_
  show own_Go p e below s _ _ _ (T109.setTop (mkF m 10 #[.val (.ref a1), .val (.int (2 : Int32)), .val (.int (2 : Int32)), .val (.ref b101), .val (.int (2 : Int32))] [(.int (2 : Int32))]))
  refine own_st (fun _ k => XS.iloadN X109.here hx rfl (hb hby d17_10) rfl k) ?_
  show own_Go p e below s _ _ _ (T109.setTop (mkF m 11 #[.val (.ref a1), .val (.int (2 : Int32)), .val (.int (2 : Int32)), .val (.ref b101), .val (.int (2 : Int32))] [(.int (2 : Int32)), (.int (2 : Int32))]))
  refine own_st (fun _ k => XS.icmpYes X109.here hx rfl (pc0 := 11) (pc' := 32) rfl (hb hby d17_11) rfl (flt (by decide)).2.1 (by decide) (by decide) k) ?_
  show own_Go p e below s _ _ _ (T109.setTop (mkF m 32 #[.val (.ref a1), .val (.int (2 : Int32)), .val (.int (2 : Int32)), .val (.ref b101), .val (.int (2 : Int32))] []))
  refine own_st (fun _ k => XS.aloadN X109.here hx rfl (hb hby d17_32) rfl rfl k) ?_
  show own_Go p e below s _ _ _ (T109.setTop (mkF m 33 #[.val (.ref a1), .val (.int (2 : Int32)), .val (.int (2 : Int32)), .val (.ref b101), .val (.int (2 : Int32))] [(.ref b101)]))
  exact own_ret X109 hx hlk e109 hret rfl (Or.inr (Or.inr (Or.inr (Or.inr ⟨rfl, rfl, rfl⟩)))) (hb hby d17_33) (by decide) (by decide) ⟨N109, b101, _, rfl, ((((Keep.refl h0 []).trans K101 all0).trans K105 (allS (Or.inr (by omega)) all0)).trans K109 (allS (Or.inr (by omega)) all0)), by omega, V109.lt, V109⟩
theorem d21_0 : decode jdk_52_method_5_code 0 = .ok (.getstatic 44, 3) := by decide +kernel
theorem d21_3 : decode jdk_52_method_5_code 3 = .ok (.ifCond .ne 25, 3) := by decide +kernel
theorem d21_28 : decode jdk_52_method_5_code 28 = .ok (.iload_n 1, 1) := by decide +kernel
theorem d21_29 : decode jdk_52_method_5_code 29 = .ok (.iconst 1, 1) := by decide +kernel
theorem d21_30 : decode jdk_52_method_5_code 30 = .ok (.ishl, 1) := by decide +kernel
theorem d21_31 : decode jdk_52_method_5_code 31 = .ok (.istore_n 1, 1) := by decide +kernel
theorem d21_32 : decode jdk_52_method_5_code 32 = .ok (.aload_n 0, 1) := by decide +kernel
theorem d21_33 : decode jdk_52_method_5_code 33 = .ok (.iload_n 1, 1) := by decide +kernel
theorem d21_34 : decode jdk_52_method_5_code 34 = .ok (.iinc 1 1, 3) := by decide +kernel
theorem d21_37 : decode jdk_52_method_5_code 37 = .ok (.baload, 1) := by decide +kernel
theorem d21_38 : decode jdk_52_method_5_code 38 = .ok (.sipush 255, 3) := by decide +kernel
theorem d21_41 : decode jdk_52_method_5_code 41 = .ok (.iand, 1) := by decide +kernel
theorem d21_42 : decode jdk_52_method_5_code 42 = .ok (.getstatic 59, 3) := by decide +kernel
theorem d21_45 : decode jdk_52_method_5_code 45 = .ok (.ishl, 1) := by decide +kernel
theorem d21_46 : decode jdk_52_method_5_code 46 = .ok (.aload_n 0, 1) := by decide +kernel
theorem d21_47 : decode jdk_52_method_5_code 47 = .ok (.iload_n 1, 1) := by decide +kernel
theorem d21_48 : decode jdk_52_method_5_code 48 = .ok (.baload, 1) := by decide +kernel
theorem d21_49 : decode jdk_52_method_5_code 49 = .ok (.sipush 255, 3) := by decide +kernel
theorem d21_52 : decode jdk_52_method_5_code 52 = .ok (.iand, 1) := by decide +kernel
theorem d21_53 : decode jdk_52_method_5_code 53 = .ok (.getstatic 63, 3) := by decide +kernel
theorem d21_56 : decode jdk_52_method_5_code 56 = .ok (.ishl, 1) := by decide +kernel
theorem d21_57 : decode jdk_52_method_5_code 57 = .ok (.ior, 1) := by decide +kernel
theorem d21_58 : decode jdk_52_method_5_code 58 = .ok (.i2c, 1) := by decide +kernel
theorem d21_59 : decode jdk_52_method_5_code 59 = .ok (.ireturn, 1) := by decide +kernel
theorem ef_gc16 (m : MethodId) (x0 : Addr) (x1 : Int32) : entryFrame m #[(.ref x0), (.int x1)] 2 = mkF m 0 #[.val (.ref x0), .val (.int x1)] [] := by (first | (simp [entryFrame, mkF, argsToLocals, Value.category]; done) | rfl)
abbrev gc16R : Room := { frames := 0, cells := 0, slots := 0, locals := 0 }
set_option maxRecDepth 65536 in
set_option maxHeartbeats 40000000 in
theorem gc16 (l : Launch) (Z : State) (a0 : Array Value) (hw : ∀ d ∈ tables_1, d.before a0 Z = true) (a1 : Nat) (k1 : ClassId) (cs : List Int32) (i : Nat) (h0 : Heap) (n0 : Nat) (O0 : Old Z n0 h0) (UT : own_U16 Z) (hi : i < cs.length) (hk : cs.length ≤ 2) (hbd : ∀ c ∈ cs, ¬ c < 0 ∧ ¬ (65535 : Int32) < c) (V1 : Arv Z h0 a1 k1 .byte (Int32.ofNat (2 * cs.length)) (StrChars.Road.wideBytes cs) (.int 0)) :
    own_C l Z (⟨"java/lang/StringUTF16", "getChar", "([BI)C"⟩ : MethodName) jdk_52_method_5_code 2 (some .char) [] gc16R #[(.ref a1), (.int (Int32.ofNat i))] h0 (fun v h L => v = some (.int (cs.getD i 0)) ∧ Fr n0 L ∧ h = h0) := by
  refine own_body (plainFor_of_name pn_java_lang_StringUTF16) ?_
  intro p e s m below meth c T0 X0 hx hby hml hZ hown hnm hret hlk e0
  have N0 := Fr.nil n0
  have zO := own_old O0
  obtain ⟨Ua, Uh, Ul⟩ := id UT
  refine own_st (fun _ k => castTop (ef_gc16 m a1 (Int32.ofNat i)) k) ?_
  show own_Go p e below s _ _ _ (T0.setTop (mkF m 0 #[.val (.ref a1), .val (.int (Int32.ofNat i))] []))
  obtain ⟨T101, X101, e101, st101⟩ := getS2 X0 hx hZ hown (host := "") (Or.inl (hw _ (List.mem_of_getElem? (i := 88) rfl))) Via.refl e0 (Ua.ext O0.2) (g := (mkF m 0 #[.val (.ref a1), .val (.int (Int32.ofNat i))] [])) rfl (hb hby d21_0)
  refine own_st st101 ?_
  show own_Go p e below s _ _ _ (T101.setTop (mkF m 3 #[.val (.ref a1), .val (.int (Int32.ofNat i))] [(.int (1 : Int32))]))
  refine own_st (fun _ k => XS.ifYes X101.here hx rfl (pc0 := 3) (pc' := 28) rfl (hb hby d21_3) rfl ((if0 _ _).trans (feq (by decide)).2) (by decide) (by decide) k) ?_
  show own_Go p e below s _ _ _ (T101.setTop (mkF m 28 #[.val (.ref a1), .val (.int (Int32.ofNat i))] []))
  refine own_st (fun _ k => XS.iloadN X101.here hx rfl (hb hby d21_28) rfl k) ?_
  show own_Go p e below s _ _ _ (T101.setTop (mkF m 29 #[.val (.ref a1), .val (.int (Int32.ofNat i))] [(.int (Int32.ofNat i))]))
  refine own_st (fun _ k => XS.iconst X101.here hx rfl (hb hby d21_29) k) ?_
  show own_Go p e below s _ _ _ (T101.setTop (mkF m 30 #[.val (.ref a1), .val (.int (Int32.ofNat i))] [(.int (1 : Int32)), (.int (Int32.ofNat i))]))
  refine own_st (fun _ k => XS.ishl X101.here hx rfl (hb hby d21_30) rfl k) ?_
  show own_Go p e below s _ _ _ (T101.setTop (mkF m 31 #[.val (.ref a1), .val (.int (Int32.ofNat i))] [(.int ((Int32.ofNat i) <<< ((1 : Int32) &&& 31)))]))
  rw [own_shl1 (by omega)]
  show own_Go p e below s _ _ _ (T101.setTop (mkF m 31 #[.val (.ref a1), .val (.int (Int32.ofNat i))] [(.int (Int32.ofNat (2 * i)))]))
  refine own_st (fun _ k => XS.istoreN X101.here hx rfl (hb hby d21_31) rfl (l' := #[.val (.ref a1), .val (.int (Int32.ofNat (2 * i)))]) rfl k) ?_
  show own_Go p e below s _ _ _ (T101.setTop (mkF m 32 #[.val (.ref a1), .val (.int (Int32.ofNat (2 * i)))] []))
  refine own_st (fun _ k => XS.aloadN X101.here hx rfl (hb hby d21_32) rfl rfl k) ?_
  show own_Go p e below s _ _ _ (T101.setTop (mkF m 33 #[.val (.ref a1), .val (.int (Int32.ofNat (2 * i)))] [(.ref a1)]))
  refine own_st (fun _ k => XS.iloadN X101.here hx rfl (hb hby d21_33) rfl k) ?_
  show own_Go p e below s _ _ _ (T101.setTop (mkF m 34 #[.val (.ref a1), .val (.int (Int32.ofNat (2 * i)))] [(.int (Int32.ofNat (2 * i))), (.ref a1)]))
  refine own_st (fun _ k => XS.iinc X101.here hx rfl (hb hby d21_34) rfl (l' := #[.val (.ref a1), .val (.int ((Int32.ofNat (2 * i)) + (1 : Int32)))]) rfl k) ?_
  show own_Go p e below s _ _ _ (T101.setTop (mkF m 37 #[.val (.ref a1), .val (.int ((Int32.ofNat (2 * i)) + (1 : Int32)))] [(.int (Int32.ofNat (2 * i))), (.ref a1)]))
  rw [show Int32.ofNat (2 * i) + (1 : Int32) = Int32.ofNat (2 * i + 1) from own_nadd (b := 1) (by omega)]
  show own_Go p e below s _ _ _ (T101.setTop (mkF m 37 #[.val (.ref a1), .val (.int (Int32.ofNat (2 * i + 1)))] [(.int (Int32.ofNat (2 * i))), (.ref a1)]))
  obtain ⟨c102, Ar102, q102, S102, M102, H102, U102⟩ := id V1
  have hi102 := inb_of (j := (Int32.ofNat (2 * i))) S102 ⟨own_nn (by omega), (own_nlt (by omega) (by omega)).mpr (by omega)⟩
  refine own_st (X101.baloadBytes hx (j := (Int32.ofNat (2 * i))) (v := (.int (StrChars.lo8 (cs.getD i 0)))) (by rw [e101]; exact Ar102.1) (State.isArrayOf_alike hZ.alike Ar102.2.1) Ar102.2.2 hi102 (H102.at hi102 (by rw [own_tcn (by omega)]; exact StrChars.Road.wide_lo _ cs i hi)) (g := (mkF m 37 #[.val (.ref a1), .val (.int (Int32.ofNat (2 * i + 1)))] [(.int (Int32.ofNat (2 * i))), (.ref a1)])) rfl rfl (hb hby d21_37)) ?_
  show own_Go p e below s _ _ _ (T101.setTop (mkF m 38 #[.val (.ref a1), .val (.int (Int32.ofNat (2 * i + 1)))] [(.int (StrChars.lo8 (cs.getD i 0)))]))
  refine own_st (fun _ k => XS.sipush X101.here hx rfl (hb hby d21_38) k) ?_
  show own_Go p e below s _ _ _ (T101.setTop (mkF m 41 #[.val (.ref a1), .val (.int (Int32.ofNat (2 * i + 1)))] [(.int (255 : Int32)), (.int (StrChars.lo8 (cs.getD i 0)))]))
  refine own_st (fun _ k => XS.iand X101.here hx rfl (hb hby d21_41) rfl k) ?_
  show own_Go p e below s _ _ _ (T101.setTop (mkF m 42 #[.val (.ref a1), .val (.int (Int32.ofNat (2 * i + 1)))] [(.int ((StrChars.lo8 (cs.getD i 0)) &&& (255 : Int32)))]))
  obtain ⟨T103, X103, e103, st103⟩ := getS2 X101 hx hZ hown (host := "") (Or.inl (hw _ (List.mem_of_getElem? (i := 89) rfl))) Via.refl e101 (Uh.ext O0.2) (g := (mkF m 42 #[.val (.ref a1), .val (.int (Int32.ofNat (2 * i + 1)))] [(.int ((StrChars.lo8 (cs.getD i 0)) &&& (255 : Int32)))])) rfl (hb hby d21_42)
  refine own_st st103 ?_
  show own_Go p e below s _ _ _ (T103.setTop (mkF m 45 #[.val (.ref a1), .val (.int (Int32.ofNat (2 * i + 1)))] [(.int (0 : Int32)), (.int ((StrChars.lo8 (cs.getD i 0)) &&& (255 : Int32)))]))
  refine own_st (fun _ k => XS.ishl X103.here hx rfl (hb hby d21_45) rfl k) ?_
  show own_Go p e below s _ _ _ (T103.setTop (mkF m 46 #[.val (.ref a1), .val (.int (Int32.ofNat (2 * i + 1)))] [(.int (((StrChars.lo8 (cs.getD i 0)) &&& (255 : Int32)) <<< ((0 : Int32) &&& 31)))]))
  refine own_st (fun _ k => XS.aloadN X103.here hx rfl (hb hby d21_46) rfl rfl k) ?_
  show own_Go p e below s _ _ _ (T103.setTop (mkF m 47 #[.val (.ref a1), .val (.int (Int32.ofNat (2 * i + 1)))] [(.ref a1), (.int (((StrChars.lo8 (cs.getD i 0)) &&& (255 : Int32)) <<< ((0 : Int32) &&& 31)))]))
  refine own_st (fun _ k => XS.iloadN X103.here hx rfl (hb hby d21_47) rfl k) ?_
  show own_Go p e below s _ _ _ (T103.setTop (mkF m 48 #[.val (.ref a1), .val (.int (Int32.ofNat (2 * i + 1)))] [(.int (Int32.ofNat (2 * i + 1))), (.ref a1), (.int (((StrChars.lo8 (cs.getD i 0)) &&& (255 : Int32)) <<< ((0 : Int32) &&& 31)))]))
  obtain ⟨c104, Ar104, q104, S104, M104, H104, U104⟩ := id V1
  have hi104 := inb_of (j := (Int32.ofNat (2 * i + 1))) S104 ⟨own_nn (by omega), (own_nlt (by omega) (by omega)).mpr (by omega)⟩
  refine own_st (X103.baloadBytes hx (j := (Int32.ofNat (2 * i + 1))) (v := (.int (StrChars.hi8 (cs.getD i 0)))) (by rw [e103]; exact Ar104.1) (State.isArrayOf_alike hZ.alike Ar104.2.1) Ar104.2.2 hi104 (H104.at hi104 (by rw [own_tcn (by omega)]; exact StrChars.Road.wide_hi _ cs i hi)) (g := (mkF m 48 #[.val (.ref a1), .val (.int (Int32.ofNat (2 * i + 1)))] [(.int (Int32.ofNat (2 * i + 1))), (.ref a1), (.int (((StrChars.lo8 (cs.getD i 0)) &&& (255 : Int32)) <<< ((0 : Int32) &&& 31)))])) rfl rfl (hb hby d21_48)) ?_
  show own_Go p e below s _ _ _ (T103.setTop (mkF m 49 #[.val (.ref a1), .val (.int (Int32.ofNat (2 * i + 1)))] [(.int (StrChars.hi8 (cs.getD i 0))), (.int (((StrChars.lo8 (cs.getD i 0)) &&& (255 : Int32)) <<< ((0 : Int32) &&& 31)))]))
  refine own_st (fun _ k => XS.sipush X103.here hx rfl (hb hby d21_49) k) ?_
  show own_Go p e below s _ _ _ (T103.setTop (mkF m 52 #[.val (.ref a1), .val (.int (Int32.ofNat (2 * i + 1)))] [(.int (255 : Int32)), (.int (StrChars.hi8 (cs.getD i 0))), (.int (((StrChars.lo8 (cs.getD i 0)) &&& (255 : Int32)) <<< ((0 : Int32) &&& 31)))]))
  refine own_st (fun _ k => XS.iand X103.here hx rfl (hb hby d21_52) rfl k) ?_
  show own_Go p e below s _ _ _ (T103.setTop (mkF m 53 #[.val (.ref a1), .val (.int (Int32.ofNat (2 * i + 1)))] [(.int ((StrChars.hi8 (cs.getD i 0)) &&& (255 : Int32))), (.int (((StrChars.lo8 (cs.getD i 0)) &&& (255 : Int32)) <<< ((0 : Int32) &&& 31)))]))
  obtain ⟨T105, X105, e105, st105⟩ := getS2 X103 hx hZ hown (host := "") (Or.inl (hw _ (List.mem_of_getElem? (i := 90) rfl))) Via.refl e103 (Ul.ext O0.2) (g := (mkF m 53 #[.val (.ref a1), .val (.int (Int32.ofNat (2 * i + 1)))] [(.int ((StrChars.hi8 (cs.getD i 0)) &&& (255 : Int32))), (.int (((StrChars.lo8 (cs.getD i 0)) &&& (255 : Int32)) <<< ((0 : Int32) &&& 31)))])) rfl (hb hby d21_53)
  refine own_st st105 ?_
  show own_Go p e below s _ _ _ (T105.setTop (mkF m 56 #[.val (.ref a1), .val (.int (Int32.ofNat (2 * i + 1)))] [(.int (8 : Int32)), (.int ((StrChars.hi8 (cs.getD i 0)) &&& (255 : Int32))), (.int (((StrChars.lo8 (cs.getD i 0)) &&& (255 : Int32)) <<< ((0 : Int32) &&& 31)))]))
  refine own_st (fun _ k => XS.ishl X105.here hx rfl (hb hby d21_56) rfl k) ?_
  show own_Go p e below s _ _ _ (T105.setTop (mkF m 57 #[.val (.ref a1), .val (.int (Int32.ofNat (2 * i + 1)))] [(.int (((StrChars.hi8 (cs.getD i 0)) &&& (255 : Int32)) <<< ((8 : Int32) &&& 31))), (.int (((StrChars.lo8 (cs.getD i 0)) &&& (255 : Int32)) <<< ((0 : Int32) &&& 31)))]))
  refine own_st (fun _ k => XS.ior X105.here hx rfl (hb hby d21_57) rfl k) ?_
  show own_Go p e below s _ _ _ (T105.setTop (mkF m 58 #[.val (.ref a1), .val (.int (Int32.ofNat (2 * i + 1)))] [(.int ((((StrChars.lo8 (cs.getD i 0)) &&& (255 : Int32)) <<< ((0 : Int32) &&& 31)) ||| (((StrChars.hi8 (cs.getD i 0)) &&& (255 : Int32)) <<< ((8 : Int32) &&& 31))))]))
  refine own_st (fun _ k => XS.i2c X105.here hx rfl (hb hby d21_58) rfl k) ?_
  show own_Go p e below s _ _ _ (T105.setTop (mkF m 59 #[.val (.ref a1), .val (.int (Int32.ofNat (2 * i + 1)))] [(.int (((((StrChars.lo8 (cs.getD i 0)) &&& (255 : Int32)) <<< ((0 : Int32) &&& 31)) ||| (((StrChars.hi8 (cs.getD i 0)) &&& (255 : Int32)) <<< ((8 : Int32) &&& 31))).toUInt32.toUInt16.toUInt32.toInt32))]))
  rw [show (((((StrChars.lo8 (cs.getD i 0)) &&& (255 : Int32)) <<< ((0 : Int32) &&& 31)) ||| (((StrChars.hi8 (cs.getD i 0)) &&& (255 : Int32)) <<< ((8 : Int32) &&& 31))).toUInt32.toUInt16.toUInt32.toInt32) = cs.getD i 0 from StrChars.pair_says (own_gin hbd hi).1 (own_gin hbd hi).2]
  show own_Go p e below s _ _ _ (T105.setTop (mkF m 59 #[.val (.ref a1), .val (.int (Int32.ofNat (2 * i + 1)))] [(.int (cs.getD i 0))]))
  exact own_ret X105 hx hlk e105 hret (own_rc16 (own_gin hbd hi)) (Or.inl ⟨rfl, Or.inr (Or.inr (Or.inr (Or.inl rfl))), _, rfl⟩) (hb hby d21_59) (by decide) (by decide) ⟨rfl, N0, rfl⟩
theorem d15_0 : decode jdk_52_method_21_code 0 = .ok (.iconst 0, 1) := by decide +kernel
theorem d15_1 : decode jdk_52_method_21_code 1 = .ok (.istore 5, 2) := by decide +kernel
theorem d15_3 : decode jdk_52_method_21_code 3 = .ok (.iload 5, 2) := by decide +kernel
theorem d15_5 : decode jdk_52_method_21_code 5 = .ok (.iload 4, 2) := by decide +kernel
theorem d15_7 : decode jdk_52_method_21_code 7 = .ok (.if_icmp .ge 37, 3) := by decide +kernel
theorem d15_10 : decode jdk_52_method_21_code 10 = .ok (.aload_n 0, 1) := by decide +kernel
theorem d15_11 : decode jdk_52_method_21_code 11 = .ok (.iload_n 1, 1) := by decide +kernel
theorem d15_12 : decode jdk_52_method_21_code 12 = .ok (.caload, 1) := by decide +kernel
theorem d15_13 : decode jdk_52_method_21_code 13 = .ok (.istore 6, 2) := by decide +kernel
theorem d15_15 : decode jdk_52_method_21_code 15 = .ok (.iload 6, 2) := by decide +kernel
theorem d15_17 : decode jdk_52_method_21_code 17 = .ok (.sipush 255, 3) := by decide +kernel
theorem d15_20 : decode jdk_52_method_21_code 20 = .ok (.if_icmp .le 6, 3) := by decide +kernel
theorem d15_23 : decode jdk_52_method_21_code 23 = .ok (.iload 5, 2) := by decide +kernel
theorem d15_25 : decode jdk_52_method_21_code 25 = .ok (.ireturn, 1) := by decide +kernel
theorem ef_cm10 (m : MethodId) (x0 : Addr) (x1 : Int32) (x2 : Addr) (x3 : Int32) (x4 : Int32) : entryFrame m #[(.ref x0), (.int x1), (.ref x2), (.int x3), (.int x4)] 7 = mkF m 0 #[.val (.ref x0), .val (.int x1), .val (.ref x2), .val (.int x3), .val (.int x4), .unset, .unset] [] := by (first | (simp [entryFrame, mkF, argsToLocals, Value.category]; done) | rfl)
abbrev cm10R : Room := { frames := 0, cells := 0, slots := 0, locals := 0 }
set_option maxRecDepth 65536 in
set_option maxHeartbeats 40000000 in
theorem cm10 (l : Launch) (Z : State) (a0 : Array Value) (hw : ∀ d ∈ tables_1, d.before a0 Z = true) (a1 a2 : Nat) (k1 k2 : ClassId) (c0 : Int32) (h0 : Heap) (n0 : Nat) (O0 : Old Z n0 h0) (hc0 : ¬ c0 < 0 ∧ ¬ (65535 : Int32) < c0)  (hw0 : (255 : Int32) < c0) (V1 : Arv Z h0 a1 k1 .char 1 [.int c0] (.int 0)) (g2 : n0 ≤ a2) (V2 : Arv Z h0 a2 k2 .byte 1 [(.int (0 : Int32))] (.int 0)) (h12 : a1 ≠ a2) :
    own_C l Z (⟨"java/lang/StringUTF16", "compress", "([CI[BII)I"⟩ : MethodName) jdk_52_method_21_code 7 (some .int) [] cm10R #[(.ref a1), (.int (0 : Int32)), (.ref a2), (.int (0 : Int32)), (.int (1 : Int32))] h0 (fun v h L => v = some (.int 0) ∧ Fr n0 L ∧ Keep h0 h [a2]) := by
  refine own_body (plainFor_of_name pn_java_lang_StringUTF16) ?_
  intro p e s m below meth c T0 X0 hx hby hml hZ hown hnm hret hlk e0
  have N0 := Fr.nil n0
  have zO := own_old O0
  refine own_st (fun _ k => castTop (ef_cm10 m a1 (0 : Int32) a2 (0 : Int32) (1 : Int32)) k) ?_
  show own_Go p e below s _ _ _ (T0.setTop (mkF m 0 #[.val (.ref a1), .val (.int (0 : Int32)), .val (.ref a2), .val (.int (0 : Int32)), .val (.int (1 : Int32)), .unset, .unset] []))
  refine own_st (fun _ k => XS.iconst X0.here hx rfl (hb hby d15_0) k) ?_
  show own_Go p e below s _ _ _ (T0.setTop (mkF m 1 #[.val (.ref a1), .val (.int (0 : Int32)), .val (.ref a2), .val (.int (0 : Int32)), .val (.int (1 : Int32)), .unset, .unset] [(.int (0 : Int32))]))
  refine own_st (fun _ k => XS.istore X0.here hx rfl (hb hby d15_1) rfl (l' := #[.val (.ref a1), .val (.int (0 : Int32)), .val (.ref a2), .val (.int (0 : Int32)), .val (.int (1 : Int32)), .val (.int (0 : Int32)), .unset]) rfl k) ?_
  show own_Go p e below s _ _ _ (T0.setTop (mkF m 3 #[.val (.ref a1), .val (.int (0 : Int32)), .val (.ref a2), .val (.int (0 : Int32)), .val (.int (1 : Int32)), .val (.int (0 : Int32)), .unset] []))
  refine own_st (fun _ k => XS.iload X0.here hx rfl (hb hby d15_3) rfl k) ?_
  show own_Go p e below s _ _ _ (T0.setTop (mkF m 5 #[.val (.ref a1), .val (.int (0 : Int32)), .val (.ref a2), .val (.int (0 : Int32)), .val (.int (1 : Int32)), .val (.int (0 : Int32)), .unset] [(.int (0 : Int32))]))
  refine own_st (fun _ k => XS.iload X0.here hx rfl (hb hby d15_5) rfl k) ?_
  show own_Go p e below s _ _ _ (T0.setTop (mkF m 7 #[.val (.ref a1), .val (.int (0 : Int32)), .val (.ref a2), .val (.int (0 : Int32)), .val (.int (1 : Int32)), .val (.int (0 : Int32)), .unset] [(.int (1 : Int32)), (.int (0 : Int32))]))
  refine own_st (fun _ k => XS.icmpNo X0.here hx rfl (hb hby d15_7) rfl (tlt (by decide)).2.1 k) ?_
  show own_Go p e below s _ _ _ (T0.setTop (mkF m 10 #[.val (.ref a1), .val (.int (0 : Int32)), .val (.ref a2), .val (.int (0 : Int32)), .val (.int (1 : Int32)), .val (.int (0 : Int32)), .unset] []))
  refine own_st (fun _ k => XS.aloadN X0.here hx rfl (hb hby d15_10) rfl rfl k) ?_
  show own_Go p e below s _ _ _ (T0.setTop (mkF m 11 #[.val (.ref a1), .val (.int (0 : Int32)), .val (.ref a2), .val (.int (0 : Int32)), .val (.int (1 : Int32)), .val (.int (0 : Int32)), .unset] [(.ref a1)]))
  refine own_st (fun _ k => XS.iloadN X0.here hx rfl (hb hby d15_11) rfl k) ?_
  show own_Go p e below s _ _ _ (T0.setTop (mkF m 12 #[.val (.ref a1), .val (.int (0 : Int32)), .val (.ref a2), .val (.int (0 : Int32)), .val (.int (1 : Int32)), .val (.int (0 : Int32)), .unset] [(.int (0 : Int32)), (.ref a1)]))
  obtain ⟨c101, Ar101, q101, S101, M101, H101, U101⟩ := id V1
  have hi101 := inb_of (j := (0 : Int32)) S101 ⟨by decide, by decide⟩
  refine own_st (X0.caload hx (j := (0 : Int32)) (v := (.int c0)) (by rw [e0]; exact Ar101.1) (State.isArrayOf_alike hZ.alike Ar101.2.1) Ar101.2.2 hi101 (H101.at hi101 rfl) (g := (mkF m 12 #[.val (.ref a1), .val (.int (0 : Int32)), .val (.ref a2), .val (.int (0 : Int32)), .val (.int (1 : Int32)), .val (.int (0 : Int32)), .unset] [(.int (0 : Int32)), (.ref a1)])) rfl rfl (hb hby d15_12)) ?_
  show own_Go p e below s _ _ _ (T0.setTop (mkF m 13 #[.val (.ref a1), .val (.int (0 : Int32)), .val (.ref a2), .val (.int (0 : Int32)), .val (.int (1 : Int32)), .val (.int (0 : Int32)), .unset] [(.int c0)]))
  refine own_st (fun _ k => XS.istore X0.here hx rfl (hb hby d15_13) rfl (l' := #[.val (.ref a1), .val (.int (0 : Int32)), .val (.ref a2), .val (.int (0 : Int32)), .val (.int (1 : Int32)), .val (.int (0 : Int32)), .val (.int c0)]) rfl k) ?_
  show own_Go p e below s _ _ _ (T0.setTop (mkF m 15 #[.val (.ref a1), .val (.int (0 : Int32)), .val (.ref a2), .val (.int (0 : Int32)), .val (.int (1 : Int32)), .val (.int (0 : Int32)), .val (.int c0)] []))
  refine own_st (fun _ k => XS.iload X0.here hx rfl (hb hby d15_15) rfl k) ?_
  show own_Go p e below s _ _ _ (T0.setTop (mkF m 17 #[.val (.ref a1), .val (.int (0 : Int32)), .val (.ref a2), .val (.int (0 : Int32)), .val (.int (1 : Int32)), .val (.int (0 : Int32)), .val (.int c0)] [(.int c0)]))
  refine own_st (fun _ k => XS.sipush X0.here hx rfl (hb hby d15_17) k) ?_
  show own_Go p e below s _ _ _ (T0.setTop (mkF m 20 #[.val (.ref a1), .val (.int (0 : Int32)), .val (.ref a2), .val (.int (0 : Int32)), .val (.int (1 : Int32)), .val (.int (0 : Int32)), .val (.int c0)] [(.int (255 : Int32)), (.int c0)]))
  refine own_st (fun _ k => XS.icmpNo X0.here hx rfl (hb hby d15_20) rfl (tlt hw0).2.2.2 k) ?_
  show own_Go p e below s _ _ _ (T0.setTop (mkF m 23 #[.val (.ref a1), .val (.int (0 : Int32)), .val (.ref a2), .val (.int (0 : Int32)), .val (.int (1 : Int32)), .val (.int (0 : Int32)), .val (.int c0)] []))
  refine own_st (fun _ k => XS.iload X0.here hx rfl (hb hby d15_23) rfl k) ?_
  show own_Go p e below s _ _ _ (T0.setTop (mkF m 25 #[.val (.ref a1), .val (.int (0 : Int32)), .val (.ref a2), .val (.int (0 : Int32)), .val (.int (1 : Int32)), .val (.int (0 : Int32)), .val (.int c0)] [(.int (0 : Int32))]))
  exact own_ret X0 hx hlk e0 hret rfl (Or.inl ⟨rfl, Or.inl rfl, _, rfl⟩) (hb hby d15_25) (by decide) (by decide) ⟨rfl, N0, (Keep.refl h0 [a2])⟩
theorem ef_cm20 (m : MethodId) (x0 : Addr) (x1 : Int32) (x2 : Addr) (x3 : Int32) (x4 : Int32) : entryFrame m #[(.ref x0), (.int x1), (.ref x2), (.int x3), (.int x4)] 7 = mkF m 0 #[.val (.ref x0), .val (.int x1), .val (.ref x2), .val (.int x3), .val (.int x4), .unset, .unset] [] := by (first | (simp [entryFrame, mkF, argsToLocals, Value.category]; done) | rfl)
abbrev cm20R : Room := { frames := 0, cells := 0, slots := 0, locals := 0 }
set_option maxRecDepth 65536 in
set_option maxHeartbeats 40000000 in
theorem cm20 (l : Launch) (Z : State) (a0 : Array Value) (hw : ∀ d ∈ tables_1, d.before a0 Z = true) (a1 a2 : Nat) (k1 k2 : ClassId) (c0 c1 : Int32) (h0 : Heap) (n0 : Nat) (O0 : Old Z n0 h0) (hc0 : ¬ c0 < 0 ∧ ¬ (65535 : Int32) < c0) (hc1 : ¬ c1 < 0 ∧ ¬ (65535 : Int32) < c1)  (hw0 : (255 : Int32) < c0) (V1 : Arv Z h0 a1 k1 .char 2 [.int c0, .int c1] (.int 0)) (g2 : n0 ≤ a2) (V2 : Arv Z h0 a2 k2 .byte 2 [(.int (0 : Int32)), (.int (0 : Int32))] (.int 0)) (h12 : a1 ≠ a2) :
    own_C l Z (⟨"java/lang/StringUTF16", "compress", "([CI[BII)I"⟩ : MethodName) jdk_52_method_21_code 7 (some .int) [] cm20R #[(.ref a1), (.int (0 : Int32)), (.ref a2), (.int (0 : Int32)), (.int (2 : Int32))] h0 (fun v h L => v = some (.int 0) ∧ Fr n0 L ∧ Keep h0 h [a2]) := by
  refine own_body (plainFor_of_name pn_java_lang_StringUTF16) ?_
  intro p e s m below meth c T0 X0 hx hby hml hZ hown hnm hret hlk e0
  have N0 := Fr.nil n0
  have zO := own_old O0
  refine own_st (fun _ k => castTop (ef_cm20 m a1 (0 : Int32) a2 (0 : Int32) (2 : Int32)) k) ?_
  show own_Go p e below s _ _ _ (T0.setTop (mkF m 0 #[.val (.ref a1), .val (.int (0 : Int32)), .val (.ref a2), .val (.int (0 : Int32)), .val (.int (2 : Int32)), .unset, .unset] []))
  refine own_st (fun _ k => XS.iconst X0.here hx rfl (hb hby d15_0) k) ?_
  show own_Go p e below s _ _ _ (T0.setTop (mkF m 1 #[.val (.ref a1), .val (.int (0 : Int32)), .val (.ref a2), .val (.int (0 : Int32)), .val (.int (2 : Int32)), .unset, .unset] [(.int (0 : Int32))]))
  refine own_st (fun _ k => XS.istore X0.here hx rfl (hb hby d15_1) rfl (l' := #[.val (.ref a1), .val (.int (0 : Int32)), .val (.ref a2), .val (.int (0 : Int32)), .val (.int (2 : Int32)), .val (.int (0 : Int32)), .unset]) rfl k) ?_
  show own_Go p e below s _ _ _ (T0.setTop (mkF m 3 #[.val (.ref a1), .val (.int (0 : Int32)), .val (.ref a2), .val (.int (0 : Int32)), .val (.int (2 : Int32)), .val (.int (0 : Int32)), .unset] []))
  refine own_st (fun _ k => XS.iload X0.here hx rfl (hb hby d15_3) rfl k) ?_
  show own_Go p e below s _ _ _ (T0.setTop (mkF m 5 #[.val (.ref a1), .val (.int (0 : Int32)), .val (.ref a2), .val (.int (0 : Int32)), .val (.int (2 : Int32)), .val (.int (0 : Int32)), .unset] [(.int (0 : Int32))]))
  refine own_st (fun _ k => XS.iload X0.here hx rfl (hb hby d15_5) rfl k) ?_
  show own_Go p e below s _ _ _ (T0.setTop (mkF m 7 #[.val (.ref a1), .val (.int (0 : Int32)), .val (.ref a2), .val (.int (0 : Int32)), .val (.int (2 : Int32)), .val (.int (0 : Int32)), .unset] [(.int (2 : Int32)), (.int (0 : Int32))]))
  refine own_st (fun _ k => XS.icmpNo X0.here hx rfl (hb hby d15_7) rfl (tlt (by decide)).2.1 k) ?_
  show own_Go p e below s _ _ _ (T0.setTop (mkF m 10 #[.val (.ref a1), .val (.int (0 : Int32)), .val (.ref a2), .val (.int (0 : Int32)), .val (.int (2 : Int32)), .val (.int (0 : Int32)), .unset] []))
  refine own_st (fun _ k => XS.aloadN X0.here hx rfl (hb hby d15_10) rfl rfl k) ?_
  show own_Go p e below s _ _ _ (T0.setTop (mkF m 11 #[.val (.ref a1), .val (.int (0 : Int32)), .val (.ref a2), .val (.int (0 : Int32)), .val (.int (2 : Int32)), .val (.int (0 : Int32)), .unset] [(.ref a1)]))
  refine own_st (fun _ k => XS.iloadN X0.here hx rfl (hb hby d15_11) rfl k) ?_
  show own_Go p e below s _ _ _ (T0.setTop (mkF m 12 #[.val (.ref a1), .val (.int (0 : Int32)), .val (.ref a2), .val (.int (0 : Int32)), .val (.int (2 : Int32)), .val (.int (0 : Int32)), .unset] [(.int (0 : Int32)), (.ref a1)]))
  obtain ⟨c101, Ar101, q101, S101, M101, H101, U101⟩ := id V1
  have hi101 := inb_of (j := (0 : Int32)) S101 ⟨by decide, by decide⟩
  refine own_st (X0.caload hx (j := (0 : Int32)) (v := (.int c0)) (by rw [e0]; exact Ar101.1) (State.isArrayOf_alike hZ.alike Ar101.2.1) Ar101.2.2 hi101 (H101.at hi101 rfl) (g := (mkF m 12 #[.val (.ref a1), .val (.int (0 : Int32)), .val (.ref a2), .val (.int (0 : Int32)), .val (.int (2 : Int32)), .val (.int (0 : Int32)), .unset] [(.int (0 : Int32)), (.ref a1)])) rfl rfl (hb hby d15_12)) ?_
  show own_Go p e below s _ _ _ (T0.setTop (mkF m 13 #[.val (.ref a1), .val (.int (0 : Int32)), .val (.ref a2), .val (.int (0 : Int32)), .val (.int (2 : Int32)), .val (.int (0 : Int32)), .unset] [(.int c0)]))
  refine own_st (fun _ k => XS.istore X0.here hx rfl (hb hby d15_13) rfl (l' := #[.val (.ref a1), .val (.int (0 : Int32)), .val (.ref a2), .val (.int (0 : Int32)), .val (.int (2 : Int32)), .val (.int (0 : Int32)), .val (.int c0)]) rfl k) ?_
  show own_Go p e below s _ _ _ (T0.setTop (mkF m 15 #[.val (.ref a1), .val (.int (0 : Int32)), .val (.ref a2), .val (.int (0 : Int32)), .val (.int (2 : Int32)), .val (.int (0 : Int32)), .val (.int c0)] []))
  refine own_st (fun _ k => XS.iload X0.here hx rfl (hb hby d15_15) rfl k) ?_
  show own_Go p e below s _ _ _ (T0.setTop (mkF m 17 #[.val (.ref a1), .val (.int (0 : Int32)), .val (.ref a2), .val (.int (0 : Int32)), .val (.int (2 : Int32)), .val (.int (0 : Int32)), .val (.int c0)] [(.int c0)]))
  refine own_st (fun _ k => XS.sipush X0.here hx rfl (hb hby d15_17) k) ?_
  show own_Go p e below s _ _ _ (T0.setTop (mkF m 20 #[.val (.ref a1), .val (.int (0 : Int32)), .val (.ref a2), .val (.int (0 : Int32)), .val (.int (2 : Int32)), .val (.int (0 : Int32)), .val (.int c0)] [(.int (255 : Int32)), (.int c0)]))
  refine own_st (fun _ k => XS.icmpNo X0.here hx rfl (hb hby d15_20) rfl (tlt hw0).2.2.2 k) ?_
  show own_Go p e below s _ _ _ (T0.setTop (mkF m 23 #[.val (.ref a1), .val (.int (0 : Int32)), .val (.ref a2), .val (.int (0 : Int32)), .val (.int (2 : Int32)), .val (.int (0 : Int32)), .val (.int c0)] []))
  refine own_st (fun _ k => XS.iload X0.here hx rfl (hb hby d15_23) rfl k) ?_
  show own_Go p e below s _ _ _ (T0.setTop (mkF m 25 #[.val (.ref a1), .val (.int (0 : Int32)), .val (.ref a2), .val (.int (0 : Int32)), .val (.int (2 : Int32)), .val (.int (0 : Int32)), .val (.int c0)] [(.int (0 : Int32))]))
  exact own_ret X0 hx hlk e0 hret rfl (Or.inl ⟨rfl, Or.inl rfl, _, rfl⟩) (hb hby d15_25) (by decide) (by decide) ⟨rfl, N0, (Keep.refl h0 [a2])⟩
theorem d15_26 : decode jdk_52_method_21_code 26 = .ok (.aload_n 2, 1) := by decide +kernel
theorem d15_27 : decode jdk_52_method_21_code 27 = .ok (.iload_n 3, 1) := by decide +kernel
theorem d15_28 : decode jdk_52_method_21_code 28 = .ok (.iload 6, 2) := by decide +kernel
theorem d15_30 : decode jdk_52_method_21_code 30 = .ok (.i2b, 1) := by decide +kernel
theorem d15_31 : decode jdk_52_method_21_code 31 = .ok (.bastore, 1) := by decide +kernel
theorem d15_32 : decode jdk_52_method_21_code 32 = .ok (.iinc 1 1, 3) := by decide +kernel
theorem d15_35 : decode jdk_52_method_21_code 35 = .ok (.iinc 3 1, 3) := by decide +kernel
theorem d15_38 : decode jdk_52_method_21_code 38 = .ok (.iinc 5 1, 3) := by decide +kernel
theorem d15_41 : decode jdk_52_method_21_code 41 = .ok (.goto (-38), 3) := by decide +kernel
theorem ef_cm21 (m : MethodId) (x0 : Addr) (x1 : Int32) (x2 : Addr) (x3 : Int32) (x4 : Int32) : entryFrame m #[(.ref x0), (.int x1), (.ref x2), (.int x3), (.int x4)] 7 = mkF m 0 #[.val (.ref x0), .val (.int x1), .val (.ref x2), .val (.int x3), .val (.int x4), .unset, .unset] [] := by (first | (simp [entryFrame, mkF, argsToLocals, Value.category]; done) | rfl)
abbrev cm21R : Room := { frames := 0, cells := 0, slots := 0, locals := 0 }
set_option maxRecDepth 65536 in
set_option maxHeartbeats 40000000 in
theorem cm21 (l : Launch) (Z : State) (a0 : Array Value) (hw : ∀ d ∈ tables_1, d.before a0 Z = true) (a1 a2 : Nat) (k1 k2 : ClassId) (c0 c1 : Int32) (h0 : Heap) (n0 : Nat) (O0 : Old Z n0 h0) (hc0 : ¬ c0 < 0 ∧ ¬ (65535 : Int32) < c0) (hc1 : ¬ c1 < 0 ∧ ¬ (65535 : Int32) < c1) (hn0 : ¬ (255 : Int32) < c0) (hw1 : (255 : Int32) < c1) (V1 : Arv Z h0 a1 k1 .char 2 [.int c0, .int c1] (.int 0)) (g2 : n0 ≤ a2) (V2 : Arv Z h0 a2 k2 .byte 2 [(.int (0 : Int32)), (.int (0 : Int32))] (.int 0)) (h12 : a1 ≠ a2) :
    own_C l Z (⟨"java/lang/StringUTF16", "compress", "([CI[BII)I"⟩ : MethodName) jdk_52_method_21_code 7 (some .int) [] cm21R #[(.ref a1), (.int (0 : Int32)), (.ref a2), (.int (0 : Int32)), (.int (2 : Int32))] h0 (fun v h L => v = some (.int 1) ∧ Fr n0 L ∧ Keep h0 h [a2]) := by
  refine own_body (plainFor_of_name pn_java_lang_StringUTF16) ?_
  intro p e s m below meth c T0 X0 hx hby hml hZ hown hnm hret hlk e0
  have N0 := Fr.nil n0
  have zO := own_old O0
  refine own_st (fun _ k => castTop (ef_cm21 m a1 (0 : Int32) a2 (0 : Int32) (2 : Int32)) k) ?_
  show own_Go p e below s _ _ _ (T0.setTop (mkF m 0 #[.val (.ref a1), .val (.int (0 : Int32)), .val (.ref a2), .val (.int (0 : Int32)), .val (.int (2 : Int32)), .unset, .unset] []))
  refine own_st (fun _ k => XS.iconst X0.here hx rfl (hb hby d15_0) k) ?_
  show own_Go p e below s _ _ _ (T0.setTop (mkF m 1 #[.val (.ref a1), .val (.int (0 : Int32)), .val (.ref a2), .val (.int (0 : Int32)), .val (.int (2 : Int32)), .unset, .unset] [(.int (0 : Int32))]))
  refine own_st (fun _ k => XS.istore X0.here hx rfl (hb hby d15_1) rfl (l' := #[.val (.ref a1), .val (.int (0 : Int32)), .val (.ref a2), .val (.int (0 : Int32)), .val (.int (2 : Int32)), .val (.int (0 : Int32)), .unset]) rfl k) ?_
  show own_Go p e below s _ _ _ (T0.setTop (mkF m 3 #[.val (.ref a1), .val (.int (0 : Int32)), .val (.ref a2), .val (.int (0 : Int32)), .val (.int (2 : Int32)), .val (.int (0 : Int32)), .unset] []))
  refine own_st (fun _ k => XS.iload X0.here hx rfl (hb hby d15_3) rfl k) ?_
  show own_Go p e below s _ _ _ (T0.setTop (mkF m 5 #[.val (.ref a1), .val (.int (0 : Int32)), .val (.ref a2), .val (.int (0 : Int32)), .val (.int (2 : Int32)), .val (.int (0 : Int32)), .unset] [(.int (0 : Int32))]))
  refine own_st (fun _ k => XS.iload X0.here hx rfl (hb hby d15_5) rfl k) ?_
  show own_Go p e below s _ _ _ (T0.setTop (mkF m 7 #[.val (.ref a1), .val (.int (0 : Int32)), .val (.ref a2), .val (.int (0 : Int32)), .val (.int (2 : Int32)), .val (.int (0 : Int32)), .unset] [(.int (2 : Int32)), (.int (0 : Int32))]))
  refine own_st (fun _ k => XS.icmpNo X0.here hx rfl (hb hby d15_7) rfl (tlt (by decide)).2.1 k) ?_
  show own_Go p e below s _ _ _ (T0.setTop (mkF m 10 #[.val (.ref a1), .val (.int (0 : Int32)), .val (.ref a2), .val (.int (0 : Int32)), .val (.int (2 : Int32)), .val (.int (0 : Int32)), .unset] []))
  refine own_st (fun _ k => XS.aloadN X0.here hx rfl (hb hby d15_10) rfl rfl k) ?_
  show own_Go p e below s _ _ _ (T0.setTop (mkF m 11 #[.val (.ref a1), .val (.int (0 : Int32)), .val (.ref a2), .val (.int (0 : Int32)), .val (.int (2 : Int32)), .val (.int (0 : Int32)), .unset] [(.ref a1)]))
  refine own_st (fun _ k => XS.iloadN X0.here hx rfl (hb hby d15_11) rfl k) ?_
  show own_Go p e below s _ _ _ (T0.setTop (mkF m 12 #[.val (.ref a1), .val (.int (0 : Int32)), .val (.ref a2), .val (.int (0 : Int32)), .val (.int (2 : Int32)), .val (.int (0 : Int32)), .unset] [(.int (0 : Int32)), (.ref a1)]))
  obtain ⟨c101, Ar101, q101, S101, M101, H101, U101⟩ := id V1
  have hi101 := inb_of (j := (0 : Int32)) S101 ⟨by decide, by decide⟩
  refine own_st (X0.caload hx (j := (0 : Int32)) (v := (.int c0)) (by rw [e0]; exact Ar101.1) (State.isArrayOf_alike hZ.alike Ar101.2.1) Ar101.2.2 hi101 (H101.at hi101 rfl) (g := (mkF m 12 #[.val (.ref a1), .val (.int (0 : Int32)), .val (.ref a2), .val (.int (0 : Int32)), .val (.int (2 : Int32)), .val (.int (0 : Int32)), .unset] [(.int (0 : Int32)), (.ref a1)])) rfl rfl (hb hby d15_12)) ?_
  show own_Go p e below s _ _ _ (T0.setTop (mkF m 13 #[.val (.ref a1), .val (.int (0 : Int32)), .val (.ref a2), .val (.int (0 : Int32)), .val (.int (2 : Int32)), .val (.int (0 : Int32)), .unset] [(.int c0)]))
  refine own_st (fun _ k => XS.istore X0.here hx rfl (hb hby d15_13) rfl (l' := #[.val (.ref a1), .val (.int (0 : Int32)), .val (.ref a2), .val (.int (0 : Int32)), .val (.int (2 : Int32)), .val (.int (0 : Int32)), .val (.int c0)]) rfl k) ?_
  show own_Go p e below s _ _ _ (T0.setTop (mkF m 15 #[.val (.ref a1), .val (.int (0 : Int32)), .val (.ref a2), .val (.int (0 : Int32)), .val (.int (2 : Int32)), .val (.int (0 : Int32)), .val (.int c0)] []))
  refine own_st (fun _ k => XS.iload X0.here hx rfl (hb hby d15_15) rfl k) ?_
  show own_Go p e below s _ _ _ (T0.setTop (mkF m 17 #[.val (.ref a1), .val (.int (0 : Int32)), .val (.ref a2), .val (.int (0 : Int32)), .val (.int (2 : Int32)), .val (.int (0 : Int32)), .val (.int c0)] [(.int c0)]))
  refine own_st (fun _ k => XS.sipush X0.here hx rfl (hb hby d15_17) k) ?_
  show own_Go p e below s _ _ _ (T0.setTop (mkF m 20 #[.val (.ref a1), .val (.int (0 : Int32)), .val (.ref a2), .val (.int (0 : Int32)), .val (.int (2 : Int32)), .val (.int (0 : Int32)), .val (.int c0)] [(.int (255 : Int32)), (.int c0)]))
  refine own_st (fun _ k => XS.icmpYes X0.here hx rfl (pc0 := 20) (pc' := 26) rfl (hb hby d15_20) rfl (flt hn0).2.2.2 (by decide) (by decide) k) ?_
  show own_Go p e below s _ _ _ (T0.setTop (mkF m 26 #[.val (.ref a1), .val (.int (0 : Int32)), .val (.ref a2), .val (.int (0 : Int32)), .val (.int (2 : Int32)), .val (.int (0 : Int32)), .val (.int c0)] []))
  refine own_st (fun _ k => XS.aloadN X0.here hx rfl (hb hby d15_26) rfl rfl k) ?_
  show own_Go p e below s _ _ _ (T0.setTop (mkF m 27 #[.val (.ref a1), .val (.int (0 : Int32)), .val (.ref a2), .val (.int (0 : Int32)), .val (.int (2 : Int32)), .val (.int (0 : Int32)), .val (.int c0)] [(.ref a2)]))
  refine own_st (fun _ k => XS.iloadN X0.here hx rfl (hb hby d15_27) rfl k) ?_
  show own_Go p e below s _ _ _ (T0.setTop (mkF m 28 #[.val (.ref a1), .val (.int (0 : Int32)), .val (.ref a2), .val (.int (0 : Int32)), .val (.int (2 : Int32)), .val (.int (0 : Int32)), .val (.int c0)] [(.int (0 : Int32)), (.ref a2)]))
  refine own_st (fun _ k => XS.iload X0.here hx rfl (hb hby d15_28) rfl k) ?_
  show own_Go p e below s _ _ _ (T0.setTop (mkF m 30 #[.val (.ref a1), .val (.int (0 : Int32)), .val (.ref a2), .val (.int (0 : Int32)), .val (.int (2 : Int32)), .val (.int (0 : Int32)), .val (.int c0)] [(.int c0), (.int (0 : Int32)), (.ref a2)]))
  refine own_st (fun _ k => XS.i2b X0.here hx rfl (hb hby d15_30) rfl k) ?_
  show own_Go p e below s _ _ _ (T0.setTop (mkF m 31 #[.val (.ref a1), .val (.int (0 : Int32)), .val (.ref a2), .val (.int (0 : Int32)), .val (.int (2 : Int32)), .val (.int (0 : Int32)), .val (.int c0)] [(.int (c0.toInt8.toInt32)), (.int (0 : Int32)), (.ref a2)]))
  obtain ⟨c102, Ar102, q102, S102, M102, H102, U102⟩ := V2
  obtain ⟨T102, h102, X102, e102, W102, st102⟩ := stB X0 hx hZ e0 Ar102 (j := (0 : Int32)) (inb_of S102 ⟨by decide, by decide⟩) (g := (mkF m 31 #[.val (.ref a1), .val (.int (0 : Int32)), .val (.ref a2), .val (.int (0 : Int32)), .val (.int (2 : Int32)), .val (.int (0 : Int32)), .val (.int c0)] [(.int (c0.toInt8.toInt32)), (.int (0 : Int32)), (.ref a2)])) rfl rfl (hb hby d15_31)
  have V102 := Arv.set Ar102 q102 S102 M102 H102 U102 (fits_nar_byte _) W102 0 rfl (Nat.le_of_ble_eq_true rfl)
  have K102 := Keep.of_wr W102
  have N102 := Fr.snoc X102 N0 (by omega : n0 ≤ a2)
  refine own_st st102 ?_
  have zK102 := K102.1
  show own_Go p e below s _ _ _ (T102.setTop (mkF m 32 #[.val (.ref a1), .val (.int (0 : Int32)), .val (.ref a2), .val (.int (0 : Int32)), .val (.int (2 : Int32)), .val (.int (0 : Int32)), .val (.int c0)] []))
  refine own_st (fun _ k => XS.iinc X102.here hx rfl (hb hby d15_32) rfl (l' := #[.val (.ref a1), .val (.int ((0 : Int32) + (1 : Int32))), .val (.ref a2), .val (.int (0 : Int32)), .val (.int (2 : Int32)), .val (.int (0 : Int32)), .val (.int c0)]) rfl k) ?_
  show own_Go p e below s _ _ _ (T102.setTop (mkF m 35 #[.val (.ref a1), .val (.int ((0 : Int32) + (1 : Int32))), .val (.ref a2), .val (.int (0 : Int32)), .val (.int (2 : Int32)), .val (.int (0 : Int32)), .val (.int c0)] []))
  refine own_st (fun _ k => XS.iinc X102.here hx rfl (hb hby d15_35) rfl (l' := #[.val (.ref a1), .val (.int ((0 : Int32) + (1 : Int32))), .val (.ref a2), .val (.int ((0 : Int32) + (1 : Int32))), .val (.int (2 : Int32)), .val (.int (0 : Int32)), .val (.int c0)]) rfl k) ?_
  show own_Go p e below s _ _ _ (T102.setTop (mkF m 38 #[.val (.ref a1), .val (.int ((0 : Int32) + (1 : Int32))), .val (.ref a2), .val (.int ((0 : Int32) + (1 : Int32))), .val (.int (2 : Int32)), .val (.int (0 : Int32)), .val (.int c0)] []))
  refine own_st (fun _ k => XS.iinc X102.here hx rfl (hb hby d15_38) rfl (l' := #[.val (.ref a1), .val (.int ((0 : Int32) + (1 : Int32))), .val (.ref a2), .val (.int ((0 : Int32) + (1 : Int32))), .val (.int (2 : Int32)), .val (.int ((0 : Int32) + (1 : Int32))), .val (.int c0)]) rfl k) ?_
  show own_Go p e below s _ _ _ (T102.setTop (mkF m 41 #[.val (.ref a1), .val (.int ((0 : Int32) + (1 : Int32))), .val (.ref a2), .val (.int ((0 : Int32) + (1 : Int32))), .val (.int (2 : Int32)), .val (.int ((0 : Int32) + (1 : Int32))), .val (.int c0)] []))
  refine own_st (fun _ k => XS.goto X102.here hx rfl (pc0 := 41) (pc' := 3) rfl (hb hby d15_41) (by decide) (by decide) k) ?_
  show own_Go p e below s _ _ _ (T102.setTop (mkF m 3 #[.val (.ref a1), .val (.int ((0 : Int32) + (1 : Int32))), .val (.ref a2), .val (.int ((0 : Int32) + (1 : Int32))), .val (.int (2 : Int32)), .val (.int ((0 : Int32) + (1 : Int32))), .val (.int c0)] []))
  rw [(by decide : ((0 : Int32) + (1 : Int32)) = (1 : Int32))]
  show own_Go p e below s _ _ _ (T102.setTop (mkF m 3 #[.val (.ref a1), .val (.int (1 : Int32)), .val (.ref a2), .val (.int ((0 : Int32) + (1 : Int32))), .val (.int (2 : Int32)), .val (.int ((0 : Int32) + (1 : Int32))), .val (.int c0)] []))
  rw [(by decide : ((0 : Int32) + (1 : Int32)) = (1 : Int32))]
  show own_Go p e below s _ _ _ (T102.setTop (mkF m 3 #[.val (.ref a1), .val (.int (1 : Int32)), .val (.ref a2), .val (.int (1 : Int32)), .val (.int (2 : Int32)), .val (.int ((0 : Int32) + (1 : Int32))), .val (.int c0)] []))
  rw [(by decide : ((0 : Int32) + (1 : Int32)) = (1 : Int32))]
  show own_Go p e below s _ _ _ (T102.setTop (mkF m 3 #[.val (.ref a1), .val (.int (1 : Int32)), .val (.ref a2), .val (.int (1 : Int32)), .val (.int (2 : Int32)), .val (.int (1 : Int32)), .val (.int c0)] []))
  refine own_st (fun _ k => XS.iload X102.here hx rfl (hb hby d15_3) rfl k) ?_
  show own_Go p e below s _ _ _ (T102.setTop (mkF m 5 #[.val (.ref a1), .val (.int (1 : Int32)), .val (.ref a2), .val (.int (1 : Int32)), .val (.int (2 : Int32)), .val (.int (1 : Int32)), .val (.int c0)] [(.int (1 : Int32))]))
  refine own_st (fun _ k => XS.iload X102.here hx rfl (hb hby d15_5) rfl k) ?_
  show own_Go p e below s _ _ _ (T102.setTop (mkF m 7 #[.val (.ref a1), .val (.int (1 : Int32)), .val (.ref a2), .val (.int (1 : Int32)), .val (.int (2 : Int32)), .val (.int (1 : Int32)), .val (.int c0)] [(.int (2 : Int32)), (.int (1 : Int32))]))
  refine own_st (fun _ k => XS.icmpNo X102.here hx rfl (hb hby d15_7) rfl (tlt (by decide)).2.1 k) ?_
  show own_Go p e below s _ _ _ (T102.setTop (mkF m 10 #[.val (.ref a1), .val (.int (1 : Int32)), .val (.ref a2), .val (.int (1 : Int32)), .val (.int (2 : Int32)), .val (.int (1 : Int32)), .val (.int c0)] []))
  refine own_st (fun _ k => XS.aloadN X102.here hx rfl (hb hby d15_10) rfl rfl k) ?_
  show own_Go p e below s _ _ _ (T102.setTop (mkF m 11 #[.val (.ref a1), .val (.int (1 : Int32)), .val (.ref a2), .val (.int (1 : Int32)), .val (.int (2 : Int32)), .val (.int (1 : Int32)), .val (.int c0)] [(.ref a1)]))
  refine own_st (fun _ k => XS.iloadN X102.here hx rfl (hb hby d15_11) rfl k) ?_
  show own_Go p e below s _ _ _ (T102.setTop (mkF m 12 #[.val (.ref a1), .val (.int (1 : Int32)), .val (.ref a2), .val (.int (1 : Int32)), .val (.int (2 : Int32)), .val (.int (1 : Int32)), .val (.int c0)] [(.int (1 : Int32)), (.ref a1)]))
  have f103 := (V1.keep ((Keep.refl h0 [a2]).trans K102 (allS (Or.inl (by simp)) all0)) (own_ninS (by omega) nin0))
  obtain ⟨c104, Ar104, q104, S104, M104, H104, U104⟩ := id f103
  have hi104 := inb_of (j := (1 : Int32)) S104 ⟨by decide, by decide⟩
  refine own_st (X102.caload hx (j := (1 : Int32)) (v := (.int c1)) (by rw [e102]; exact Ar104.1) (State.isArrayOf_alike hZ.alike Ar104.2.1) Ar104.2.2 hi104 (H104.at hi104 rfl) (g := (mkF m 12 #[.val (.ref a1), .val (.int (1 : Int32)), .val (.ref a2), .val (.int (1 : Int32)), .val (.int (2 : Int32)), .val (.int (1 : Int32)), .val (.int c0)] [(.int (1 : Int32)), (.ref a1)])) rfl rfl (hb hby d15_12)) ?_
  show own_Go p e below s _ _ _ (T102.setTop (mkF m 13 #[.val (.ref a1), .val (.int (1 : Int32)), .val (.ref a2), .val (.int (1 : Int32)), .val (.int (2 : Int32)), .val (.int (1 : Int32)), .val (.int c0)] [(.int c1)]))
  refine own_st (fun _ k => XS.istore X102.here hx rfl (hb hby d15_13) rfl (l' := #[.val (.ref a1), .val (.int (1 : Int32)), .val (.ref a2), .val (.int (1 : Int32)), .val (.int (2 : Int32)), .val (.int (1 : Int32)), .val (.int c1)]) rfl k) ?_
  show own_Go p e below s _ _ _ (T102.setTop (mkF m 15 #[.val (.ref a1), .val (.int (1 : Int32)), .val (.ref a2), .val (.int (1 : Int32)), .val (.int (2 : Int32)), .val (.int (1 : Int32)), .val (.int c1)] []))
  refine own_st (fun _ k => XS.iload X102.here hx rfl (hb hby d15_15) rfl k) ?_
  show own_Go p e below s _ _ _ (T102.setTop (mkF m 17 #[.val (.ref a1), .val (.int (1 : Int32)), .val (.ref a2), .val (.int (1 : Int32)), .val (.int (2 : Int32)), .val (.int (1 : Int32)), .val (.int c1)] [(.int c1)]))
  refine own_st (fun _ k => XS.sipush X102.here hx rfl (hb hby d15_17) k) ?_
  show own_Go p e below s _ _ _ (T102.setTop (mkF m 20 #[.val (.ref a1), .val (.int (1 : Int32)), .val (.ref a2), .val (.int (1 : Int32)), .val (.int (2 : Int32)), .val (.int (1 : Int32)), .val (.int c1)] [(.int (255 : Int32)), (.int c1)]))
  refine own_st (fun _ k => XS.icmpNo X102.here hx rfl (hb hby d15_20) rfl (tlt hw1).2.2.2 k) ?_
  show own_Go p e below s _ _ _ (T102.setTop (mkF m 23 #[.val (.ref a1), .val (.int (1 : Int32)), .val (.ref a2), .val (.int (1 : Int32)), .val (.int (2 : Int32)), .val (.int (1 : Int32)), .val (.int c1)] []))
  refine own_st (fun _ k => XS.iload X102.here hx rfl (hb hby d15_23) rfl k) ?_
  show own_Go p e below s _ _ _ (T102.setTop (mkF m 25 #[.val (.ref a1), .val (.int (1 : Int32)), .val (.ref a2), .val (.int (1 : Int32)), .val (.int (2 : Int32)), .val (.int (1 : Int32)), .val (.int c1)] [(.int (1 : Int32))]))
  exact own_ret X102 hx hlk e102 hret rfl (Or.inl ⟨rfl, Or.inl rfl, _, rfl⟩) (hb hby d15_25) (by decide) (by decide) ⟨rfl, N102, ((Keep.refl h0 [a2]).trans K102 (allS (Or.inl (by simp)) all0))⟩
theorem d14_0 : decode jdk_52_method_16_code 0 = .ok (.iload_n 2, 1) := by decide +kernel
theorem d14_1 : decode jdk_52_method_16_code 1 = .ok (.newarray .byte, 2) := by decide +kernel
theorem d14_3 : decode jdk_52_method_16_code 3 = .ok (.astore_n 3, 1) := by decide +kernel
theorem d14_4 : decode jdk_52_method_16_code 4 = .ok (.aload_n 0, 1) := by decide +kernel
theorem d14_5 : decode jdk_52_method_16_code 5 = .ok (.iload_n 1, 1) := by decide +kernel
theorem d14_6 : decode jdk_52_method_16_code 6 = .ok (.aload_n 3, 1) := by decide +kernel
theorem d14_7 : decode jdk_52_method_16_code 7 = .ok (.iconst 0, 1) := by decide +kernel
theorem d14_8 : decode jdk_52_method_16_code 8 = .ok (.iload_n 2, 1) := by decide +kernel
theorem pd__28_5bCI_5bBII_29I : parseMethodDescriptor "([CI[BII)I" = some ⟨[(.array .char), .int, (.array .byte), .int, .int], some .int⟩ := by decide +kernel
theorem d14_9 : decode jdk_52_method_16_code 9 = .ok (.invokestatic 115, 3) := by decide +kernel
theorem d14_12 : decode jdk_52_method_16_code 12 = .ok (.istore 4, 2) := by decide +kernel
theorem d14_14 : decode jdk_52_method_16_code 14 = .ok (.iload 4, 2) := by decide +kernel
theorem d14_16 : decode jdk_52_method_16_code 16 = .ok (.iload_n 2, 1) := by decide +kernel
theorem d14_17 : decode jdk_52_method_16_code 17 = .ok (.if_icmp .eq 40, 3) := by decide +kernel
theorem d14_20 : decode jdk_52_method_16_code 20 = .ok (.aload_n 0, 1) := by decide +kernel
theorem d14_21 : decode jdk_52_method_16_code 21 = .ok (.iload_n 1, 1) := by decide +kernel
theorem d14_22 : decode jdk_52_method_16_code 22 = .ok (.iload_n 2, 1) := by decide +kernel
theorem pd__28_5bCII_29_5bB : parseMethodDescriptor "([CII)[B" = some ⟨[(.array .char), .int, .int], some (.array .byte)⟩ := by decide +kernel
theorem d14_23 : decode jdk_52_method_16_code 23 = .ok (.invokestatic 119, 3) := by decide +kernel
theorem d14_26 : decode jdk_52_method_16_code 26 = .ok (.astore 5, 2) := by decide +kernel
theorem d14_28 : decode jdk_52_method_16_code 28 = .ok (.aload 5, 2) := by decide +kernel
theorem d14_30 : decode jdk_52_method_16_code 30 = .ok (.iload 4, 2) := by decide +kernel
theorem pd__28_5bBI_29C : parseMethodDescriptor "([BI)C" = some ⟨[(.array .byte), .int], some .char⟩ := by decide +kernel
theorem d14_32 : decode jdk_52_method_16_code 32 = .ok (.invokestatic 71, 3) := by decide +kernel
theorem d14_35 : decode jdk_52_method_16_code 35 = .ok (.sipush 255, 3) := by decide +kernel
theorem d14_38 : decode jdk_52_method_16_code 38 = .ok (.if_icmp .gt 16, 3) := by decide +kernel
theorem d14_54 : decode jdk_52_method_16_code 54 = .ok (.aload 5, 2) := by decide +kernel
theorem d14_56 : decode jdk_52_method_16_code 56 = .ok (.areturn, 1) := by decide +kernel
theorem ef_ct10 (m : MethodId) (x0 : Addr) (x1 : Int32) (x2 : Int32) : entryFrame m #[(.ref x0), (.int x1), (.int x2)] 6 = mkF m 0 #[.val (.ref x0), .val (.int x1), .val (.int x2), .unset, .unset, .unset] [] := by (first | (simp [entryFrame, mkF, argsToLocals, Value.category]; done) | rfl)
abbrev ct10R : Room := { frames := 3, cells := 2, slots := 3, locals := 40 }
set_option maxRecDepth 65536 in
set_option maxHeartbeats 40000000 in
theorem ct10 (l : Launch) (Z : State) (a0 : Array Value) (hw : ∀ d ∈ tables_1, d.before a0 Z = true) (a1 : Nat) (k1 : ClassId) (c0 : Int32) (h0 : Heap) (n0 : Nat) (O0 : Old Z n0 h0) (UT : own_U16 Z) (hc0 : ¬ c0 < 0 ∧ ¬ (65535 : Int32) < c0)  (hw0 : (255 : Int32) < c0) (V1 : Arv Z h0 a1 k1 .char 1 [.int c0] (.int 0)) :
    own_C l Z (⟨"java/lang/StringUTF16", "compress", "([CII)[B"⟩ : MethodName) jdk_52_method_16_code 6 (some (.array .byte)) [] ct10R #[(.ref a1), (.int (0 : Int32)), (.int (1 : Int32))] h0 (fun v h L => Fr n0 L ∧ ∃ (b : Nat) (kb : ClassId), v = some (.ref b) ∧ Keep h0 h [] ∧ h0.size ≤ b ∧ b < h.size ∧ Arv Z h b kb .byte 2 (StrChars.Road.wideBytes [c0]) (.int 0)) := by
  refine own_body (plainFor_of_name pn_java_lang_StringUTF16) ?_
  intro p e s m below meth c T0 X0 hx hby hml hZ hown hnm hret hlk e0
  have N0 := Fr.nil n0
  have zO := own_old O0
  have la1 : a1 < h0.size := V1.lt
  refine own_st (fun _ k => castTop (ef_ct10 m a1 (0 : Int32) (1 : Int32)) k) ?_
  show own_Go p e below s _ _ _ (T0.setTop (mkF m 0 #[.val (.ref a1), .val (.int (0 : Int32)), .val (.int (1 : Int32)), .unset, .unset, .unset] []))
  refine own_st (fun _ k => XS.iloadN X0.here hx rfl (hb hby d14_0) rfl k) ?_
  show own_Go p e below s _ _ _ (T0.setTop (mkF m 1 #[.val (.ref a1), .val (.int (0 : Int32)), .val (.int (1 : Int32)), .unset, .unset, .unset] [(.int (1 : Int32))]))
  obtain ⟨T101, h101, k101, X101, e101, E101, A101, st101⟩ := newP X0 hx hZ (hw _ (List.mem_of_getElem? (i := 23) rfl)) e0 (g := (mkF m 1 #[.val (.ref a1), .val (.int (0 : Int32)), .val (.int (1 : Int32)), .unset, .unset, .unset] [(.int (1 : Int32))])) rfl (hb hby d14_1) rfl (by decide) (cap := 1) (by decide) (by decide) (by decide) (by decide)
  obtain ⟨b101, g101⟩ : ∃ z, z = h0.size := ⟨_, rfl⟩
  rw [← g101] at A101 st101
  have K101 : Keep h0 h101 [] := (Keep.refl _ _).ext E101
  have l101 : b101 < h101.size := A101.lt
  refine own_st st101 ?_
  have zK101 := K101.1
  have V101 : Arv Z h101 b101 k101 .byte (1 : Int32) [(.int (0 : Int32))] (.int (0 : Int32)) := (Arv.new A101 (by decide)).pad (pad_rep [] (.int (0 : Int32)) 1)
  show own_Go p e below s _ _ _ (T101.setTop (mkF m 3 #[.val (.ref a1), .val (.int (0 : Int32)), .val (.int (1 : Int32)), .unset, .unset, .unset] [(.ref b101)]))
  refine own_st (fun _ k => XS.astoreN X101.here hx rfl (hb hby d14_3) rfl rfl (l' := #[.val (.ref a1), .val (.int (0 : Int32)), .val (.int (1 : Int32)), .val (.ref b101), .unset, .unset]) rfl k) ?_
  show own_Go p e below s _ _ _ (T101.setTop (mkF m 4 #[.val (.ref a1), .val (.int (0 : Int32)), .val (.int (1 : Int32)), .val (.ref b101), .unset, .unset] []))
  refine own_st (fun _ k => XS.aloadN X101.here hx rfl (hb hby d14_4) rfl rfl k) ?_
  show own_Go p e below s _ _ _ (T101.setTop (mkF m 5 #[.val (.ref a1), .val (.int (0 : Int32)), .val (.int (1 : Int32)), .val (.ref b101), .unset, .unset] [(.ref a1)]))
  refine own_st (fun _ k => XS.iloadN X101.here hx rfl (hb hby d14_5) rfl k) ?_
  show own_Go p e below s _ _ _ (T101.setTop (mkF m 6 #[.val (.ref a1), .val (.int (0 : Int32)), .val (.int (1 : Int32)), .val (.ref b101), .unset, .unset] [(.int (0 : Int32)), (.ref a1)]))
  refine own_st (fun _ k => XS.aloadN X101.here hx rfl (hb hby d14_6) rfl rfl k) ?_
  show own_Go p e below s _ _ _ (T101.setTop (mkF m 7 #[.val (.ref a1), .val (.int (0 : Int32)), .val (.int (1 : Int32)), .val (.ref b101), .unset, .unset] [(.ref b101), (.int (0 : Int32)), (.ref a1)]))
  refine own_st (fun _ k => XS.iconst X101.here hx rfl (hb hby d14_7) k) ?_
  show own_Go p e below s _ _ _ (T101.setTop (mkF m 8 #[.val (.ref a1), .val (.int (0 : Int32)), .val (.int (1 : Int32)), .val (.ref b101), .unset, .unset] [(.int (0 : Int32)), (.ref b101), (.int (0 : Int32)), (.ref a1)]))
  refine own_st (fun _ k => XS.iloadN X101.here hx rfl (hb hby d14_8) rfl k) ?_
  show own_Go p e below s _ _ _ (T101.setTop (mkF m 9 #[.val (.ref a1), .val (.int (0 : Int32)), .val (.int (1 : Int32)), .val (.ref b101), .unset, .unset] [(.int (1 : Int32)), (.int (0 : Int32)), (.ref b101), (.int (0 : Int32)), (.ref a1)]))
  have O102 : Old Z n0 h101 := O0.keep ((Keep.refl h0 []).trans K101 all0) all0
  have f103 := (V1.keep ((Keep.refl h0 []).trans K101 all0) nin0)
  obtain ⟨T104, v104, L104, h104, X104, e104, q104, st104⟩ := own_callS X101 hx hZ (y := (⟨"java/lang/StringUTF16", "compress", "([CI[BII)I"⟩ : MethodName)) hown (hw _ (List.mem_of_getElem? (i := 67) rfl)) (hw _ (List.mem_of_getElem? (i := 68) rfl)) (hw _ (List.mem_of_getElem? (i := 65) rfl)) (hw _ (List.mem_of_getElem? (i := 69) rfl)) (by decide) (own_bk (W := 0) (cm10 l Z a0 hw a1 b101 _ _ c0 h101 n0 O102 hc0 hw0 f103 (by omega) V101 (by omega)) hZ (hw _ (List.mem_of_getElem? (i := 69) rfl)) (hw _ (List.mem_of_getElem? (i := 65) rfl)) (by decide) (by decide)) e101 (by decide) (by decide) (g := (mkF m 9 #[.val (.ref a1), .val (.int (0 : Int32)), .val (.int (1 : Int32)), .val (.ref b101), .unset, .unset] [(.int (1 : Int32)), (.int (0 : Int32)), (.ref b101), (.int (0 : Int32)), (.ref a1)])) rfl (by rw [hml]; rfl) (argsL := [(.ref a1), (.int (0 : Int32)), (.ref b101), (.int (0 : Int32)), (.int (1 : Int32))]) (rest := []) (lenOf pd__28_5bCI_5bBII_29I rfl) rfl rfl (by show 2 * 0 + _ ≤ _; exact Nat.le_of_eq rfl) (hb hby d14_9)
  obtain ⟨rfl, N104q, K104⟩ := q104
  refine own_st st104 ?_
  have zK104 := K104.1
  have N104 := Fr.app N0 N104q
  show own_Go p e below s _ _ _ (T104.setTop (mkF m 12 #[.val (.ref a1), .val (.int (0 : Int32)), .val (.int (1 : Int32)), .val (.ref b101), .unset, .unset] [(.int (0 : Int32))]))
  refine own_st (fun _ k => XS.istore X104.here hx rfl (hb hby d14_12) rfl (l' := #[.val (.ref a1), .val (.int (0 : Int32)), .val (.int (1 : Int32)), .val (.ref b101), .val (.int (0 : Int32)), .unset]) rfl k) ?_
  show own_Go p e below s _ _ _ (T104.setTop (mkF m 14 #[.val (.ref a1), .val (.int (0 : Int32)), .val (.int (1 : Int32)), .val (.ref b101), .val (.int (0 : Int32)), .unset] []))
  refine own_st (fun _ k => XS.iload X104.here hx rfl (hb hby d14_14) rfl k) ?_
  show own_Go p e below s _ _ _ (T104.setTop (mkF m 16 #[.val (.ref a1), .val (.int (0 : Int32)), .val (.int (1 : Int32)), .val (.ref b101), .val (.int (0 : Int32)), .unset] [(.int (0 : Int32))]))
  refine own_st (fun _ k => XS.iloadN X104.here hx rfl (hb hby d14_16) rfl k) ?_
  show own_Go p e below s _ _ _ (T104.setTop (mkF m 17 #[.val (.ref a1), .val (.int (0 : Int32)), .val (.int (1 : Int32)), .val (.ref b101), .val (.int (0 : Int32)), .unset] [(.int (1 : Int32)), (.int (0 : Int32))]))
  refine own_st (fun _ k => XS.icmpNo X104.here hx rfl (hb hby d14_17) rfl (feq (by decide)).1 k) ?_
  show own_Go p e below s _ _ _ (T104.setTop (mkF m 20 #[.val (.ref a1), .val (.int (0 : Int32)), .val (.int (1 : Int32)), .val (.ref b101), .val (.int (0 : Int32)), .unset] []))
  refine own_st (fun _ k => XS.aloadN X104.here hx rfl (hb hby d14_20) rfl rfl k) ?_
  show own_Go p e below s _ _ _ (T104.setTop (mkF m 21 #[.val (.ref a1), .val (.int (0 : Int32)), .val (.int (1 : Int32)), .val (.ref b101), .val (.int (0 : Int32)), .unset] [(.ref a1)]))
  refine own_st (fun _ k => XS.iloadN X104.here hx rfl (hb hby d14_21) rfl k) ?_
  show own_Go p e below s _ _ _ (T104.setTop (mkF m 22 #[.val (.ref a1), .val (.int (0 : Int32)), .val (.int (1 : Int32)), .val (.ref b101), .val (.int (0 : Int32)), .unset] [(.int (0 : Int32)), (.ref a1)]))
  refine own_st (fun _ k => XS.iloadN X104.here hx rfl (hb hby d14_22) rfl k) ?_
  show own_Go p e below s _ _ _ (T104.setTop (mkF m 23 #[.val (.ref a1), .val (.int (0 : Int32)), .val (.int (1 : Int32)), .val (.ref b101), .val (.int (0 : Int32)), .unset] [(.int (1 : Int32)), (.int (0 : Int32)), (.ref a1)]))
  have O105 : Old Z n0 h104 := O102.keep ((Keep.refl h101 [b101]).trans K104 (allS (Or.inl (by simp)) all0)) (allS (by omega) all0)
  have f106 := (f103.keep ((Keep.refl h101 [b101]).trans K104 (allS (Or.inl (by simp)) all0)) (own_ninS (by omega) nin0))
  obtain ⟨T107, v107, L107, h107, X107, e107, q107, st107⟩ := own_callS X104 hx hZ (y := (⟨"java/lang/StringUTF16", "toBytes", "([CII)[B"⟩ : MethodName)) hown (hw _ (List.mem_of_getElem? (i := 75) rfl)) (hw _ (List.mem_of_getElem? (i := 76) rfl)) (hw _ (List.mem_of_getElem? (i := 65) rfl)) (hw _ (List.mem_of_getElem? (i := 77) rfl)) (by decide) (own_bk (W := 0) (tb1 l Z a0 hw a1 _ c0 h104 n0 O105 UT f106) hZ (hw _ (List.mem_of_getElem? (i := 77) rfl)) (hw _ (List.mem_of_getElem? (i := 65) rfl)) (by decide) (by decide)) e104 (by decide) (by decide) (g := (mkF m 23 #[.val (.ref a1), .val (.int (0 : Int32)), .val (.int (1 : Int32)), .val (.ref b101), .val (.int (0 : Int32)), .unset] [(.int (1 : Int32)), (.int (0 : Int32)), (.ref a1)])) rfl (by rw [hml]; rfl) (argsL := [(.ref a1), (.int (0 : Int32)), (.int (1 : Int32))]) (rest := []) (lenOf pd__28_5bCII_29_5bB rfl) rfl rfl (by show 2 * 0 + _ ≤ _; exact Nat.le_of_eq rfl) (hb hby d14_23)
  obtain ⟨N107q, b107, k107, rfl, K107, zb107, zc107, V107⟩ := q107
  refine own_st st107 ?_
  have zK107 := K107.1
  have N107 := Fr.app N104 N107q
  show own_Go p e below s _ _ _ (T107.setTop (mkF m 26 #[.val (.ref a1), .val (.int (0 : Int32)), .val (.int (1 : Int32)), .val (.ref b101), .val (.int (0 : Int32)), .unset] [(.ref b107)]))
  refine own_st (fun _ k => XS.astore X107.here hx rfl (hb hby d14_26) rfl rfl (l' := #[.val (.ref a1), .val (.int (0 : Int32)), .val (.int (1 : Int32)), .val (.ref b101), .val (.int (0 : Int32)), .val (.ref b107)]) rfl k) ?_
  show own_Go p e below s _ _ _ (T107.setTop (mkF m 28 #[.val (.ref a1), .val (.int (0 : Int32)), .val (.int (1 : Int32)), .val (.ref b101), .val (.int (0 : Int32)), .val (.ref b107)] []))
  refine own_st (fun _ k => XS.aload X107.here hx rfl (hb hby d14_28) rfl rfl k) ?_
  show own_Go p e below s _ _ _ (T107.setTop (mkF m 30 #[.val (.ref a1), .val (.int (0 : Int32)), .val (.int (1 : Int32)), .val (.ref b101), .val (.int (0 : Int32)), .val (.ref b107)] [(.ref b107)]))
  refine own_st (fun _ k => XS.iload X107.here hx rfl (hb hby d14_30) rfl k) ?_
  show own_Go p e below s _ _ _ (T107.setTop (mkF m 32 #[.val (.ref a1), .val (.int (0 : Int32)), .val (.int (1 : Int32)), .val (.ref b101), .val (.int (0 : Int32)), .val (.ref b107)] [(.int (0 : Int32)), (.ref b107)]))
  have O108 : Old Z n0 h107 := O105.keep ((Keep.refl h104 []).trans K107 all0) all0
  obtain ⟨T109, v109, L109, h109, X109, e109, q109, st109⟩ := own_callS X107 hx hZ (y := (⟨"java/lang/StringUTF16", "getChar", "([BI)C"⟩ : MethodName)) hown (hw _ (List.mem_of_getElem? (i := 91) rfl)) (hw _ (List.mem_of_getElem? (i := 92) rfl)) (hw _ (List.mem_of_getElem? (i := 65) rfl)) (hw _ (List.mem_of_getElem? (i := 93) rfl)) (by decide) (own_bk (W := 0) (gc16 l Z a0 hw b107 _ [c0] 0 h107 n0 O108 UT (by decide : 0 < 1) (by decide : 1 ≤ 2) (own_all1 hc0) V107) hZ (hw _ (List.mem_of_getElem? (i := 93) rfl)) (hw _ (List.mem_of_getElem? (i := 65) rfl)) (by decide) (by decide)) e107 (by decide) (by decide) (g := (mkF m 32 #[.val (.ref a1), .val (.int (0 : Int32)), .val (.int (1 : Int32)), .val (.ref b101), .val (.int (0 : Int32)), .val (.ref b107)] [(.int (0 : Int32)), (.ref b107)])) rfl (by rw [hml]; rfl) (argsL := [(.ref b107), (.int (0 : Int32))]) (rest := []) (lenOf pd__28_5bBI_29C rfl) rfl rfl (by show 2 * 0 + _ ≤ _; exact Nat.le_of_eq rfl) (hb hby d14_32)
  obtain ⟨rfl, N109q, hq109⟩ := q109
  replace e109 := e109.trans hq109
  refine own_st st109 ?_
  have N109 := Fr.app N107 N109q
  show own_Go p e below s _ _ _ (T109.setTop (mkF m 35 #[.val (.ref a1), .val (.int (0 : Int32)), .val (.int (1 : Int32)), .val (.ref b101), .val (.int (0 : Int32)), .val (.ref b107)] [(.int ([c0].getD 0 0))]))
  refine own_st (fun _ k => XS.sipush X109.here hx rfl (hb hby d14_35) k) ?_
  show own_Go p e below s _ _ _ (T109.setTop (mkF m 38 #[.val (.ref a1), .val (.int (0 : Int32)), .val (.int (1 : Int32)), .val (.ref b101), .val (.int (0 : Int32)), .val (.ref b107)] [(.int (255 : Int32)), (.int ([c0].getD 0 0))]))
  refine own_st (fun _ k => XS.icmpYes X109.here hx rfl (pc0 := 38) (pc' := 54) rfl (hb hby d14_38) rfl (tlt (show (255 : Int32) < c0 from hw0)).2.2.1 (by decide) (by decide) k) ?_
  show own_Go p e below s _ _ _ (T109.setTop (mkF m 54 #[.val (.ref a1), .val (.int (0 : Int32)), .val (.int (1 : Int32)), .val (.ref b101), .val (.int (0 : Int32)), .val (.ref b107)] []))
  refine own_st (fun _ k => XS.aload X109.here hx rfl (hb hby d14_54) rfl rfl k) ?_
  show own_Go p e below s _ _ _ (T109.setTop (mkF m 56 #[.val (.ref a1), .val (.int (0 : Int32)), .val (.int (1 : Int32)), .val (.ref b101), .val (.int (0 : Int32)), .val (.ref b107)] [(.ref b107)]))
  exact own_ret X109 hx hlk e109 hret rfl (Or.inr (Or.inr (Or.inr (Or.inr ⟨rfl, rfl, rfl⟩)))) (hb hby d14_56) (by decide) (by decide) ⟨N109, b107, _, rfl, ((((Keep.refl h0 []).trans K101 all0).trans K104 (allS (Or.inr (by omega)) all0)).trans K107 all0), by omega, V107.lt, V107⟩
theorem ef_ct20 (m : MethodId) (x0 : Addr) (x1 : Int32) (x2 : Int32) : entryFrame m #[(.ref x0), (.int x1), (.int x2)] 6 = mkF m 0 #[.val (.ref x0), .val (.int x1), .val (.int x2), .unset, .unset, .unset] [] := by (first | (simp [entryFrame, mkF, argsToLocals, Value.category]; done) | rfl)
abbrev ct20R : Room := { frames := 3, cells := 2, slots := 6, locals := 40 }
set_option maxRecDepth 65536 in
set_option maxHeartbeats 40000000 in
theorem ct20 (l : Launch) (Z : State) (a0 : Array Value) (hw : ∀ d ∈ tables_1, d.before a0 Z = true) (a1 : Nat) (k1 : ClassId) (c0 c1 : Int32) (h0 : Heap) (n0 : Nat) (O0 : Old Z n0 h0) (UT : own_U16 Z) (hc0 : ¬ c0 < 0 ∧ ¬ (65535 : Int32) < c0) (hc1 : ¬ c1 < 0 ∧ ¬ (65535 : Int32) < c1)  (hw0 : (255 : Int32) < c0) (V1 : Arv Z h0 a1 k1 .char 2 [.int c0, .int c1] (.int 0)) :
    own_C l Z (⟨"java/lang/StringUTF16", "compress", "([CII)[B"⟩ : MethodName) jdk_52_method_16_code 6 (some (.array .byte)) [] ct20R #[(.ref a1), (.int (0 : Int32)), (.int (2 : Int32))] h0 (fun v h L => Fr n0 L ∧ ∃ (b : Nat) (kb : ClassId), v = some (.ref b) ∧ Keep h0 h [] ∧ h0.size ≤ b ∧ b < h.size ∧ Arv Z h b kb .byte 4 (StrChars.Road.wideBytes [c0, c1]) (.int 0)) := by
  refine own_body (plainFor_of_name pn_java_lang_StringUTF16) ?_
  intro p e s m below meth c T0 X0 hx hby hml hZ hown hnm hret hlk e0
  have N0 := Fr.nil n0
  have zO := own_old O0
  have la1 : a1 < h0.size := V1.lt
  refine own_st (fun _ k => castTop (ef_ct20 m a1 (0 : Int32) (2 : Int32)) k) ?_
  show own_Go p e below s _ _ _ (T0.setTop (mkF m 0 #[.val (.ref a1), .val (.int (0 : Int32)), .val (.int (2 : Int32)), .unset, .unset, .unset] []))
  refine own_st (fun _ k => XS.iloadN X0.here hx rfl (hb hby d14_0) rfl k) ?_
  show own_Go p e below s _ _ _ (T0.setTop (mkF m 1 #[.val (.ref a1), .val (.int (0 : Int32)), .val (.int (2 : Int32)), .unset, .unset, .unset] [(.int (2 : Int32))]))
  obtain ⟨T101, h101, k101, X101, e101, E101, A101, st101⟩ := newP X0 hx hZ (hw _ (List.mem_of_getElem? (i := 23) rfl)) e0 (g := (mkF m 1 #[.val (.ref a1), .val (.int (0 : Int32)), .val (.int (2 : Int32)), .unset, .unset, .unset] [(.int (2 : Int32))])) rfl (hb hby d14_1) rfl (by decide) (cap := 2) (by decide) (by decide) (by decide) (by decide)
  obtain ⟨b101, g101⟩ : ∃ z, z = h0.size := ⟨_, rfl⟩
  rw [← g101] at A101 st101
  have K101 : Keep h0 h101 [] := (Keep.refl _ _).ext E101
  have l101 : b101 < h101.size := A101.lt
  refine own_st st101 ?_
  have zK101 := K101.1
  have V101 : Arv Z h101 b101 k101 .byte (2 : Int32) [(.int (0 : Int32)), (.int (0 : Int32))] (.int (0 : Int32)) := (Arv.new A101 (by decide)).pad (pad_rep [] (.int (0 : Int32)) 2)
  show own_Go p e below s _ _ _ (T101.setTop (mkF m 3 #[.val (.ref a1), .val (.int (0 : Int32)), .val (.int (2 : Int32)), .unset, .unset, .unset] [(.ref b101)]))
  refine own_st (fun _ k => XS.astoreN X101.here hx rfl (hb hby d14_3) rfl rfl (l' := #[.val (.ref a1), .val (.int (0 : Int32)), .val (.int (2 : Int32)), .val (.ref b101), .unset, .unset]) rfl k) ?_
  show own_Go p e below s _ _ _ (T101.setTop (mkF m 4 #[.val (.ref a1), .val (.int (0 : Int32)), .val (.int (2 : Int32)), .val (.ref b101), .unset, .unset] []))
  refine own_st (fun _ k => XS.aloadN X101.here hx rfl (hb hby d14_4) rfl rfl k) ?_
  show own_Go p e below s _ _ _ (T101.setTop (mkF m 5 #[.val (.ref a1), .val (.int (0 : Int32)), .val (.int (2 : Int32)), .val (.ref b101), .unset, .unset] [(.ref a1)]))
  refine own_st (fun _ k => XS.iloadN X101.here hx rfl (hb hby d14_5) rfl k) ?_
  show own_Go p e below s _ _ _ (T101.setTop (mkF m 6 #[.val (.ref a1), .val (.int (0 : Int32)), .val (.int (2 : Int32)), .val (.ref b101), .unset, .unset] [(.int (0 : Int32)), (.ref a1)]))
  refine own_st (fun _ k => XS.aloadN X101.here hx rfl (hb hby d14_6) rfl rfl k) ?_
  show own_Go p e below s _ _ _ (T101.setTop (mkF m 7 #[.val (.ref a1), .val (.int (0 : Int32)), .val (.int (2 : Int32)), .val (.ref b101), .unset, .unset] [(.ref b101), (.int (0 : Int32)), (.ref a1)]))
  refine own_st (fun _ k => XS.iconst X101.here hx rfl (hb hby d14_7) k) ?_
  show own_Go p e below s _ _ _ (T101.setTop (mkF m 8 #[.val (.ref a1), .val (.int (0 : Int32)), .val (.int (2 : Int32)), .val (.ref b101), .unset, .unset] [(.int (0 : Int32)), (.ref b101), (.int (0 : Int32)), (.ref a1)]))
  refine own_st (fun _ k => XS.iloadN X101.here hx rfl (hb hby d14_8) rfl k) ?_
  show own_Go p e below s _ _ _ (T101.setTop (mkF m 9 #[.val (.ref a1), .val (.int (0 : Int32)), .val (.int (2 : Int32)), .val (.ref b101), .unset, .unset] [(.int (2 : Int32)), (.int (0 : Int32)), (.ref b101), (.int (0 : Int32)), (.ref a1)]))
  have O102 : Old Z n0 h101 := O0.keep ((Keep.refl h0 []).trans K101 all0) all0
  have f103 := (V1.keep ((Keep.refl h0 []).trans K101 all0) nin0)
  obtain ⟨T104, v104, L104, h104, X104, e104, q104, st104⟩ := own_callS X101 hx hZ (y := (⟨"java/lang/StringUTF16", "compress", "([CI[BII)I"⟩ : MethodName)) hown (hw _ (List.mem_of_getElem? (i := 67) rfl)) (hw _ (List.mem_of_getElem? (i := 68) rfl)) (hw _ (List.mem_of_getElem? (i := 65) rfl)) (hw _ (List.mem_of_getElem? (i := 69) rfl)) (by decide) (own_bk (W := 0) (cm20 l Z a0 hw a1 b101 _ _ c0 c1 h101 n0 O102 hc0 hc1 hw0 f103 (by omega) V101 (by omega)) hZ (hw _ (List.mem_of_getElem? (i := 69) rfl)) (hw _ (List.mem_of_getElem? (i := 65) rfl)) (by decide) (by decide)) e101 (by decide) (by decide) (g := (mkF m 9 #[.val (.ref a1), .val (.int (0 : Int32)), .val (.int (2 : Int32)), .val (.ref b101), .unset, .unset] [(.int (2 : Int32)), (.int (0 : Int32)), (.ref b101), (.int (0 : Int32)), (.ref a1)])) rfl (by rw [hml]; rfl) (argsL := [(.ref a1), (.int (0 : Int32)), (.ref b101), (.int (0 : Int32)), (.int (2 : Int32))]) (rest := []) (lenOf pd__28_5bCI_5bBII_29I rfl) rfl rfl (by show 2 * 0 + _ ≤ _; exact Nat.le_of_eq rfl) (hb hby d14_9)
  obtain ⟨rfl, N104q, K104⟩ := q104
  refine own_st st104 ?_
  have zK104 := K104.1
  have N104 := Fr.app N0 N104q
  show own_Go p e below s _ _ _ (T104.setTop (mkF m 12 #[.val (.ref a1), .val (.int (0 : Int32)), .val (.int (2 : Int32)), .val (.ref b101), .unset, .unset] [(.int (0 : Int32))]))
  refine own_st (fun _ k => XS.istore X104.here hx rfl (hb hby d14_12) rfl (l' := #[.val (.ref a1), .val (.int (0 : Int32)), .val (.int (2 : Int32)), .val (.ref b101), .val (.int (0 : Int32)), .unset]) rfl k) ?_
  show own_Go p e below s _ _ _ (T104.setTop (mkF m 14 #[.val (.ref a1), .val (.int (0 : Int32)), .val (.int (2 : Int32)), .val (.ref b101), .val (.int (0 : Int32)), .unset] []))
  refine own_st (fun _ k => XS.iload X104.here hx rfl (hb hby d14_14) rfl k) ?_
  show own_Go p e below s _ _ _ (T104.setTop (mkF m 16 #[.val (.ref a1), .val (.int (0 : Int32)), .val (.int (2 : Int32)), .val (.ref b101), .val (.int (0 : Int32)), .unset] [(.int (0 : Int32))]))
  refine own_st (fun _ k => XS.iloadN X104.here hx rfl (hb hby d14_16) rfl k) ?_
  show own_Go p e below s _ _ _ (T104.setTop (mkF m 17 #[.val (.ref a1), .val (.int (0 : Int32)), .val (.int (2 : Int32)), .val (.ref b101), .val (.int (0 : Int32)), .unset] [(.int (2 : Int32)), (.int (0 : Int32))]))
  refine own_st (fun _ k => XS.icmpNo X104.here hx rfl (hb hby d14_17) rfl (feq (by decide)).1 k) ?_
  show own_Go p e below s _ _ _ (T104.setTop (mkF m 20 #[.val (.ref a1), .val (.int (0 : Int32)), .val (.int (2 : Int32)), .val (.ref b101), .val (.int (0 : Int32)), .unset] []))
  refine own_st (fun _ k => XS.aloadN X104.here hx rfl (hb hby d14_20) rfl rfl k) ?_
  show own_Go p e below s _ _ _ (T104.setTop (mkF m 21 #[.val (.ref a1), .val (.int (0 : Int32)), .val (.int (2 : Int32)), .val (.ref b101), .val (.int (0 : Int32)), .unset] [(.ref a1)]))
  refine own_st (fun _ k => XS.iloadN X104.here hx rfl (hb hby d14_21) rfl k) ?_
  show own_Go p e below s _ _ _ (T104.setTop (mkF m 22 #[.val (.ref a1), .val (.int (0 : Int32)), .val (.int (2 : Int32)), .val (.ref b101), .val (.int (0 : Int32)), .unset] [(.int (0 : Int32)), (.ref a1)]))
  refine own_st (fun _ k => XS.iloadN X104.here hx rfl (hb hby d14_22) rfl k) ?_
  show own_Go p e below s _ _ _ (T104.setTop (mkF m 23 #[.val (.ref a1), .val (.int (0 : Int32)), .val (.int (2 : Int32)), .val (.ref b101), .val (.int (0 : Int32)), .unset] [(.int (2 : Int32)), (.int (0 : Int32)), (.ref a1)]))
  have O105 : Old Z n0 h104 := O102.keep ((Keep.refl h101 [b101]).trans K104 (allS (Or.inl (by simp)) all0)) (allS (by omega) all0)
  have f106 := (f103.keep ((Keep.refl h101 [b101]).trans K104 (allS (Or.inl (by simp)) all0)) (own_ninS (by omega) nin0))
  obtain ⟨T107, v107, L107, h107, X107, e107, q107, st107⟩ := own_callS X104 hx hZ (y := (⟨"java/lang/StringUTF16", "toBytes", "([CII)[B"⟩ : MethodName)) hown (hw _ (List.mem_of_getElem? (i := 75) rfl)) (hw _ (List.mem_of_getElem? (i := 76) rfl)) (hw _ (List.mem_of_getElem? (i := 65) rfl)) (hw _ (List.mem_of_getElem? (i := 77) rfl)) (by decide) (own_bk (W := 0) (tb2 l Z a0 hw a1 _ c0 c1 h104 n0 O105 UT f106) hZ (hw _ (List.mem_of_getElem? (i := 77) rfl)) (hw _ (List.mem_of_getElem? (i := 65) rfl)) (by decide) (by decide)) e104 (by decide) (by decide) (g := (mkF m 23 #[.val (.ref a1), .val (.int (0 : Int32)), .val (.int (2 : Int32)), .val (.ref b101), .val (.int (0 : Int32)), .unset] [(.int (2 : Int32)), (.int (0 : Int32)), (.ref a1)])) rfl (by rw [hml]; rfl) (argsL := [(.ref a1), (.int (0 : Int32)), (.int (2 : Int32))]) (rest := []) (lenOf pd__28_5bCII_29_5bB rfl) rfl rfl (by show 2 * 0 + _ ≤ _; exact Nat.le_of_eq rfl) (hb hby d14_23)
  obtain ⟨N107q, b107, k107, rfl, K107, zb107, zc107, V107⟩ := q107
  refine own_st st107 ?_
  have zK107 := K107.1
  have N107 := Fr.app N104 N107q
  show own_Go p e below s _ _ _ (T107.setTop (mkF m 26 #[.val (.ref a1), .val (.int (0 : Int32)), .val (.int (2 : Int32)), .val (.ref b101), .val (.int (0 : Int32)), .unset] [(.ref b107)]))
  refine own_st (fun _ k => XS.astore X107.here hx rfl (hb hby d14_26) rfl rfl (l' := #[.val (.ref a1), .val (.int (0 : Int32)), .val (.int (2 : Int32)), .val (.ref b101), .val (.int (0 : Int32)), .val (.ref b107)]) rfl k) ?_
  show own_Go p e below s _ _ _ (T107.setTop (mkF m 28 #[.val (.ref a1), .val (.int (0 : Int32)), .val (.int (2 : Int32)), .val (.ref b101), .val (.int (0 : Int32)), .val (.ref b107)] []))
  refine own_st (fun _ k => XS.aload X107.here hx rfl (hb hby d14_28) rfl rfl k) ?_
  show own_Go p e below s _ _ _ (T107.setTop (mkF m 30 #[.val (.ref a1), .val (.int (0 : Int32)), .val (.int (2 : Int32)), .val (.ref b101), .val (.int (0 : Int32)), .val (.ref b107)] [(.ref b107)]))
  refine own_st (fun _ k => XS.iload X107.here hx rfl (hb hby d14_30) rfl k) ?_
  show own_Go p e below s _ _ _ (T107.setTop (mkF m 32 #[.val (.ref a1), .val (.int (0 : Int32)), .val (.int (2 : Int32)), .val (.ref b101), .val (.int (0 : Int32)), .val (.ref b107)] [(.int (0 : Int32)), (.ref b107)]))
  have O108 : Old Z n0 h107 := O105.keep ((Keep.refl h104 []).trans K107 all0) all0
  obtain ⟨T109, v109, L109, h109, X109, e109, q109, st109⟩ := own_callS X107 hx hZ (y := (⟨"java/lang/StringUTF16", "getChar", "([BI)C"⟩ : MethodName)) hown (hw _ (List.mem_of_getElem? (i := 91) rfl)) (hw _ (List.mem_of_getElem? (i := 92) rfl)) (hw _ (List.mem_of_getElem? (i := 65) rfl)) (hw _ (List.mem_of_getElem? (i := 93) rfl)) (by decide) (own_bk (W := 0) (gc16 l Z a0 hw b107 _ [c0, c1] 0 h107 n0 O108 UT (by decide : 0 < 2) (by decide : 2 ≤ 2) (own_allC hc0 (own_all1 hc1)) V107) hZ (hw _ (List.mem_of_getElem? (i := 93) rfl)) (hw _ (List.mem_of_getElem? (i := 65) rfl)) (by decide) (by decide)) e107 (by decide) (by decide) (g := (mkF m 32 #[.val (.ref a1), .val (.int (0 : Int32)), .val (.int (2 : Int32)), .val (.ref b101), .val (.int (0 : Int32)), .val (.ref b107)] [(.int (0 : Int32)), (.ref b107)])) rfl (by rw [hml]; rfl) (argsL := [(.ref b107), (.int (0 : Int32))]) (rest := []) (lenOf pd__28_5bBI_29C rfl) rfl rfl (by show 2 * 0 + _ ≤ _; exact Nat.le_of_eq rfl) (hb hby d14_32)
  obtain ⟨rfl, N109q, hq109⟩ := q109
  replace e109 := e109.trans hq109
  refine own_st st109 ?_
  have N109 := Fr.app N107 N109q
  show own_Go p e below s _ _ _ (T109.setTop (mkF m 35 #[.val (.ref a1), .val (.int (0 : Int32)), .val (.int (2 : Int32)), .val (.ref b101), .val (.int (0 : Int32)), .val (.ref b107)] [(.int ([c0, c1].getD 0 0))]))
  refine own_st (fun _ k => XS.sipush X109.here hx rfl (hb hby d14_35) k) ?_
  show own_Go p e below s _ _ _ (T109.setTop (mkF m 38 #[.val (.ref a1), .val (.int (0 : Int32)), .val (.int (2 : Int32)), .val (.ref b101), .val (.int (0 : Int32)), .val (.ref b107)] [(.int (255 : Int32)), (.int ([c0, c1].getD 0 0))]))
  refine own_st (fun _ k => XS.icmpYes X109.here hx rfl (pc0 := 38) (pc' := 54) rfl (hb hby d14_38) rfl (tlt (show (255 : Int32) < c0 from hw0)).2.2.1 (by decide) (by decide) k) ?_
  show own_Go p e below s _ _ _ (T109.setTop (mkF m 54 #[.val (.ref a1), .val (.int (0 : Int32)), .val (.int (2 : Int32)), .val (.ref b101), .val (.int (0 : Int32)), .val (.ref b107)] []))
  refine own_st (fun _ k => XS.aload X109.here hx rfl (hb hby d14_54) rfl rfl k) ?_
  show own_Go p e below s _ _ _ (T109.setTop (mkF m 56 #[.val (.ref a1), .val (.int (0 : Int32)), .val (.int (2 : Int32)), .val (.ref b101), .val (.int (0 : Int32)), .val (.ref b107)] [(.ref b107)]))
  exact own_ret X109 hx hlk e109 hret rfl (Or.inr (Or.inr (Or.inr (Or.inr ⟨rfl, rfl, rfl⟩)))) (hb hby d14_56) (by decide) (by decide) ⟨N109, b107, _, rfl, ((((Keep.refl h0 []).trans K101 all0).trans K104 (allS (Or.inr (by omega)) all0)).trans K107 all0), by omega, V107.lt, V107⟩
theorem ef_ct21 (m : MethodId) (x0 : Addr) (x1 : Int32) (x2 : Int32) : entryFrame m #[(.ref x0), (.int x1), (.int x2)] 6 = mkF m 0 #[.val (.ref x0), .val (.int x1), .val (.int x2), .unset, .unset, .unset] [] := by (first | (simp [entryFrame, mkF, argsToLocals, Value.category]; done) | rfl)
abbrev ct21R : Room := { frames := 3, cells := 2, slots := 6, locals := 40 }
set_option maxRecDepth 65536 in
set_option maxHeartbeats 40000000 in
theorem ct21 (l : Launch) (Z : State) (a0 : Array Value) (hw : ∀ d ∈ tables_1, d.before a0 Z = true) (a1 : Nat) (k1 : ClassId) (c0 c1 : Int32) (h0 : Heap) (n0 : Nat) (O0 : Old Z n0 h0) (UT : own_U16 Z) (hc0 : ¬ c0 < 0 ∧ ¬ (65535 : Int32) < c0) (hc1 : ¬ c1 < 0 ∧ ¬ (65535 : Int32) < c1) (hn0 : ¬ (255 : Int32) < c0) (hw1 : (255 : Int32) < c1) (V1 : Arv Z h0 a1 k1 .char 2 [.int c0, .int c1] (.int 0)) :
    own_C l Z (⟨"java/lang/StringUTF16", "compress", "([CII)[B"⟩ : MethodName) jdk_52_method_16_code 6 (some (.array .byte)) [] ct21R #[(.ref a1), (.int (0 : Int32)), (.int (2 : Int32))] h0 (fun v h L => Fr n0 L ∧ ∃ (b : Nat) (kb : ClassId), v = some (.ref b) ∧ Keep h0 h [] ∧ h0.size ≤ b ∧ b < h.size ∧ Arv Z h b kb .byte 4 (StrChars.Road.wideBytes [c0, c1]) (.int 0)) := by
  refine own_body (plainFor_of_name pn_java_lang_StringUTF16) ?_
  intro p e s m below meth c T0 X0 hx hby hml hZ hown hnm hret hlk e0
  have N0 := Fr.nil n0
  have zO := own_old O0
  have la1 : a1 < h0.size := V1.lt
  refine own_st (fun _ k => castTop (ef_ct21 m a1 (0 : Int32) (2 : Int32)) k) ?_
  show own_Go p e below s _ _ _ (T0.setTop (mkF m 0 #[.val (.ref a1), .val (.int (0 : Int32)), .val (.int (2 : Int32)), .unset, .unset, .unset] []))
  refine own_st (fun _ k => XS.iloadN X0.here hx rfl (hb hby d14_0) rfl k) ?_
  show own_Go p e below s _ _ _ (T0.setTop (mkF m 1 #[.val (.ref a1), .val (.int (0 : Int32)), .val (.int (2 : Int32)), .unset, .unset, .unset] [(.int (2 : Int32))]))
  obtain ⟨T101, h101, k101, X101, e101, E101, A101, st101⟩ := newP X0 hx hZ (hw _ (List.mem_of_getElem? (i := 23) rfl)) e0 (g := (mkF m 1 #[.val (.ref a1), .val (.int (0 : Int32)), .val (.int (2 : Int32)), .unset, .unset, .unset] [(.int (2 : Int32))])) rfl (hb hby d14_1) rfl (by decide) (cap := 2) (by decide) (by decide) (by decide) (by decide)
  obtain ⟨b101, g101⟩ : ∃ z, z = h0.size := ⟨_, rfl⟩
  rw [← g101] at A101 st101
  have K101 : Keep h0 h101 [] := (Keep.refl _ _).ext E101
  have l101 : b101 < h101.size := A101.lt
  refine own_st st101 ?_
  have zK101 := K101.1
  have V101 : Arv Z h101 b101 k101 .byte (2 : Int32) [(.int (0 : Int32)), (.int (0 : Int32))] (.int (0 : Int32)) := (Arv.new A101 (by decide)).pad (pad_rep [] (.int (0 : Int32)) 2)
  show own_Go p e below s _ _ _ (T101.setTop (mkF m 3 #[.val (.ref a1), .val (.int (0 : Int32)), .val (.int (2 : Int32)), .unset, .unset, .unset] [(.ref b101)]))
  refine own_st (fun _ k => XS.astoreN X101.here hx rfl (hb hby d14_3) rfl rfl (l' := #[.val (.ref a1), .val (.int (0 : Int32)), .val (.int (2 : Int32)), .val (.ref b101), .unset, .unset]) rfl k) ?_
  show own_Go p e below s _ _ _ (T101.setTop (mkF m 4 #[.val (.ref a1), .val (.int (0 : Int32)), .val (.int (2 : Int32)), .val (.ref b101), .unset, .unset] []))
  refine own_st (fun _ k => XS.aloadN X101.here hx rfl (hb hby d14_4) rfl rfl k) ?_
  show own_Go p e below s _ _ _ (T101.setTop (mkF m 5 #[.val (.ref a1), .val (.int (0 : Int32)), .val (.int (2 : Int32)), .val (.ref b101), .unset, .unset] [(.ref a1)]))
  refine own_st (fun _ k => XS.iloadN X101.here hx rfl (hb hby d14_5) rfl k) ?_
  show own_Go p e below s _ _ _ (T101.setTop (mkF m 6 #[.val (.ref a1), .val (.int (0 : Int32)), .val (.int (2 : Int32)), .val (.ref b101), .unset, .unset] [(.int (0 : Int32)), (.ref a1)]))
  refine own_st (fun _ k => XS.aloadN X101.here hx rfl (hb hby d14_6) rfl rfl k) ?_
  show own_Go p e below s _ _ _ (T101.setTop (mkF m 7 #[.val (.ref a1), .val (.int (0 : Int32)), .val (.int (2 : Int32)), .val (.ref b101), .unset, .unset] [(.ref b101), (.int (0 : Int32)), (.ref a1)]))
  refine own_st (fun _ k => XS.iconst X101.here hx rfl (hb hby d14_7) k) ?_
  show own_Go p e below s _ _ _ (T101.setTop (mkF m 8 #[.val (.ref a1), .val (.int (0 : Int32)), .val (.int (2 : Int32)), .val (.ref b101), .unset, .unset] [(.int (0 : Int32)), (.ref b101), (.int (0 : Int32)), (.ref a1)]))
  refine own_st (fun _ k => XS.iloadN X101.here hx rfl (hb hby d14_8) rfl k) ?_
  show own_Go p e below s _ _ _ (T101.setTop (mkF m 9 #[.val (.ref a1), .val (.int (0 : Int32)), .val (.int (2 : Int32)), .val (.ref b101), .unset, .unset] [(.int (2 : Int32)), (.int (0 : Int32)), (.ref b101), (.int (0 : Int32)), (.ref a1)]))
  have O102 : Old Z n0 h101 := O0.keep ((Keep.refl h0 []).trans K101 all0) all0
  have f103 := (V1.keep ((Keep.refl h0 []).trans K101 all0) nin0)
  obtain ⟨T104, v104, L104, h104, X104, e104, q104, st104⟩ := own_callS X101 hx hZ (y := (⟨"java/lang/StringUTF16", "compress", "([CI[BII)I"⟩ : MethodName)) hown (hw _ (List.mem_of_getElem? (i := 67) rfl)) (hw _ (List.mem_of_getElem? (i := 68) rfl)) (hw _ (List.mem_of_getElem? (i := 65) rfl)) (hw _ (List.mem_of_getElem? (i := 69) rfl)) (by decide) (own_bk (W := 0) (cm21 l Z a0 hw a1 b101 _ _ c0 c1 h101 n0 O102 hc0 hc1 hn0 hw1 f103 (by omega) V101 (by omega)) hZ (hw _ (List.mem_of_getElem? (i := 69) rfl)) (hw _ (List.mem_of_getElem? (i := 65) rfl)) (by decide) (by decide)) e101 (by decide) (by decide) (g := (mkF m 9 #[.val (.ref a1), .val (.int (0 : Int32)), .val (.int (2 : Int32)), .val (.ref b101), .unset, .unset] [(.int (2 : Int32)), (.int (0 : Int32)), (.ref b101), (.int (0 : Int32)), (.ref a1)])) rfl (by rw [hml]; rfl) (argsL := [(.ref a1), (.int (0 : Int32)), (.ref b101), (.int (0 : Int32)), (.int (2 : Int32))]) (rest := []) (lenOf pd__28_5bCI_5bBII_29I rfl) rfl rfl (by show 2 * 0 + _ ≤ _; exact Nat.le_of_eq rfl) (hb hby d14_9)
  obtain ⟨rfl, N104q, K104⟩ := q104
  refine own_st st104 ?_
  have zK104 := K104.1
  have N104 := Fr.app N0 N104q
  show own_Go p e below s _ _ _ (T104.setTop (mkF m 12 #[.val (.ref a1), .val (.int (0 : Int32)), .val (.int (2 : Int32)), .val (.ref b101), .unset, .unset] [(.int (1 : Int32))]))
  refine own_st (fun _ k => XS.istore X104.here hx rfl (hb hby d14_12) rfl (l' := #[.val (.ref a1), .val (.int (0 : Int32)), .val (.int (2 : Int32)), .val (.ref b101), .val (.int (1 : Int32)), .unset]) rfl k) ?_
  show own_Go p e below s _ _ _ (T104.setTop (mkF m 14 #[.val (.ref a1), .val (.int (0 : Int32)), .val (.int (2 : Int32)), .val (.ref b101), .val (.int (1 : Int32)), .unset] []))
  refine own_st (fun _ k => XS.iload X104.here hx rfl (hb hby d14_14) rfl k) ?_
  show own_Go p e below s _ _ _ (T104.setTop (mkF m 16 #[.val (.ref a1), .val (.int (0 : Int32)), .val (.int (2 : Int32)), .val (.ref b101), .val (.int (1 : Int32)), .unset] [(.int (1 : Int32))]))
  refine own_st (fun _ k => XS.iloadN X104.here hx rfl (hb hby d14_16) rfl k) ?_
  show own_Go p e below s _ _ _ (T104.setTop (mkF m 17 #[.val (.ref a1), .val (.int (0 : Int32)), .val (.int (2 : Int32)), .val (.ref b101), .val (.int (1 : Int32)), .unset] [(.int (2 : Int32)), (.int (1 : Int32))]))
  refine own_st (fun _ k => XS.icmpNo X104.here hx rfl (hb hby d14_17) rfl (feq (by decide)).1 k) ?_
  show own_Go p e below s _ _ _ (T104.setTop (mkF m 20 #[.val (.ref a1), .val (.int (0 : Int32)), .val (.int (2 : Int32)), .val (.ref b101), .val (.int (1 : Int32)), .unset] []))
  refine own_st (fun _ k => XS.aloadN X104.here hx rfl (hb hby d14_20) rfl rfl k) ?_
  show own_Go p e below s _ _ _ (T104.setTop (mkF m 21 #[.val (.ref a1), .val (.int (0 : Int32)), .val (.int (2 : Int32)), .val (.ref b101), .val (.int (1 : Int32)), .unset] [(.ref a1)]))
  refine own_st (fun _ k => XS.iloadN X104.here hx rfl (hb hby d14_21) rfl k) ?_
  show own_Go p e below s _ _ _ (T104.setTop (mkF m 22 #[.val (.ref a1), .val (.int (0 : Int32)), .val (.int (2 : Int32)), .val (.ref b101), .val (.int (1 : Int32)), .unset] [(.int (0 : Int32)), (.ref a1)]))
  refine own_st (fun _ k => XS.iloadN X104.here hx rfl (hb hby d14_22) rfl k) ?_
  show own_Go p e below s _ _ _ (T104.setTop (mkF m 23 #[.val (.ref a1), .val (.int (0 : Int32)), .val (.int (2 : Int32)), .val (.ref b101), .val (.int (1 : Int32)), .unset] [(.int (2 : Int32)), (.int (0 : Int32)), (.ref a1)]))
  have O105 : Old Z n0 h104 := O102.keep ((Keep.refl h101 [b101]).trans K104 (allS (Or.inl (by simp)) all0)) (allS (by omega) all0)
  have f106 := (f103.keep ((Keep.refl h101 [b101]).trans K104 (allS (Or.inl (by simp)) all0)) (own_ninS (by omega) nin0))
  obtain ⟨T107, v107, L107, h107, X107, e107, q107, st107⟩ := own_callS X104 hx hZ (y := (⟨"java/lang/StringUTF16", "toBytes", "([CII)[B"⟩ : MethodName)) hown (hw _ (List.mem_of_getElem? (i := 75) rfl)) (hw _ (List.mem_of_getElem? (i := 76) rfl)) (hw _ (List.mem_of_getElem? (i := 65) rfl)) (hw _ (List.mem_of_getElem? (i := 77) rfl)) (by decide) (own_bk (W := 0) (tb2 l Z a0 hw a1 _ c0 c1 h104 n0 O105 UT f106) hZ (hw _ (List.mem_of_getElem? (i := 77) rfl)) (hw _ (List.mem_of_getElem? (i := 65) rfl)) (by decide) (by decide)) e104 (by decide) (by decide) (g := (mkF m 23 #[.val (.ref a1), .val (.int (0 : Int32)), .val (.int (2 : Int32)), .val (.ref b101), .val (.int (1 : Int32)), .unset] [(.int (2 : Int32)), (.int (0 : Int32)), (.ref a1)])) rfl (by rw [hml]; rfl) (argsL := [(.ref a1), (.int (0 : Int32)), (.int (2 : Int32))]) (rest := []) (lenOf pd__28_5bCII_29_5bB rfl) rfl rfl (by show 2 * 0 + _ ≤ _; exact Nat.le_of_eq rfl) (hb hby d14_23)
  obtain ⟨N107q, b107, k107, rfl, K107, zb107, zc107, V107⟩ := q107
  refine own_st st107 ?_
  have zK107 := K107.1
  have N107 := Fr.app N104 N107q
  show own_Go p e below s _ _ _ (T107.setTop (mkF m 26 #[.val (.ref a1), .val (.int (0 : Int32)), .val (.int (2 : Int32)), .val (.ref b101), .val (.int (1 : Int32)), .unset] [(.ref b107)]))
  refine own_st (fun _ k => XS.astore X107.here hx rfl (hb hby d14_26) rfl rfl (l' := #[.val (.ref a1), .val (.int (0 : Int32)), .val (.int (2 : Int32)), .val (.ref b101), .val (.int (1 : Int32)), .val (.ref b107)]) rfl k) ?_
  show own_Go p e below s _ _ _ (T107.setTop (mkF m 28 #[.val (.ref a1), .val (.int (0 : Int32)), .val (.int (2 : Int32)), .val (.ref b101), .val (.int (1 : Int32)), .val (.ref b107)] []))
  refine own_st (fun _ k => XS.aload X107.here hx rfl (hb hby d14_28) rfl rfl k) ?_
  show own_Go p e below s _ _ _ (T107.setTop (mkF m 30 #[.val (.ref a1), .val (.int (0 : Int32)), .val (.int (2 : Int32)), .val (.ref b101), .val (.int (1 : Int32)), .val (.ref b107)] [(.ref b107)]))
  refine own_st (fun _ k => XS.iload X107.here hx rfl (hb hby d14_30) rfl k) ?_
  show own_Go p e below s _ _ _ (T107.setTop (mkF m 32 #[.val (.ref a1), .val (.int (0 : Int32)), .val (.int (2 : Int32)), .val (.ref b101), .val (.int (1 : Int32)), .val (.ref b107)] [(.int (1 : Int32)), (.ref b107)]))
  have O108 : Old Z n0 h107 := O105.keep ((Keep.refl h104 []).trans K107 all0) all0
  obtain ⟨T109, v109, L109, h109, X109, e109, q109, st109⟩ := own_callS X107 hx hZ (y := (⟨"java/lang/StringUTF16", "getChar", "([BI)C"⟩ : MethodName)) hown (hw _ (List.mem_of_getElem? (i := 91) rfl)) (hw _ (List.mem_of_getElem? (i := 92) rfl)) (hw _ (List.mem_of_getElem? (i := 65) rfl)) (hw _ (List.mem_of_getElem? (i := 93) rfl)) (by decide) (own_bk (W := 0) (gc16 l Z a0 hw b107 _ [c0, c1] 1 h107 n0 O108 UT (by decide : 1 < 2) (by decide : 2 ≤ 2) (own_allC hc0 (own_all1 hc1)) V107) hZ (hw _ (List.mem_of_getElem? (i := 93) rfl)) (hw _ (List.mem_of_getElem? (i := 65) rfl)) (by decide) (by decide)) e107 (by decide) (by decide) (g := (mkF m 32 #[.val (.ref a1), .val (.int (0 : Int32)), .val (.int (2 : Int32)), .val (.ref b101), .val (.int (1 : Int32)), .val (.ref b107)] [(.int (1 : Int32)), (.ref b107)])) rfl (by rw [hml]; rfl) (argsL := [(.ref b107), (.int (1 : Int32))]) (rest := []) (lenOf pd__28_5bBI_29C rfl) rfl rfl (by show 2 * 0 + _ ≤ _; exact Nat.le_of_eq rfl) (hb hby d14_32)
  obtain ⟨rfl, N109q, hq109⟩ := q109
  replace e109 := e109.trans hq109
  refine own_st st109 ?_
  have N109 := Fr.app N107 N109q
  show own_Go p e below s _ _ _ (T109.setTop (mkF m 35 #[.val (.ref a1), .val (.int (0 : Int32)), .val (.int (2 : Int32)), .val (.ref b101), .val (.int (1 : Int32)), .val (.ref b107)] [(.int ([c0, c1].getD 1 0))]))
  refine own_st (fun _ k => XS.sipush X109.here hx rfl (hb hby d14_35) k) ?_
  show own_Go p e below s _ _ _ (T109.setTop (mkF m 38 #[.val (.ref a1), .val (.int (0 : Int32)), .val (.int (2 : Int32)), .val (.ref b101), .val (.int (1 : Int32)), .val (.ref b107)] [(.int (255 : Int32)), (.int ([c0, c1].getD 1 0))]))
  refine own_st (fun _ k => XS.icmpYes X109.here hx rfl (pc0 := 38) (pc' := 54) rfl (hb hby d14_38) rfl (tlt (show (255 : Int32) < c1 from hw1)).2.2.1 (by decide) (by decide) k) ?_
  show own_Go p e below s _ _ _ (T109.setTop (mkF m 54 #[.val (.ref a1), .val (.int (0 : Int32)), .val (.int (2 : Int32)), .val (.ref b101), .val (.int (1 : Int32)), .val (.ref b107)] []))
  refine own_st (fun _ k => XS.aload X109.here hx rfl (hb hby d14_54) rfl rfl k) ?_
  show own_Go p e below s _ _ _ (T109.setTop (mkF m 56 #[.val (.ref a1), .val (.int (0 : Int32)), .val (.int (2 : Int32)), .val (.ref b101), .val (.int (1 : Int32)), .val (.ref b107)] [(.ref b107)]))
  exact own_ret X109 hx hlk e109 hret rfl (Or.inr (Or.inr (Or.inr (Or.inr ⟨rfl, rfl, rfl⟩)))) (hb hby d14_56) (by decide) (by decide) ⟨N109, b107, _, rfl, ((((Keep.refl h0 []).trans K101 all0).trans K104 (allS (Or.inr (by omega)) all0)).trans K107 all0), by omega, V107.lt, V107⟩
theorem d16_0 : decode jdk_52_method_15_code 0 = .ok (.iload_n 1, 1) := by decide +kernel
theorem d16_1 : decode jdk_52_method_15_code 1 = .ok (.aload_n 0, 1) := by decide +kernel
theorem d16_2 : decode jdk_52_method_15_code 2 = .ok (.arraylength, 1) := by decide +kernel
theorem d16_3 : decode jdk_52_method_15_code 3 = .ok (.isub, 1) := by decide +kernel
theorem d16_4 : decode jdk_52_method_15_code 4 = .ok (.bipush 31, 2) := by decide +kernel
theorem d16_6 : decode jdk_52_method_15_code 6 = .ok (.iushr, 1) := by decide +kernel
theorem d16_7 : decode jdk_52_method_15_code 7 = .ok (.i2b, 1) := by decide +kernel
theorem d16_8 : decode jdk_52_method_15_code 8 = .ok (.ireturn, 1) := by decide +kernel
theorem ef_cd1 (m : MethodId) (x0 : Addr) (x1 : Int32) : entryFrame m #[(.ref x0), (.int x1)] 2 = mkF m 0 #[.val (.ref x0), .val (.int x1)] [] := by (first | (simp [entryFrame, mkF, argsToLocals, Value.category]; done) | rfl)
abbrev cd1R : Room := { frames := 0, cells := 0, slots := 0, locals := 0 }
set_option maxRecDepth 65536 in
set_option maxHeartbeats 40000000 in
theorem cd1 (l : Launch) (Z : State) (a0 : Array Value) (hw : ∀ d ∈ tables_1, d.before a0 Z = true) (a1 : Nat) (k1 : ClassId) (vs : List Value) (h0 : Heap) (n0 : Nat) (O0 : Old Z n0 h0) (V1 : Arv Z h0 a1 k1 .byte 2 vs (.int 0)) :
    own_C l Z (⟨"java/lang/StringUTF16", "coderFromArrayLen", "([BI)B"⟩ : MethodName) jdk_52_method_15_code 2 (some .byte) [] cd1R #[(.ref a1), (.int (1 : Int32))] h0 (fun v h L => v = some (.int 1) ∧ Fr n0 L ∧ h = h0) := by
  refine own_body (plainFor_of_name pn_java_lang_StringUTF16) ?_
  intro p e s m below meth c T0 X0 hx hby hml hZ hown hnm hret hlk e0
  have N0 := Fr.nil n0
  have zO := own_old O0
  refine own_st (fun _ k => castTop (ef_cd1 m a1 (1 : Int32)) k) ?_
  show own_Go p e below s _ _ _ (T0.setTop (mkF m 0 #[.val (.ref a1), .val (.int (1 : Int32))] []))
  refine own_st (fun _ k => XS.iloadN X0.here hx rfl (hb hby d16_0) rfl k) ?_
  show own_Go p e below s _ _ _ (T0.setTop (mkF m 1 #[.val (.ref a1), .val (.int (1 : Int32))] [(.int (1 : Int32))]))
  refine own_st (fun _ k => XS.aloadN X0.here hx rfl (hb hby d16_1) rfl rfl k) ?_
  show own_Go p e below s _ _ _ (T0.setTop (mkF m 2 #[.val (.ref a1), .val (.int (1 : Int32))] [(.ref a1), (.int (1 : Int32))]))
  obtain ⟨c101, Ar101, q101, S101, M101, H101, U101⟩ := id V1
  refine own_st (X0.arraylength hx (by rw [e0]; exact Ar101.1) (State.isArrayOf_alike hZ.alike Ar101.2.1) (g := (mkF m 2 #[.val (.ref a1), .val (.int (1 : Int32))] [(.ref a1), (.int (1 : Int32))])) rfl rfl (hb hby d16_2)) ?_
  rw [len_of S101 M101]
  show own_Go p e below s _ _ _ (T0.setTop (mkF m 3 #[.val (.ref a1), .val (.int (1 : Int32))] [(.int (2 : Int32)), (.int (1 : Int32))]))
  refine own_st (fun _ k => XS.isub X0.here hx rfl (hb hby d16_3) rfl k) ?_
  show own_Go p e below s _ _ _ (T0.setTop (mkF m 4 #[.val (.ref a1), .val (.int (1 : Int32))] [(.int ((1 : Int32) - (2 : Int32)))]))
  refine own_st (fun _ k => XS.bipush X0.here hx rfl (hb hby d16_4) k) ?_
  show own_Go p e below s _ _ _ (T0.setTop (mkF m 6 #[.val (.ref a1), .val (.int (1 : Int32))] [(.int (31 : Int32)), (.int ((1 : Int32) - (2 : Int32)))]))
  refine own_st (fun _ k => XS.iushr X0.here hx rfl (hb hby d16_6) rfl k) ?_
  show own_Go p e below s _ _ _ (T0.setTop (mkF m 7 #[.val (.ref a1), .val (.int (1 : Int32))] [(.int ((((1 : Int32) - (2 : Int32)).toUInt32 >>> ((31 : Int32) &&& 31).toUInt32).toInt32))]))
  refine own_st (fun _ k => XS.i2b X0.here hx rfl (hb hby d16_7) rfl k) ?_
  show own_Go p e below s _ _ _ (T0.setTop (mkF m 8 #[.val (.ref a1), .val (.int (1 : Int32))] [(.int (((((1 : Int32) - (2 : Int32)).toUInt32 >>> ((31 : Int32) &&& 31).toUInt32).toInt32).toInt8.toInt32))]))
  rw [(by decide : (((((1 : Int32) - (2 : Int32)).toUInt32 >>> ((31 : Int32) &&& 31).toUInt32).toInt32).toInt8.toInt32) = (1 : Int32))]
  show own_Go p e below s _ _ _ (T0.setTop (mkF m 8 #[.val (.ref a1), .val (.int (1 : Int32))] [(.int (1 : Int32))]))
  exact own_ret X0 hx hlk e0 hret (by decide) (Or.inl ⟨rfl, Or.inr (Or.inr (Or.inl rfl)), _, rfl⟩) (hb hby d16_8) (by decide) (by decide) ⟨rfl, N0, rfl⟩
theorem ef_cd2 (m : MethodId) (x0 : Addr) (x1 : Int32) : entryFrame m #[(.ref x0), (.int x1)] 2 = mkF m 0 #[.val (.ref x0), .val (.int x1)] [] := by (first | (simp [entryFrame, mkF, argsToLocals, Value.category]; done) | rfl)
abbrev cd2R : Room := { frames := 0, cells := 0, slots := 0, locals := 0 }
set_option maxRecDepth 65536 in
set_option maxHeartbeats 40000000 in
theorem cd2 (l : Launch) (Z : State) (a0 : Array Value) (hw : ∀ d ∈ tables_1, d.before a0 Z = true) (a1 : Nat) (k1 : ClassId) (vs : List Value) (h0 : Heap) (n0 : Nat) (O0 : Old Z n0 h0) (V1 : Arv Z h0 a1 k1 .byte 4 vs (.int 0)) :
    own_C l Z (⟨"java/lang/StringUTF16", "coderFromArrayLen", "([BI)B"⟩ : MethodName) jdk_52_method_15_code 2 (some .byte) [] cd2R #[(.ref a1), (.int (2 : Int32))] h0 (fun v h L => v = some (.int 1) ∧ Fr n0 L ∧ h = h0) := by
  refine own_body (plainFor_of_name pn_java_lang_StringUTF16) ?_
  intro p e s m below meth c T0 X0 hx hby hml hZ hown hnm hret hlk e0
  have N0 := Fr.nil n0
  have zO := own_old O0
  refine own_st (fun _ k => castTop (ef_cd2 m a1 (2 : Int32)) k) ?_
  show own_Go p e below s _ _ _ (T0.setTop (mkF m 0 #[.val (.ref a1), .val (.int (2 : Int32))] []))
  refine own_st (fun _ k => XS.iloadN X0.here hx rfl (hb hby d16_0) rfl k) ?_
  show own_Go p e below s _ _ _ (T0.setTop (mkF m 1 #[.val (.ref a1), .val (.int (2 : Int32))] [(.int (2 : Int32))]))
  refine own_st (fun _ k => XS.aloadN X0.here hx rfl (hb hby d16_1) rfl rfl k) ?_
  show own_Go p e below s _ _ _ (T0.setTop (mkF m 2 #[.val (.ref a1), .val (.int (2 : Int32))] [(.ref a1), (.int (2 : Int32))]))
  obtain ⟨c101, Ar101, q101, S101, M101, H101, U101⟩ := id V1
  refine own_st (X0.arraylength hx (by rw [e0]; exact Ar101.1) (State.isArrayOf_alike hZ.alike Ar101.2.1) (g := (mkF m 2 #[.val (.ref a1), .val (.int (2 : Int32))] [(.ref a1), (.int (2 : Int32))])) rfl rfl (hb hby d16_2)) ?_
  rw [len_of S101 M101]
  show own_Go p e below s _ _ _ (T0.setTop (mkF m 3 #[.val (.ref a1), .val (.int (2 : Int32))] [(.int (4 : Int32)), (.int (2 : Int32))]))
  refine own_st (fun _ k => XS.isub X0.here hx rfl (hb hby d16_3) rfl k) ?_
  show own_Go p e below s _ _ _ (T0.setTop (mkF m 4 #[.val (.ref a1), .val (.int (2 : Int32))] [(.int ((2 : Int32) - (4 : Int32)))]))
  refine own_st (fun _ k => XS.bipush X0.here hx rfl (hb hby d16_4) k) ?_
  show own_Go p e below s _ _ _ (T0.setTop (mkF m 6 #[.val (.ref a1), .val (.int (2 : Int32))] [(.int (31 : Int32)), (.int ((2 : Int32) - (4 : Int32)))]))
  refine own_st (fun _ k => XS.iushr X0.here hx rfl (hb hby d16_6) rfl k) ?_
  show own_Go p e below s _ _ _ (T0.setTop (mkF m 7 #[.val (.ref a1), .val (.int (2 : Int32))] [(.int ((((2 : Int32) - (4 : Int32)).toUInt32 >>> ((31 : Int32) &&& 31).toUInt32).toInt32))]))
  refine own_st (fun _ k => XS.i2b X0.here hx rfl (hb hby d16_7) rfl k) ?_
  show own_Go p e below s _ _ _ (T0.setTop (mkF m 8 #[.val (.ref a1), .val (.int (2 : Int32))] [(.int (((((2 : Int32) - (4 : Int32)).toUInt32 >>> ((31 : Int32) &&& 31).toUInt32).toInt32).toInt8.toInt32))]))
  rw [(by decide : (((((2 : Int32) - (4 : Int32)).toUInt32 >>> ((31 : Int32) &&& 31).toUInt32).toInt32).toInt8.toInt32) = (1 : Int32))]
  show own_Go p e below s _ _ _ (T0.setTop (mkF m 8 #[.val (.ref a1), .val (.int (2 : Int32))] [(.int (1 : Int32))]))
  exact own_ret X0 hx hlk e0 hret (by decide) (Or.inl ⟨rfl, Or.inr (Or.inr (Or.inl rfl)), _, rfl⟩) (hb hby d16_8) (by decide) (by decide) ⟨rfl, N0, rfl⟩
theorem d4_0 : decode jdk_42_method_149_code 0 = .ok (.aload_n 0, 1) := by decide +kernel
theorem d4_1 : decode jdk_42_method_149_code 1 = .ok (.invokespecial 1, 3) := by decide +kernel
theorem d4_4 : decode jdk_42_method_149_code 4 = .ok (.iload_n 3, 1) := by decide +kernel
theorem d4_5 : decode jdk_42_method_149_code 5 = .ok (.ifCond .ne 22, 3) := by decide +kernel
theorem d4_27 : decode jdk_42_method_149_code 27 = .ok (.getstatic 38, 3) := by decide +kernel
theorem d4_30 : decode jdk_42_method_149_code 30 = .ok (.ifCond .eq 28, 3) := by decide +kernel
theorem d4_33 : decode jdk_42_method_149_code 33 = .ok (.aload_n 1, 1) := by decide +kernel
theorem d4_34 : decode jdk_42_method_149_code 34 = .ok (.iload_n 2, 1) := by decide +kernel
theorem d4_35 : decode jdk_42_method_149_code 35 = .ok (.iload_n 3, 1) := by decide +kernel
theorem d4_36 : decode jdk_42_method_149_code 36 = .ok (.invokestatic 177, 3) := by decide +kernel
theorem d4_39 : decode jdk_42_method_149_code 39 = .ok (.astore 5, 2) := by decide +kernel
theorem d4_41 : decode jdk_42_method_149_code 41 = .ok (.aload_n 0, 1) := by decide +kernel
theorem d4_42 : decode jdk_42_method_149_code 42 = .ok (.aload 5, 2) := by decide +kernel
theorem d4_44 : decode jdk_42_method_149_code 44 = .ok (.iload_n 3, 1) := by decide +kernel
theorem pd__28_5bBI_29B : parseMethodDescriptor "([BI)B" = some ⟨[(.array .byte), .int], some .byte⟩ := by decide +kernel
theorem d4_45 : decode jdk_42_method_149_code 45 = .ok (.invokestatic 47, 3) := by decide +kernel
theorem d4_48 : decode jdk_42_method_149_code 48 = .ok (.putfield 15, 3) := by decide +kernel
theorem d4_51 : decode jdk_42_method_149_code 51 = .ok (.aload_n 0, 1) := by decide +kernel
theorem d4_52 : decode jdk_42_method_149_code 52 = .ok (.aload 5, 2) := by decide +kernel
theorem d4_54 : decode jdk_42_method_149_code 54 = .ok (.putfield 9, 3) := by decide +kernel
theorem d4_57 : decode jdk_42_method_149_code 57 = .ok (.return_, 1) := by decide +kernel
theorem pn_java_lang_String : plainName "java/lang/String" = true := by first | (simp [plainName, overriddenIn]; done) | decide +kernel
theorem ef_iv10 (m : MethodId) (x0 : Addr) (x1 : Addr) (x2 : Int32) (x3 : Int32) : entryFrame m #[(.ref x0), (.ref x1), (.int x2), (.int x3), .null] 6 = mkF m 0 #[.val (.ref x0), .val (.ref x1), .val (.int x2), .val (.int x3), .val .null, .unset] [] := by (first | (simp [entryFrame, mkF, argsToLocals, Value.category]; done) | rfl)
abbrev iv10R : Room := { frames := 4, cells := 2, slots := 3, locals := 57 }
set_option maxRecDepth 65536 in
set_option maxHeartbeats 40000000 in
theorem iv10 (l : Launch) (Z : State) (a0 : Array Value) (hw : ∀ d ∈ tables_1, d.before a0 Z = true) (a0_ a1 : Nat) (k1 : ClassId) (u1 u2 : Value) (c0 : Int32) (h0 : Heap) (n0 : Nat) (O0 : Old Z n0 h0) (CS : own_CS Z) (UT : own_U16 Z) (hc0 : ¬ c0 < 0 ∧ ¬ (65535 : Int32) < c0)  (hw0 : (255 : Int32) < c0) (E1 : Exa Z h0 a0_ "java/lang/String") (g1 : n0 ≤ a0_) (F1 : Fld Z h0 a0_ "java/lang/String" "value" "[B" u1) (F2 : Fld Z h0 a0_ "java/lang/String" "coder" "B" u2) (V1 : Arv Z h0 a1 k1 .char 1 [.int c0] (.int 0)) :
    own_C l Z (⟨"java/lang/String", "<init>", "([CIILjava/lang/Void;)V"⟩ : MethodName) jdk_42_method_149_code 6 none [] iv10R #[(.ref a0_), (.ref a1), (.int (0 : Int32)), (.int (1 : Int32)), .null] h0 (fun v h L => v = none ∧ Fr n0 L ∧ Keep h0 h [a0_] ∧ own_Str Z h a0_ [c0]) := by
  refine own_body (plainFor_of_name pn_java_lang_String) ?_
  intro p e s m below meth c T0 X0 hx hby hml hZ hown hnm hret hlk e0
  have N0 := Fr.nil n0
  have zO := own_old O0
  obtain ⟨zc, Sc, hzc⟩ := id CS
  have la1 : a1 < h0.size := V1.lt
  have la0 : a0_ < h0.size := E1.lt
  refine own_st (fun _ k => castTop (ef_iv10 m a0_ a1 (0 : Int32) (1 : Int32)) k) ?_
  show own_Go p e below s _ _ _ (T0.setTop (mkF m 0 #[.val (.ref a0_), .val (.ref a1), .val (.int (0 : Int32)), .val (.int (1 : Int32)), .val .null, .unset] []))
  refine own_st (fun _ k => XS.aloadN X0.here hx rfl (hb hby d4_0) rfl rfl k) ?_
  show own_Go p e below s _ _ _ (T0.setTop (mkF m 1 #[.val (.ref a0_), .val (.ref a1), .val (.int (0 : Int32)), .val (.int (1 : Int32)), .val .null, .unset] [(.ref a0_)]))
  obtain ⟨T101, X101, e101, st101⟩ := initO X0 hx hZ hown (hw _ (List.mem_of_getElem? (i := 19) rfl)) (hw _ (List.mem_of_getElem? (i := 20) rfl)) (hw _ (List.mem_of_getElem? (i := 21) rfl)) e0 (g := (mkF m 1 #[.val (.ref a0_), .val (.ref a1), .val (.int (0 : Int32)), .val (.int (1 : Int32)), .val .null, .unset] [(.ref a0_)])) rfl (by rw [hml]; rfl) rfl (hb hby d4_1) (by decide) (W := 0) (by show 2 * 0 + _ ≤ _; exact Nat.le_of_eq rfl) (by decide)
  refine own_st st101 ?_
  show own_Go p e below s _ _ _ (T101.setTop (mkF m 4 #[.val (.ref a0_), .val (.ref a1), .val (.int (0 : Int32)), .val (.int (1 : Int32)), .val .null, .unset] []))
  refine own_st (fun _ k => XS.iloadN X101.here hx rfl (hb hby d4_4) rfl k) ?_
  show own_Go p e below s _ _ _ (T101.setTop (mkF m 5 #[.val (.ref a0_), .val (.ref a1), .val (.int (0 : Int32)), .val (.int (1 : Int32)), .val .null, .unset] [(.int (1 : Int32))]))
  refine own_st (fun _ k => XS.ifYes X101.here hx rfl (pc0 := 5) (pc' := 27) rfl (hb hby d4_5) rfl ((if0 _ _).trans (feq (by decide)).2) (by decide) (by decide) k) ?_
  show own_Go p e below s _ _ _ (T101.setTop (mkF m 27 #[.val (.ref a0_), .val (.ref a1), .val (.int (0 : Int32)), .val (.int (1 : Int32)), .val .null, .unset] []))
  obtain ⟨T102, X102, e102, st102⟩ := getS2 X101 hx hZ hown (host := "") (Or.inl (hw _ (List.mem_of_getElem? (i := 51) rfl))) Via.refl e101 (Sc.ext O0.2) (g := (mkF m 27 #[.val (.ref a0_), .val (.ref a1), .val (.int (0 : Int32)), .val (.int (1 : Int32)), .val .null, .unset] [])) rfl (hb hby d4_27)
  refine own_st st102 ?_
  show own_Go p e below s _ _ _ (T102.setTop (mkF m 30 #[.val (.ref a0_), .val (.ref a1), .val (.int (0 : Int32)), .val (.int (1 : Int32)), .val .null, .unset] [(.int zc)]))
  refine own_st (fun _ k => XS.ifNo X102.here hx rfl (hb hby d4_30) rfl ((if0 _ _).trans (feq hzc).1) k) ?_
  show own_Go p e below s _ _ _ (T102.setTop (mkF m 33 #[.val (.ref a0_), .val (.ref a1), .val (.int (0 : Int32)), .val (.int (1 : Int32)), .val .null, .unset] []))
  refine own_st (fun _ k => XS.aloadN X102.here hx rfl (hb hby d4_33) rfl rfl k) ?_
  show own_Go p e below s _ _ _ (T102.setTop (mkF m 34 #[.val (.ref a0_), .val (.ref a1), .val (.int (0 : Int32)), .val (.int (1 : Int32)), .val .null, .unset] [(.ref a1)]))
  refine own_st (fun _ k => XS.iloadN X102.here hx rfl (hb hby d4_34) rfl k) ?_
  show own_Go p e below s _ _ _ (T102.setTop (mkF m 35 #[.val (.ref a0_), .val (.ref a1), .val (.int (0 : Int32)), .val (.int (1 : Int32)), .val .null, .unset] [(.int (0 : Int32)), (.ref a1)]))
  refine own_st (fun _ k => XS.iloadN X102.here hx rfl (hb hby d4_35) rfl k) ?_
  show own_Go p e below s _ _ _ (T102.setTop (mkF m 36 #[.val (.ref a0_), .val (.ref a1), .val (.int (0 : Int32)), .val (.int (1 : Int32)), .val .null, .unset] [(.int (1 : Int32)), (.int (0 : Int32)), (.ref a1)]))
  obtain ⟨T103, v103, L103, h103, X103, e103, q103, st103⟩ := own_callS X102 hx hZ (y := (⟨"java/lang/StringUTF16", "compress", "([CII)[B"⟩ : MethodName)) hown (hw _ (List.mem_of_getElem? (i := 63) rfl)) (hw _ (List.mem_of_getElem? (i := 64) rfl)) (hw _ (List.mem_of_getElem? (i := 65) rfl)) (hw _ (List.mem_of_getElem? (i := 66) rfl)) (by decide) (own_bk (W := 0) (ct10 l Z a0 hw a1 _ c0 h0 n0 O0 UT hc0 hw0 V1) hZ (hw _ (List.mem_of_getElem? (i := 66) rfl)) (hw _ (List.mem_of_getElem? (i := 65) rfl)) (by decide) (by decide)) e102 (by decide) (by decide) (g := (mkF m 36 #[.val (.ref a0_), .val (.ref a1), .val (.int (0 : Int32)), .val (.int (1 : Int32)), .val .null, .unset] [(.int (1 : Int32)), (.int (0 : Int32)), (.ref a1)])) rfl (by rw [hml]; rfl) (argsL := [(.ref a1), (.int (0 : Int32)), (.int (1 : Int32))]) (rest := []) (lenOf pd__28_5bCII_29_5bB rfl) rfl rfl (by show 2 * 0 + _ ≤ _; exact Nat.le_of_eq rfl) (hb hby d4_36)
  obtain ⟨N103q, b103, k103, rfl, K103, zb103, zc103, V103⟩ := q103
  refine own_st st103 ?_
  have zK103 := K103.1
  have N103 := Fr.app N0 N103q
  show own_Go p e below s _ _ _ (T103.setTop (mkF m 39 #[.val (.ref a0_), .val (.ref a1), .val (.int (0 : Int32)), .val (.int (1 : Int32)), .val .null, .unset] [(.ref b103)]))
  refine own_st (fun _ k => XS.astore X103.here hx rfl (hb hby d4_39) rfl rfl (l' := #[.val (.ref a0_), .val (.ref a1), .val (.int (0 : Int32)), .val (.int (1 : Int32)), .val .null, .val (.ref b103)]) rfl k) ?_
  show own_Go p e below s _ _ _ (T103.setTop (mkF m 41 #[.val (.ref a0_), .val (.ref a1), .val (.int (0 : Int32)), .val (.int (1 : Int32)), .val .null, .val (.ref b103)] []))
  refine own_st (fun _ k => XS.aloadN X103.here hx rfl (hb hby d4_41) rfl rfl k) ?_
  show own_Go p e below s _ _ _ (T103.setTop (mkF m 42 #[.val (.ref a0_), .val (.ref a1), .val (.int (0 : Int32)), .val (.int (1 : Int32)), .val .null, .val (.ref b103)] [(.ref a0_)]))
  refine own_st (fun _ k => XS.aload X103.here hx rfl (hb hby d4_42) rfl rfl k) ?_
  show own_Go p e below s _ _ _ (T103.setTop (mkF m 44 #[.val (.ref a0_), .val (.ref a1), .val (.int (0 : Int32)), .val (.int (1 : Int32)), .val .null, .val (.ref b103)] [(.ref b103), (.ref a0_)]))
  refine own_st (fun _ k => XS.iloadN X103.here hx rfl (hb hby d4_44) rfl k) ?_
  show own_Go p e below s _ _ _ (T103.setTop (mkF m 45 #[.val (.ref a0_), .val (.ref a1), .val (.int (0 : Int32)), .val (.int (1 : Int32)), .val .null, .val (.ref b103)] [(.int (1 : Int32)), (.ref b103), (.ref a0_)]))
  have O104 : Old Z n0 h103 := O0.keep ((Keep.refl h0 []).trans K103 all0) all0
  obtain ⟨T105, v105, L105, h105, X105, e105, q105, st105⟩ := own_callS X103 hx hZ (y := (⟨"java/lang/StringUTF16", "coderFromArrayLen", "([BI)B"⟩ : MethodName)) hown (hw _ (List.mem_of_getElem? (i := 70) rfl)) (hw _ (List.mem_of_getElem? (i := 71) rfl)) (hw _ (List.mem_of_getElem? (i := 65) rfl)) (hw _ (List.mem_of_getElem? (i := 72) rfl)) (by decide) (own_bk (W := 1) (cd1 l Z a0 hw b103 _ _ h103 n0 O104 V103) hZ (hw _ (List.mem_of_getElem? (i := 72) rfl)) (hw _ (List.mem_of_getElem? (i := 65) rfl)) (by decide) (by decide)) e103 (by decide) (by decide) (g := (mkF m 45 #[.val (.ref a0_), .val (.ref a1), .val (.int (0 : Int32)), .val (.int (1 : Int32)), .val .null, .val (.ref b103)] [(.int (1 : Int32)), (.ref b103), (.ref a0_)])) rfl (by rw [hml]; rfl) (argsL := [(.ref b103), (.int (1 : Int32))]) (rest := [(.ref a0_)]) (lenOf pd__28_5bBI_29B rfl) rfl rfl (by show 2 * 0 + _ ≤ _; exact Nat.le_of_eq rfl) (hb hby d4_45)
  obtain ⟨rfl, N105q, hq105⟩ := q105
  replace e105 := e105.trans hq105
  refine own_st st105 ?_
  have N105 := Fr.app N103 N105q
  show own_Go p e below s _ _ _ (T105.setTop (mkF m 48 #[.val (.ref a0_), .val (.ref a1), .val (.int (0 : Int32)), .val (.int (1 : Int32)), .val .null, .val (.ref b103)] [(.int (1 : Int32)), (.ref a0_)]))
  have f106 := (F2.keep ((Keep.refl h0 []).trans K103 all0) nin0)
  have f107 := (E1.keep ((Keep.refl h0 []).trans K103 all0))
  obtain ⟨T108, h108, X108, e108, W108, st108⟩ := putFN X105 hx hZ hown (hw _ (List.mem_of_getElem? (i := 29) rfl)) Via.refl e105 f106 f107 (Or.inr ⟨(hw _ (List.mem_of_getElem? (i := 25) rfl)), rfl, hnm⟩) (hw _ (List.mem_of_getElem? (i := 9) rfl)) (ty := .byte) (v' := (.int (1 : Int32))) (by decide) (by decide) (by decide) (g := (mkF m 48 #[.val (.ref a0_), .val (.ref a1), .val (.int (0 : Int32)), .val (.int (1 : Int32)), .val .null, .val (.ref b103)] [(.int (1 : Int32)), (.ref a0_)])) rfl rfl (hb hby d4_48)
  have F108 := f106.same W108
  have K108 := Keep.of_wr W108
  have N108 := Fr.snoc X108 N105 (by omega : n0 ≤ a0_)
  refine own_st st108 ?_
  have zK108 := K108.1
  show own_Go p e below s _ _ _ (T108.setTop (mkF m 51 #[.val (.ref a0_), .val (.ref a1), .val (.int (0 : Int32)), .val (.int (1 : Int32)), .val .null, .val (.ref b103)] []))
  refine own_st (fun _ k => XS.aloadN X108.here hx rfl (hb hby d4_51) rfl rfl k) ?_
  show own_Go p e below s _ _ _ (T108.setTop (mkF m 52 #[.val (.ref a0_), .val (.ref a1), .val (.int (0 : Int32)), .val (.int (1 : Int32)), .val .null, .val (.ref b103)] [(.ref a0_)]))
  refine own_st (fun _ k => XS.aload X108.here hx rfl (hb hby d4_52) rfl rfl k) ?_
  show own_Go p e below s _ _ _ (T108.setTop (mkF m 54 #[.val (.ref a0_), .val (.ref a1), .val (.int (0 : Int32)), .val (.int (1 : Int32)), .val .null, .val (.ref b103)] [(.ref b103), (.ref a0_)]))
  have f109 := ((F1.keep K103 nin0).other W108 (Or.inr (slot_ne (Or.inr (hw _ (List.mem_of_getElem? (i := 24) rfl))) (Or.inr (hw _ (List.mem_of_getElem? (i := 25) rfl))) (by decide) (t := (.array .byte)) (t' := .byte) (by decide) (by decide))))
  have f110 := (f107.keep ((Keep.refl h103 [a0_]).trans K108 (allS (Or.inl (by simp)) all0)))
  obtain ⟨T111, h111, X111, e111, W111, st111⟩ := putF X108 hx hZ hown (host := "") (Or.inl (hw _ (List.mem_of_getElem? (i := 28) rfl))) Via.refl e108 f109 f110 (Or.inr ⟨(hw _ (List.mem_of_getElem? (i := 24) rfl)), rfl, hnm⟩) (hw _ (List.mem_of_getElem? (i := 9) rfl)) (ty := (.array .byte)) (by decide) rfl rfl (g := (mkF m 54 #[.val (.ref a0_), .val (.ref a1), .val (.int (0 : Int32)), .val (.int (1 : Int32)), .val .null, .val (.ref b103)] [(.ref b103), (.ref a0_)])) rfl rfl (hb hby d4_54)
  have F111 := f109.same W111
  have K111 := Keep.of_wr W111
  have N111 := Fr.snoc X111 N108 (by omega : n0 ≤ a0_)
  refine own_st st111 ?_
  have zK111 := K111.1
  show own_Go p e below s _ _ _ (T111.setTop (mkF m 57 #[.val (.ref a0_), .val (.ref a1), .val (.int (0 : Int32)), .val (.int (1 : Int32)), .val .null, .val (.ref b103)] []))
  have f112 := (f110.keep ((Keep.refl h108 [a0_]).trans K111 (allS (Or.inl (by simp)) all0)))
  have f113 := (F108.other W111 (Or.inr (slot_ne (Or.inr (hw _ (List.mem_of_getElem? (i := 25) rfl))) (Or.inr (hw _ (List.mem_of_getElem? (i := 24) rfl))) (by decide) (t := .byte) (t' := (.array .byte)) (by decide) (by decide))))
  have f114 := (V103.keep (((Keep.refl h103 [a0_]).trans K108 (allS (Or.inl (by simp)) all0)).trans K111 (allS (Or.inl (by simp)) all0)) (own_ninS (by omega) nin0))
  exact own_retV X111 hx hlk e111 hret (hb hby d4_57) (by decide) (by decide) ⟨rfl, N111, ((((Keep.refl h0 [a0_]).trans K103 all0).trans K108 (allS (Or.inl (by simp)) all0)).trans K111 (allS (Or.inl (by simp)) all0)), f112, b103, _, 1, _, _, F111, f113, f114, Or.inr ⟨rfl, rfl, rfl, c0, by simp, hw0⟩, (own_all1 hc0), (show 1 ≤ 4000 from by decide)⟩
theorem d3_0 : decode jdk_42_method_3_code 0 = .ok (.aload_n 0, 1) := by decide +kernel
theorem d3_1 : decode jdk_42_method_3_code 1 = .ok (.aload_n 1, 1) := by decide +kernel
theorem d3_2 : decode jdk_42_method_3_code 2 = .ok (.iconst 0, 1) := by decide +kernel
theorem d3_3 : decode jdk_42_method_3_code 3 = .ok (.aload_n 1, 1) := by decide +kernel
theorem d3_4 : decode jdk_42_method_3_code 4 = .ok (.arraylength, 1) := by decide +kernel
theorem d3_5 : decode jdk_42_method_3_code 5 = .ok (.aconst_null, 1) := by decide +kernel
theorem pd__28_5bCIILjava_2flang_2fVoid_3b_29V : parseMethodDescriptor "([CIILjava/lang/Void;)V" = some ⟨[(.array .char), .int, .int, (.object "java/lang/Void")], none⟩ := by decide +kernel
theorem d3_6 : decode jdk_42_method_3_code 6 = .ok (.invokespecial 27, 3) := by decide +kernel
theorem d3_9 : decode jdk_42_method_3_code 9 = .ok (.return_, 1) := by decide +kernel
theorem ef_iu10 (m : MethodId) (x0 : Addr) (x1 : Addr) : entryFrame m #[(.ref x0), (.ref x1)] 2 = mkF m 0 #[.val (.ref x0), .val (.ref x1)] [] := by (first | (simp [entryFrame, mkF, argsToLocals, Value.category]; done) | rfl)
abbrev iu10R : Room := { frames := 5, cells := 2, slots := 3, locals := 74 }
set_option maxRecDepth 65536 in
set_option maxHeartbeats 40000000 in
theorem iu10 (l : Launch) (Z : State) (a0 : Array Value) (hw : ∀ d ∈ tables_1, d.before a0 Z = true) (a0_ a1 : Nat) (k1 : ClassId) (u1 u2 : Value) (c0 : Int32) (h0 : Heap) (n0 : Nat) (O0 : Old Z n0 h0) (CS : own_CS Z) (UT : own_U16 Z) (hc0 : ¬ c0 < 0 ∧ ¬ (65535 : Int32) < c0)  (hw0 : (255 : Int32) < c0) (E1 : Exa Z h0 a0_ "java/lang/String") (g1 : n0 ≤ a0_) (F1 : Fld Z h0 a0_ "java/lang/String" "value" "[B" u1) (F2 : Fld Z h0 a0_ "java/lang/String" "coder" "B" u2) (V1 : Arv Z h0 a1 k1 .char 1 [.int c0] (.int 0)) :
    own_C l Z (⟨"java/lang/String", "<init>", "([C)V"⟩ : MethodName) jdk_42_method_3_code 2 none [] iu10R #[(.ref a0_), (.ref a1)] h0 (fun v h L => v = none ∧ Fr n0 L ∧ Keep h0 h [a0_] ∧ own_Str Z h a0_ [c0]) := by
  refine own_body (plainFor_of_name pn_java_lang_String) ?_
  intro p e s m below meth c T0 X0 hx hby hml hZ hown hnm hret hlk e0
  have N0 := Fr.nil n0
  have zO := own_old O0
  refine own_st (fun _ k => castTop (ef_iu10 m a0_ a1) k) ?_
  show own_Go p e below s _ _ _ (T0.setTop (mkF m 0 #[.val (.ref a0_), .val (.ref a1)] []))
  refine own_st (fun _ k => XS.aloadN X0.here hx rfl (hb hby d3_0) rfl rfl k) ?_
  show own_Go p e below s _ _ _ (T0.setTop (mkF m 1 #[.val (.ref a0_), .val (.ref a1)] [(.ref a0_)]))
  refine own_st (fun _ k => XS.aloadN X0.here hx rfl (hb hby d3_1) rfl rfl k) ?_
  show own_Go p e below s _ _ _ (T0.setTop (mkF m 2 #[.val (.ref a0_), .val (.ref a1)] [(.ref a1), (.ref a0_)]))
  refine own_st (fun _ k => XS.iconst X0.here hx rfl (hb hby d3_2) k) ?_
  show own_Go p e below s _ _ _ (T0.setTop (mkF m 3 #[.val (.ref a0_), .val (.ref a1)] [(.int (0 : Int32)), (.ref a1), (.ref a0_)]))
  refine own_st (fun _ k => XS.aloadN X0.here hx rfl (hb hby d3_3) rfl rfl k) ?_
  show own_Go p e below s _ _ _ (T0.setTop (mkF m 4 #[.val (.ref a0_), .val (.ref a1)] [(.ref a1), (.int (0 : Int32)), (.ref a1), (.ref a0_)]))
  obtain ⟨c101, Ar101, q101, S101, M101, H101, U101⟩ := id V1
  refine own_st (X0.arraylength hx (by rw [e0]; exact Ar101.1) (State.isArrayOf_alike hZ.alike Ar101.2.1) (g := (mkF m 4 #[.val (.ref a0_), .val (.ref a1)] [(.ref a1), (.int (0 : Int32)), (.ref a1), (.ref a0_)])) rfl rfl (hb hby d3_4)) ?_
  rw [len_of S101 M101]
  show own_Go p e below s _ _ _ (T0.setTop (mkF m 5 #[.val (.ref a0_), .val (.ref a1)] [(.int (1 : Int32)), (.int (0 : Int32)), (.ref a1), (.ref a0_)]))
  refine own_st (fun _ k => XS.aconstNull X0.here hx rfl (hb hby d3_5) k) ?_
  show own_Go p e below s _ _ _ (T0.setTop (mkF m 6 #[.val (.ref a0_), .val (.ref a1)] [.null, (.int (1 : Int32)), (.int (0 : Int32)), (.ref a1), (.ref a0_)]))
  obtain ⟨T102, v102, L102, h102, X102, e102, q102, st102⟩ := own_callI X0 hx hZ (y := (⟨"java/lang/String", "<init>", "([CIILjava/lang/Void;)V"⟩ : MethodName)) rfl hown (hw _ (List.mem_of_getElem? (i := 15) rfl)) (hw _ (List.mem_of_getElem? (i := 16) rfl)) (hw _ (List.mem_of_getElem? (i := 18) rfl)) (by decide) (own_bk (W := 0) (iv10 l Z a0 hw a0_ a1 _ _ _ c0 h0 n0 O0 CS UT hc0 hw0 E1 (by omega) F1 F2 V1) hZ (hw _ (List.mem_of_getElem? (i := 18) rfl)) (hw _ (List.mem_of_getElem? (i := 10) rfl)) (by decide) (by decide)) e0 (by decide) (by decide) (g := (mkF m 6 #[.val (.ref a0_), .val (.ref a1)] [.null, (.int (1 : Int32)), (.int (0 : Int32)), (.ref a1), (.ref a0_)])) rfl (by rw [hml]; rfl) (a := a0_) (argsL := [(.ref a1), (.int (0 : Int32)), (.int (1 : Int32)), .null]) (rest := []) (lenOf pd__28_5bCIILjava_2flang_2fVoid_3b_29V rfl) rfl rfl (by show 2 * 0 + _ ≤ _; exact Nat.le_of_eq rfl) (hb hby d3_6)
  obtain ⟨rfl, N102q, K102, S102⟩ := q102
  refine own_st st102 ?_
  have zK102 := K102.1
  have N102 := Fr.app N0 N102q
  have A102 := S102.1
  show own_Go p e below s _ _ _ (T102.setTop (mkF m 9 #[.val (.ref a0_), .val (.ref a1)] []))
  exact own_retV X102 hx hlk e102 hret (hb hby d3_9) (by decide) (by decide) ⟨rfl, N102, ((Keep.refl h0 [a0_]).trans K102 (allS (Or.inl (by simp)) all0)), S102⟩
theorem ef_iv20 (m : MethodId) (x0 : Addr) (x1 : Addr) (x2 : Int32) (x3 : Int32) : entryFrame m #[(.ref x0), (.ref x1), (.int x2), (.int x3), .null] 6 = mkF m 0 #[.val (.ref x0), .val (.ref x1), .val (.int x2), .val (.int x3), .val .null, .unset] [] := by (first | (simp [entryFrame, mkF, argsToLocals, Value.category]; done) | rfl)
abbrev iv20R : Room := { frames := 4, cells := 2, slots := 6, locals := 57 }
set_option maxRecDepth 65536 in
set_option maxHeartbeats 40000000 in
theorem iv20 (l : Launch) (Z : State) (a0 : Array Value) (hw : ∀ d ∈ tables_1, d.before a0 Z = true) (a0_ a1 : Nat) (k1 : ClassId) (u1 u2 : Value) (c0 c1 : Int32) (h0 : Heap) (n0 : Nat) (O0 : Old Z n0 h0) (CS : own_CS Z) (UT : own_U16 Z) (hc0 : ¬ c0 < 0 ∧ ¬ (65535 : Int32) < c0) (hc1 : ¬ c1 < 0 ∧ ¬ (65535 : Int32) < c1)  (hw0 : (255 : Int32) < c0) (E1 : Exa Z h0 a0_ "java/lang/String") (g1 : n0 ≤ a0_) (F1 : Fld Z h0 a0_ "java/lang/String" "value" "[B" u1) (F2 : Fld Z h0 a0_ "java/lang/String" "coder" "B" u2) (V1 : Arv Z h0 a1 k1 .char 2 [.int c0, .int c1] (.int 0)) :
    own_C l Z (⟨"java/lang/String", "<init>", "([CIILjava/lang/Void;)V"⟩ : MethodName) jdk_42_method_149_code 6 none [] iv20R #[(.ref a0_), (.ref a1), (.int (0 : Int32)), (.int (2 : Int32)), .null] h0 (fun v h L => v = none ∧ Fr n0 L ∧ Keep h0 h [a0_] ∧ own_Str Z h a0_ [c0, c1]) := by
  refine own_body (plainFor_of_name pn_java_lang_String) ?_
  intro p e s m below meth c T0 X0 hx hby hml hZ hown hnm hret hlk e0
  have N0 := Fr.nil n0
  have zO := own_old O0
  obtain ⟨zc, Sc, hzc⟩ := id CS
  have la1 : a1 < h0.size := V1.lt
  have la0 : a0_ < h0.size := E1.lt
  refine own_st (fun _ k => castTop (ef_iv20 m a0_ a1 (0 : Int32) (2 : Int32)) k) ?_
  show own_Go p e below s _ _ _ (T0.setTop (mkF m 0 #[.val (.ref a0_), .val (.ref a1), .val (.int (0 : Int32)), .val (.int (2 : Int32)), .val .null, .unset] []))
  refine own_st (fun _ k => XS.aloadN X0.here hx rfl (hb hby d4_0) rfl rfl k) ?_
  show own_Go p e below s _ _ _ (T0.setTop (mkF m 1 #[.val (.ref a0_), .val (.ref a1), .val (.int (0 : Int32)), .val (.int (2 : Int32)), .val .null, .unset] [(.ref a0_)]))
  obtain ⟨T101, X101, e101, st101⟩ := initO X0 hx hZ hown (hw _ (List.mem_of_getElem? (i := 19) rfl)) (hw _ (List.mem_of_getElem? (i := 20) rfl)) (hw _ (List.mem_of_getElem? (i := 21) rfl)) e0 (g := (mkF m 1 #[.val (.ref a0_), .val (.ref a1), .val (.int (0 : Int32)), .val (.int (2 : Int32)), .val .null, .unset] [(.ref a0_)])) rfl (by rw [hml]; rfl) rfl (hb hby d4_1) (by decide) (W := 0) (by show 2 * 0 + _ ≤ _; exact Nat.le_of_eq rfl) (by decide)
  refine own_st st101 ?_
  show own_Go p e below s _ _ _ (T101.setTop (mkF m 4 #[.val (.ref a0_), .val (.ref a1), .val (.int (0 : Int32)), .val (.int (2 : Int32)), .val .null, .unset] []))
  refine own_st (fun _ k => XS.iloadN X101.here hx rfl (hb hby d4_4) rfl k) ?_
  show own_Go p e below s _ _ _ (T101.setTop (mkF m 5 #[.val (.ref a0_), .val (.ref a1), .val (.int (0 : Int32)), .val (.int (2 : Int32)), .val .null, .unset] [(.int (2 : Int32))]))
  refine own_st (fun _ k => XS.ifYes X101.here hx rfl (pc0 := 5) (pc' := 27) rfl (hb hby d4_5) rfl ((if0 _ _).trans (feq (by decide)).2) (by decide) (by decide) k) ?_
  show own_Go p e below s _ _ _ (T101.setTop (mkF m 27 #[.val (.ref a0_), .val (.ref a1), .val (.int (0 : Int32)), .val (.int (2 : Int32)), .val .null, .unset] []))
  obtain ⟨T102, X102, e102, st102⟩ := getS2 X101 hx hZ hown (host := "") (Or.inl (hw _ (List.mem_of_getElem? (i := 51) rfl))) Via.refl e101 (Sc.ext O0.2) (g := (mkF m 27 #[.val (.ref a0_), .val (.ref a1), .val (.int (0 : Int32)), .val (.int (2 : Int32)), .val .null, .unset] [])) rfl (hb hby d4_27)
  refine own_st st102 ?_
  show own_Go p e below s _ _ _ (T102.setTop (mkF m 30 #[.val (.ref a0_), .val (.ref a1), .val (.int (0 : Int32)), .val (.int (2 : Int32)), .val .null, .unset] [(.int zc)]))
  refine own_st (fun _ k => XS.ifNo X102.here hx rfl (hb hby d4_30) rfl ((if0 _ _).trans (feq hzc).1) k) ?_
  show own_Go p e below s _ _ _ (T102.setTop (mkF m 33 #[.val (.ref a0_), .val (.ref a1), .val (.int (0 : Int32)), .val (.int (2 : Int32)), .val .null, .unset] []))
  refine own_st (fun _ k => XS.aloadN X102.here hx rfl (hb hby d4_33) rfl rfl k) ?_
  show own_Go p e below s _ _ _ (T102.setTop (mkF m 34 #[.val (.ref a0_), .val (.ref a1), .val (.int (0 : Int32)), .val (.int (2 : Int32)), .val .null, .unset] [(.ref a1)]))
  refine own_st (fun _ k => XS.iloadN X102.here hx rfl (hb hby d4_34) rfl k) ?_
  show own_Go p e below s _ _ _ (T102.setTop (mkF m 35 #[.val (.ref a0_), .val (.ref a1), .val (.int (0 : Int32)), .val (.int (2 : Int32)), .val .null, .unset] [(.int (0 : Int32)), (.ref a1)]))
  refine own_st (fun _ k => XS.iloadN X102.here hx rfl (hb hby d4_35) rfl k) ?_
  show own_Go p e below s _ _ _ (T102.setTop (mkF m 36 #[.val (.ref a0_), .val (.ref a1), .val (.int (0 : Int32)), .val (.int (2 : Int32)), .val .null, .unset] [(.int (2 : Int32)), (.int (0 : Int32)), (.ref a1)]))
  obtain ⟨T103, v103, L103, h103, X103, e103, q103, st103⟩ := own_callS X102 hx hZ (y := (⟨"java/lang/StringUTF16", "compress", "([CII)[B"⟩ : MethodName)) hown (hw _ (List.mem_of_getElem? (i := 63) rfl)) (hw _ (List.mem_of_getElem? (i := 64) rfl)) (hw _ (List.mem_of_getElem? (i := 65) rfl)) (hw _ (List.mem_of_getElem? (i := 66) rfl)) (by decide) (own_bk (W := 0) (ct20 l Z a0 hw a1 _ c0 c1 h0 n0 O0 UT hc0 hc1 hw0 V1) hZ (hw _ (List.mem_of_getElem? (i := 66) rfl)) (hw _ (List.mem_of_getElem? (i := 65) rfl)) (by decide) (by decide)) e102 (by decide) (by decide) (g := (mkF m 36 #[.val (.ref a0_), .val (.ref a1), .val (.int (0 : Int32)), .val (.int (2 : Int32)), .val .null, .unset] [(.int (2 : Int32)), (.int (0 : Int32)), (.ref a1)])) rfl (by rw [hml]; rfl) (argsL := [(.ref a1), (.int (0 : Int32)), (.int (2 : Int32))]) (rest := []) (lenOf pd__28_5bCII_29_5bB rfl) rfl rfl (by show 2 * 0 + _ ≤ _; exact Nat.le_of_eq rfl) (hb hby d4_36)
  obtain ⟨N103q, b103, k103, rfl, K103, zb103, zc103, V103⟩ := q103
  refine own_st st103 ?_
  have zK103 := K103.1
  have N103 := Fr.app N0 N103q
  show own_Go p e below s _ _ _ (T103.setTop (mkF m 39 #[.val (.ref a0_), .val (.ref a1), .val (.int (0 : Int32)), .val (.int (2 : Int32)), .val .null, .unset] [(.ref b103)]))
  refine own_st (fun _ k => XS.astore X103.here hx rfl (hb hby d4_39) rfl rfl (l' := #[.val (.ref a0_), .val (.ref a1), .val (.int (0 : Int32)), .val (.int (2 : Int32)), .val .null, .val (.ref b103)]) rfl k) ?_
  show own_Go p e below s _ _ _ (T103.setTop (mkF m 41 #[.val (.ref a0_), .val (.ref a1), .val (.int (0 : Int32)), .val (.int (2 : Int32)), .val .null, .val (.ref b103)] []))
  refine own_st (fun _ k => XS.aloadN X103.here hx rfl (hb hby d4_41) rfl rfl k) ?_
  show own_Go p e below s _ _ _ (T103.setTop (mkF m 42 #[.val (.ref a0_), .val (.ref a1), .val (.int (0 : Int32)), .val (.int (2 : Int32)), .val .null, .val (.ref b103)] [(.ref a0_)]))
  refine own_st (fun _ k => XS.aload X103.here hx rfl (hb hby d4_42) rfl rfl k) ?_
  show own_Go p e below s _ _ _ (T103.setTop (mkF m 44 #[.val (.ref a0_), .val (.ref a1), .val (.int (0 : Int32)), .val (.int (2 : Int32)), .val .null, .val (.ref b103)] [(.ref b103), (.ref a0_)]))
  refine own_st (fun _ k => XS.iloadN X103.here hx rfl (hb hby d4_44) rfl k) ?_
  show own_Go p e below s _ _ _ (T103.setTop (mkF m 45 #[.val (.ref a0_), .val (.ref a1), .val (.int (0 : Int32)), .val (.int (2 : Int32)), .val .null, .val (.ref b103)] [(.int (2 : Int32)), (.ref b103), (.ref a0_)]))
  have O104 : Old Z n0 h103 := O0.keep ((Keep.refl h0 []).trans K103 all0) all0
  obtain ⟨T105, v105, L105, h105, X105, e105, q105, st105⟩ := own_callS X103 hx hZ (y := (⟨"java/lang/StringUTF16", "coderFromArrayLen", "([BI)B"⟩ : MethodName)) hown (hw _ (List.mem_of_getElem? (i := 70) rfl)) (hw _ (List.mem_of_getElem? (i := 71) rfl)) (hw _ (List.mem_of_getElem? (i := 65) rfl)) (hw _ (List.mem_of_getElem? (i := 72) rfl)) (by decide) (own_bk (W := 1) (cd2 l Z a0 hw b103 _ _ h103 n0 O104 V103) hZ (hw _ (List.mem_of_getElem? (i := 72) rfl)) (hw _ (List.mem_of_getElem? (i := 65) rfl)) (by decide) (by decide)) e103 (by decide) (by decide) (g := (mkF m 45 #[.val (.ref a0_), .val (.ref a1), .val (.int (0 : Int32)), .val (.int (2 : Int32)), .val .null, .val (.ref b103)] [(.int (2 : Int32)), (.ref b103), (.ref a0_)])) rfl (by rw [hml]; rfl) (argsL := [(.ref b103), (.int (2 : Int32))]) (rest := [(.ref a0_)]) (lenOf pd__28_5bBI_29B rfl) rfl rfl (by show 2 * 0 + _ ≤ _; exact Nat.le_of_eq rfl) (hb hby d4_45)
  obtain ⟨rfl, N105q, hq105⟩ := q105
  replace e105 := e105.trans hq105
  refine own_st st105 ?_
  have N105 := Fr.app N103 N105q
  show own_Go p e below s _ _ _ (T105.setTop (mkF m 48 #[.val (.ref a0_), .val (.ref a1), .val (.int (0 : Int32)), .val (.int (2 : Int32)), .val .null, .val (.ref b103)] [(.int (1 : Int32)), (.ref a0_)]))
  have f106 := (F2.keep ((Keep.refl h0 []).trans K103 all0) nin0)
  have f107 := (E1.keep ((Keep.refl h0 []).trans K103 all0))
  obtain ⟨T108, h108, X108, e108, W108, st108⟩ := putFN X105 hx hZ hown (hw _ (List.mem_of_getElem? (i := 29) rfl)) Via.refl e105 f106 f107 (Or.inr ⟨(hw _ (List.mem_of_getElem? (i := 25) rfl)), rfl, hnm⟩) (hw _ (List.mem_of_getElem? (i := 9) rfl)) (ty := .byte) (v' := (.int (1 : Int32))) (by decide) (by decide) (by decide) (g := (mkF m 48 #[.val (.ref a0_), .val (.ref a1), .val (.int (0 : Int32)), .val (.int (2 : Int32)), .val .null, .val (.ref b103)] [(.int (1 : Int32)), (.ref a0_)])) rfl rfl (hb hby d4_48)
  have F108 := f106.same W108
  have K108 := Keep.of_wr W108
  have N108 := Fr.snoc X108 N105 (by omega : n0 ≤ a0_)
  refine own_st st108 ?_
  have zK108 := K108.1
  show own_Go p e below s _ _ _ (T108.setTop (mkF m 51 #[.val (.ref a0_), .val (.ref a1), .val (.int (0 : Int32)), .val (.int (2 : Int32)), .val .null, .val (.ref b103)] []))
  refine own_st (fun _ k => XS.aloadN X108.here hx rfl (hb hby d4_51) rfl rfl k) ?_
  show own_Go p e below s _ _ _ (T108.setTop (mkF m 52 #[.val (.ref a0_), .val (.ref a1), .val (.int (0 : Int32)), .val (.int (2 : Int32)), .val .null, .val (.ref b103)] [(.ref a0_)]))
  refine own_st (fun _ k => XS.aload X108.here hx rfl (hb hby d4_52) rfl rfl k) ?_
  show own_Go p e below s _ _ _ (T108.setTop (mkF m 54 #[.val (.ref a0_), .val (.ref a1), .val (.int (0 : Int32)), .val (.int (2 : Int32)), .val .null, .val (.ref b103)] [(.ref b103), (.ref a0_)]))
  have f109 := ((F1.keep K103 nin0).other W108 (Or.inr (slot_ne (Or.inr (hw _ (List.mem_of_getElem? (i := 24) rfl))) (Or.inr (hw _ (List.mem_of_getElem? (i := 25) rfl))) (by decide) (t := (.array .byte)) (t' := .byte) (by decide) (by decide))))
  have f110 := (f107.keep ((Keep.refl h103 [a0_]).trans K108 (allS (Or.inl (by simp)) all0)))
  obtain ⟨T111, h111, X111, e111, W111, st111⟩ := putF X108 hx hZ hown (host := "") (Or.inl (hw _ (List.mem_of_getElem? (i := 28) rfl))) Via.refl e108 f109 f110 (Or.inr ⟨(hw _ (List.mem_of_getElem? (i := 24) rfl)), rfl, hnm⟩) (hw _ (List.mem_of_getElem? (i := 9) rfl)) (ty := (.array .byte)) (by decide) rfl rfl (g := (mkF m 54 #[.val (.ref a0_), .val (.ref a1), .val (.int (0 : Int32)), .val (.int (2 : Int32)), .val .null, .val (.ref b103)] [(.ref b103), (.ref a0_)])) rfl rfl (hb hby d4_54)
  have F111 := f109.same W111
  have K111 := Keep.of_wr W111
  have N111 := Fr.snoc X111 N108 (by omega : n0 ≤ a0_)
  refine own_st st111 ?_
  have zK111 := K111.1
  show own_Go p e below s _ _ _ (T111.setTop (mkF m 57 #[.val (.ref a0_), .val (.ref a1), .val (.int (0 : Int32)), .val (.int (2 : Int32)), .val .null, .val (.ref b103)] []))
  have f112 := (f110.keep ((Keep.refl h108 [a0_]).trans K111 (allS (Or.inl (by simp)) all0)))
  have f113 := (F108.other W111 (Or.inr (slot_ne (Or.inr (hw _ (List.mem_of_getElem? (i := 25) rfl))) (Or.inr (hw _ (List.mem_of_getElem? (i := 24) rfl))) (by decide) (t := .byte) (t' := (.array .byte)) (by decide) (by decide))))
  have f114 := (V103.keep (((Keep.refl h103 [a0_]).trans K108 (allS (Or.inl (by simp)) all0)).trans K111 (allS (Or.inl (by simp)) all0)) (own_ninS (by omega) nin0))
  exact own_retV X111 hx hlk e111 hret (hb hby d4_57) (by decide) (by decide) ⟨rfl, N111, ((((Keep.refl h0 [a0_]).trans K103 all0).trans K108 (allS (Or.inl (by simp)) all0)).trans K111 (allS (Or.inl (by simp)) all0)), f112, b103, _, 1, _, _, F111, f113, f114, Or.inr ⟨rfl, rfl, rfl, c0, by simp, hw0⟩, (own_allC hc0 (own_all1 hc1)), (show 2 ≤ 4000 from by decide)⟩
theorem ef_iu20 (m : MethodId) (x0 : Addr) (x1 : Addr) : entryFrame m #[(.ref x0), (.ref x1)] 2 = mkF m 0 #[.val (.ref x0), .val (.ref x1)] [] := by (first | (simp [entryFrame, mkF, argsToLocals, Value.category]; done) | rfl)
abbrev iu20R : Room := { frames := 5, cells := 2, slots := 6, locals := 74 }
set_option maxRecDepth 65536 in
set_option maxHeartbeats 40000000 in
theorem iu20 (l : Launch) (Z : State) (a0 : Array Value) (hw : ∀ d ∈ tables_1, d.before a0 Z = true) (a0_ a1 : Nat) (k1 : ClassId) (u1 u2 : Value) (c0 c1 : Int32) (h0 : Heap) (n0 : Nat) (O0 : Old Z n0 h0) (CS : own_CS Z) (UT : own_U16 Z) (hc0 : ¬ c0 < 0 ∧ ¬ (65535 : Int32) < c0) (hc1 : ¬ c1 < 0 ∧ ¬ (65535 : Int32) < c1)  (hw0 : (255 : Int32) < c0) (E1 : Exa Z h0 a0_ "java/lang/String") (g1 : n0 ≤ a0_) (F1 : Fld Z h0 a0_ "java/lang/String" "value" "[B" u1) (F2 : Fld Z h0 a0_ "java/lang/String" "coder" "B" u2) (V1 : Arv Z h0 a1 k1 .char 2 [.int c0, .int c1] (.int 0)) :
    own_C l Z (⟨"java/lang/String", "<init>", "([C)V"⟩ : MethodName) jdk_42_method_3_code 2 none [] iu20R #[(.ref a0_), (.ref a1)] h0 (fun v h L => v = none ∧ Fr n0 L ∧ Keep h0 h [a0_] ∧ own_Str Z h a0_ [c0, c1]) := by
  refine own_body (plainFor_of_name pn_java_lang_String) ?_
  intro p e s m below meth c T0 X0 hx hby hml hZ hown hnm hret hlk e0
  have N0 := Fr.nil n0
  have zO := own_old O0
  refine own_st (fun _ k => castTop (ef_iu20 m a0_ a1) k) ?_
  show own_Go p e below s _ _ _ (T0.setTop (mkF m 0 #[.val (.ref a0_), .val (.ref a1)] []))
  refine own_st (fun _ k => XS.aloadN X0.here hx rfl (hb hby d3_0) rfl rfl k) ?_
  show own_Go p e below s _ _ _ (T0.setTop (mkF m 1 #[.val (.ref a0_), .val (.ref a1)] [(.ref a0_)]))
  refine own_st (fun _ k => XS.aloadN X0.here hx rfl (hb hby d3_1) rfl rfl k) ?_
  show own_Go p e below s _ _ _ (T0.setTop (mkF m 2 #[.val (.ref a0_), .val (.ref a1)] [(.ref a1), (.ref a0_)]))
  refine own_st (fun _ k => XS.iconst X0.here hx rfl (hb hby d3_2) k) ?_
  show own_Go p e below s _ _ _ (T0.setTop (mkF m 3 #[.val (.ref a0_), .val (.ref a1)] [(.int (0 : Int32)), (.ref a1), (.ref a0_)]))
  refine own_st (fun _ k => XS.aloadN X0.here hx rfl (hb hby d3_3) rfl rfl k) ?_
  show own_Go p e below s _ _ _ (T0.setTop (mkF m 4 #[.val (.ref a0_), .val (.ref a1)] [(.ref a1), (.int (0 : Int32)), (.ref a1), (.ref a0_)]))
  obtain ⟨c101, Ar101, q101, S101, M101, H101, U101⟩ := id V1
  refine own_st (X0.arraylength hx (by rw [e0]; exact Ar101.1) (State.isArrayOf_alike hZ.alike Ar101.2.1) (g := (mkF m 4 #[.val (.ref a0_), .val (.ref a1)] [(.ref a1), (.int (0 : Int32)), (.ref a1), (.ref a0_)])) rfl rfl (hb hby d3_4)) ?_
  rw [len_of S101 M101]
  show own_Go p e below s _ _ _ (T0.setTop (mkF m 5 #[.val (.ref a0_), .val (.ref a1)] [(.int (2 : Int32)), (.int (0 : Int32)), (.ref a1), (.ref a0_)]))
  refine own_st (fun _ k => XS.aconstNull X0.here hx rfl (hb hby d3_5) k) ?_
  show own_Go p e below s _ _ _ (T0.setTop (mkF m 6 #[.val (.ref a0_), .val (.ref a1)] [.null, (.int (2 : Int32)), (.int (0 : Int32)), (.ref a1), (.ref a0_)]))
  obtain ⟨T102, v102, L102, h102, X102, e102, q102, st102⟩ := own_callI X0 hx hZ (y := (⟨"java/lang/String", "<init>", "([CIILjava/lang/Void;)V"⟩ : MethodName)) rfl hown (hw _ (List.mem_of_getElem? (i := 15) rfl)) (hw _ (List.mem_of_getElem? (i := 16) rfl)) (hw _ (List.mem_of_getElem? (i := 18) rfl)) (by decide) (own_bk (W := 0) (iv20 l Z a0 hw a0_ a1 _ _ _ c0 c1 h0 n0 O0 CS UT hc0 hc1 hw0 E1 (by omega) F1 F2 V1) hZ (hw _ (List.mem_of_getElem? (i := 18) rfl)) (hw _ (List.mem_of_getElem? (i := 10) rfl)) (by decide) (by decide)) e0 (by decide) (by decide) (g := (mkF m 6 #[.val (.ref a0_), .val (.ref a1)] [.null, (.int (2 : Int32)), (.int (0 : Int32)), (.ref a1), (.ref a0_)])) rfl (by rw [hml]; rfl) (a := a0_) (argsL := [(.ref a1), (.int (0 : Int32)), (.int (2 : Int32)), .null]) (rest := []) (lenOf pd__28_5bCIILjava_2flang_2fVoid_3b_29V rfl) rfl rfl (by show 2 * 0 + _ ≤ _; exact Nat.le_of_eq rfl) (hb hby d3_6)
  obtain ⟨rfl, N102q, K102, S102⟩ := q102
  refine own_st st102 ?_
  have zK102 := K102.1
  have N102 := Fr.app N0 N102q
  have A102 := S102.1
  show own_Go p e below s _ _ _ (T102.setTop (mkF m 9 #[.val (.ref a0_), .val (.ref a1)] []))
  exact own_retV X102 hx hlk e102 hret (hb hby d3_9) (by decide) (by decide) ⟨rfl, N102, ((Keep.refl h0 [a0_]).trans K102 (allS (Or.inl (by simp)) all0)), S102⟩
theorem ef_iv21 (m : MethodId) (x0 : Addr) (x1 : Addr) (x2 : Int32) (x3 : Int32) : entryFrame m #[(.ref x0), (.ref x1), (.int x2), (.int x3), .null] 6 = mkF m 0 #[.val (.ref x0), .val (.ref x1), .val (.int x2), .val (.int x3), .val .null, .unset] [] := by (first | (simp [entryFrame, mkF, argsToLocals, Value.category]; done) | rfl)
abbrev iv21R : Room := { frames := 4, cells := 2, slots := 6, locals := 57 }
set_option maxRecDepth 65536 in
set_option maxHeartbeats 40000000 in
theorem iv21 (l : Launch) (Z : State) (a0 : Array Value) (hw : ∀ d ∈ tables_1, d.before a0 Z = true) (a0_ a1 : Nat) (k1 : ClassId) (u1 u2 : Value) (c0 c1 : Int32) (h0 : Heap) (n0 : Nat) (O0 : Old Z n0 h0) (CS : own_CS Z) (UT : own_U16 Z) (hc0 : ¬ c0 < 0 ∧ ¬ (65535 : Int32) < c0) (hc1 : ¬ c1 < 0 ∧ ¬ (65535 : Int32) < c1) (hn0 : ¬ (255 : Int32) < c0) (hw1 : (255 : Int32) < c1) (E1 : Exa Z h0 a0_ "java/lang/String") (g1 : n0 ≤ a0_) (F1 : Fld Z h0 a0_ "java/lang/String" "value" "[B" u1) (F2 : Fld Z h0 a0_ "java/lang/String" "coder" "B" u2) (V1 : Arv Z h0 a1 k1 .char 2 [.int c0, .int c1] (.int 0)) :
    own_C l Z (⟨"java/lang/String", "<init>", "([CIILjava/lang/Void;)V"⟩ : MethodName) jdk_42_method_149_code 6 none [] iv21R #[(.ref a0_), (.ref a1), (.int (0 : Int32)), (.int (2 : Int32)), .null] h0 (fun v h L => v = none ∧ Fr n0 L ∧ Keep h0 h [a0_] ∧ own_Str Z h a0_ [c0, c1]) := by
  refine own_body (plainFor_of_name pn_java_lang_String) ?_
  intro p e s m below meth c T0 X0 hx hby hml hZ hown hnm hret hlk e0
  have N0 := Fr.nil n0
  have zO := own_old O0
  obtain ⟨zc, Sc, hzc⟩ := id CS
  have la1 : a1 < h0.size := V1.lt
  have la0 : a0_ < h0.size := E1.lt
  refine own_st (fun _ k => castTop (ef_iv21 m a0_ a1 (0 : Int32) (2 : Int32)) k) ?_
  show own_Go p e below s _ _ _ (T0.setTop (mkF m 0 #[.val (.ref a0_), .val (.ref a1), .val (.int (0 : Int32)), .val (.int (2 : Int32)), .val .null, .unset] []))
  refine own_st (fun _ k => XS.aloadN X0.here hx rfl (hb hby d4_0) rfl rfl k) ?_
  show own_Go p e below s _ _ _ (T0.setTop (mkF m 1 #[.val (.ref a0_), .val (.ref a1), .val (.int (0 : Int32)), .val (.int (2 : Int32)), .val .null, .unset] [(.ref a0_)]))
  obtain ⟨T101, X101, e101, st101⟩ := initO X0 hx hZ hown (hw _ (List.mem_of_getElem? (i := 19) rfl)) (hw _ (List.mem_of_getElem? (i := 20) rfl)) (hw _ (List.mem_of_getElem? (i := 21) rfl)) e0 (g := (mkF m 1 #[.val (.ref a0_), .val (.ref a1), .val (.int (0 : Int32)), .val (.int (2 : Int32)), .val .null, .unset] [(.ref a0_)])) rfl (by rw [hml]; rfl) rfl (hb hby d4_1) (by decide) (W := 0) (by show 2 * 0 + _ ≤ _; exact Nat.le_of_eq rfl) (by decide)
  refine own_st st101 ?_
  show own_Go p e below s _ _ _ (T101.setTop (mkF m 4 #[.val (.ref a0_), .val (.ref a1), .val (.int (0 : Int32)), .val (.int (2 : Int32)), .val .null, .unset] []))
  refine own_st (fun _ k => XS.iloadN X101.here hx rfl (hb hby d4_4) rfl k) ?_
  show own_Go p e below s _ _ _ (T101.setTop (mkF m 5 #[.val (.ref a0_), .val (.ref a1), .val (.int (0 : Int32)), .val (.int (2 : Int32)), .val .null, .unset] [(.int (2 : Int32))]))
  refine own_st (fun _ k => XS.ifYes X101.here hx rfl (pc0 := 5) (pc' := 27) rfl (hb hby d4_5) rfl ((if0 _ _).trans (feq (by decide)).2) (by decide) (by decide) k) ?_
  show own_Go p e below s _ _ _ (T101.setTop (mkF m 27 #[.val (.ref a0_), .val (.ref a1), .val (.int (0 : Int32)), .val (.int (2 : Int32)), .val .null, .unset] []))
  obtain ⟨T102, X102, e102, st102⟩ := getS2 X101 hx hZ hown (host := "") (Or.inl (hw _ (List.mem_of_getElem? (i := 51) rfl))) Via.refl e101 (Sc.ext O0.2) (g := (mkF m 27 #[.val (.ref a0_), .val (.ref a1), .val (.int (0 : Int32)), .val (.int (2 : Int32)), .val .null, .unset] [])) rfl (hb hby d4_27)
  refine own_st st102 ?_
  show own_Go p e below s _ _ _ (T102.setTop (mkF m 30 #[.val (.ref a0_), .val (.ref a1), .val (.int (0 : Int32)), .val (.int (2 : Int32)), .val .null, .unset] [(.int zc)]))
  refine own_st (fun _ k => XS.ifNo X102.here hx rfl (hb hby d4_30) rfl ((if0 _ _).trans (feq hzc).1) k) ?_
  show own_Go p e below s _ _ _ (T102.setTop (mkF m 33 #[.val (.ref a0_), .val (.ref a1), .val (.int (0 : Int32)), .val (.int (2 : Int32)), .val .null, .unset] []))
  refine own_st (fun _ k => XS.aloadN X102.here hx rfl (hb hby d4_33) rfl rfl k) ?_
  show own_Go p e below s _ _ _ (T102.setTop (mkF m 34 #[.val (.ref a0_), .val (.ref a1), .val (.int (0 : Int32)), .val (.int (2 : Int32)), .val .null, .unset] [(.ref a1)]))
  refine own_st (fun _ k => XS.iloadN X102.here hx rfl (hb hby d4_34) rfl k) ?_
  show own_Go p e below s _ _ _ (T102.setTop (mkF m 35 #[.val (.ref a0_), .val (.ref a1), .val (.int (0 : Int32)), .val (.int (2 : Int32)), .val .null, .unset] [(.int (0 : Int32)), (.ref a1)]))
  refine own_st (fun _ k => XS.iloadN X102.here hx rfl (hb hby d4_35) rfl k) ?_
  show own_Go p e below s _ _ _ (T102.setTop (mkF m 36 #[.val (.ref a0_), .val (.ref a1), .val (.int (0 : Int32)), .val (.int (2 : Int32)), .val .null, .unset] [(.int (2 : Int32)), (.int (0 : Int32)), (.ref a1)]))
  obtain ⟨T103, v103, L103, h103, X103, e103, q103, st103⟩ := own_callS X102 hx hZ (y := (⟨"java/lang/StringUTF16", "compress", "([CII)[B"⟩ : MethodName)) hown (hw _ (List.mem_of_getElem? (i := 63) rfl)) (hw _ (List.mem_of_getElem? (i := 64) rfl)) (hw _ (List.mem_of_getElem? (i := 65) rfl)) (hw _ (List.mem_of_getElem? (i := 66) rfl)) (by decide) (own_bk (W := 0) (ct21 l Z a0 hw a1 _ c0 c1 h0 n0 O0 UT hc0 hc1 hn0 hw1 V1) hZ (hw _ (List.mem_of_getElem? (i := 66) rfl)) (hw _ (List.mem_of_getElem? (i := 65) rfl)) (by decide) (by decide)) e102 (by decide) (by decide) (g := (mkF m 36 #[.val (.ref a0_), .val (.ref a1), .val (.int (0 : Int32)), .val (.int (2 : Int32)), .val .null, .unset] [(.int (2 : Int32)), (.int (0 : Int32)), (.ref a1)])) rfl (by rw [hml]; rfl) (argsL := [(.ref a1), (.int (0 : Int32)), (.int (2 : Int32))]) (rest := []) (lenOf pd__28_5bCII_29_5bB rfl) rfl rfl (by show 2 * 0 + _ ≤ _; exact Nat.le_of_eq rfl) (hb hby d4_36)
  obtain ⟨N103q, b103, k103, rfl, K103, zb103, zc103, V103⟩ := q103
  refine own_st st103 ?_
  have zK103 := K103.1
  have N103 := Fr.app N0 N103q
  show own_Go p e below s _ _ _ (T103.setTop (mkF m 39 #[.val (.ref a0_), .val (.ref a1), .val (.int (0 : Int32)), .val (.int (2 : Int32)), .val .null, .unset] [(.ref b103)]))
  refine own_st (fun _ k => XS.astore X103.here hx rfl (hb hby d4_39) rfl rfl (l' := #[.val (.ref a0_), .val (.ref a1), .val (.int (0 : Int32)), .val (.int (2 : Int32)), .val .null, .val (.ref b103)]) rfl k) ?_
  show own_Go p e below s _ _ _ (T103.setTop (mkF m 41 #[.val (.ref a0_), .val (.ref a1), .val (.int (0 : Int32)), .val (.int (2 : Int32)), .val .null, .val (.ref b103)] []))
  refine own_st (fun _ k => XS.aloadN X103.here hx rfl (hb hby d4_41) rfl rfl k) ?_
  show own_Go p e below s _ _ _ (T103.setTop (mkF m 42 #[.val (.ref a0_), .val (.ref a1), .val (.int (0 : Int32)), .val (.int (2 : Int32)), .val .null, .val (.ref b103)] [(.ref a0_)]))
  refine own_st (fun _ k => XS.aload X103.here hx rfl (hb hby d4_42) rfl rfl k) ?_
  show own_Go p e below s _ _ _ (T103.setTop (mkF m 44 #[.val (.ref a0_), .val (.ref a1), .val (.int (0 : Int32)), .val (.int (2 : Int32)), .val .null, .val (.ref b103)] [(.ref b103), (.ref a0_)]))
  refine own_st (fun _ k => XS.iloadN X103.here hx rfl (hb hby d4_44) rfl k) ?_
  show own_Go p e below s _ _ _ (T103.setTop (mkF m 45 #[.val (.ref a0_), .val (.ref a1), .val (.int (0 : Int32)), .val (.int (2 : Int32)), .val .null, .val (.ref b103)] [(.int (2 : Int32)), (.ref b103), (.ref a0_)]))
  have O104 : Old Z n0 h103 := O0.keep ((Keep.refl h0 []).trans K103 all0) all0
  obtain ⟨T105, v105, L105, h105, X105, e105, q105, st105⟩ := own_callS X103 hx hZ (y := (⟨"java/lang/StringUTF16", "coderFromArrayLen", "([BI)B"⟩ : MethodName)) hown (hw _ (List.mem_of_getElem? (i := 70) rfl)) (hw _ (List.mem_of_getElem? (i := 71) rfl)) (hw _ (List.mem_of_getElem? (i := 65) rfl)) (hw _ (List.mem_of_getElem? (i := 72) rfl)) (by decide) (own_bk (W := 1) (cd2 l Z a0 hw b103 _ _ h103 n0 O104 V103) hZ (hw _ (List.mem_of_getElem? (i := 72) rfl)) (hw _ (List.mem_of_getElem? (i := 65) rfl)) (by decide) (by decide)) e103 (by decide) (by decide) (g := (mkF m 45 #[.val (.ref a0_), .val (.ref a1), .val (.int (0 : Int32)), .val (.int (2 : Int32)), .val .null, .val (.ref b103)] [(.int (2 : Int32)), (.ref b103), (.ref a0_)])) rfl (by rw [hml]; rfl) (argsL := [(.ref b103), (.int (2 : Int32))]) (rest := [(.ref a0_)]) (lenOf pd__28_5bBI_29B rfl) rfl rfl (by show 2 * 0 + _ ≤ _; exact Nat.le_of_eq rfl) (hb hby d4_45)
  obtain ⟨rfl, N105q, hq105⟩ := q105
  replace e105 := e105.trans hq105
  refine own_st st105 ?_
  have N105 := Fr.app N103 N105q
  show own_Go p e below s _ _ _ (T105.setTop (mkF m 48 #[.val (.ref a0_), .val (.ref a1), .val (.int (0 : Int32)), .val (.int (2 : Int32)), .val .null, .val (.ref b103)] [(.int (1 : Int32)), (.ref a0_)]))
  have f106 := (F2.keep ((Keep.refl h0 []).trans K103 all0) nin0)
  have f107 := (E1.keep ((Keep.refl h0 []).trans K103 all0))
  obtain ⟨T108, h108, X108, e108, W108, st108⟩ := putFN X105 hx hZ hown (hw _ (List.mem_of_getElem? (i := 29) rfl)) Via.refl e105 f106 f107 (Or.inr ⟨(hw _ (List.mem_of_getElem? (i := 25) rfl)), rfl, hnm⟩) (hw _ (List.mem_of_getElem? (i := 9) rfl)) (ty := .byte) (v' := (.int (1 : Int32))) (by decide) (by decide) (by decide) (g := (mkF m 48 #[.val (.ref a0_), .val (.ref a1), .val (.int (0 : Int32)), .val (.int (2 : Int32)), .val .null, .val (.ref b103)] [(.int (1 : Int32)), (.ref a0_)])) rfl rfl (hb hby d4_48)
  have F108 := f106.same W108
  have K108 := Keep.of_wr W108
  have N108 := Fr.snoc X108 N105 (by omega : n0 ≤ a0_)
  refine own_st st108 ?_
  have zK108 := K108.1
  show own_Go p e below s _ _ _ (T108.setTop (mkF m 51 #[.val (.ref a0_), .val (.ref a1), .val (.int (0 : Int32)), .val (.int (2 : Int32)), .val .null, .val (.ref b103)] []))
  refine own_st (fun _ k => XS.aloadN X108.here hx rfl (hb hby d4_51) rfl rfl k) ?_
  show own_Go p e below s _ _ _ (T108.setTop (mkF m 52 #[.val (.ref a0_), .val (.ref a1), .val (.int (0 : Int32)), .val (.int (2 : Int32)), .val .null, .val (.ref b103)] [(.ref a0_)]))
  refine own_st (fun _ k => XS.aload X108.here hx rfl (hb hby d4_52) rfl rfl k) ?_
  show own_Go p e below s _ _ _ (T108.setTop (mkF m 54 #[.val (.ref a0_), .val (.ref a1), .val (.int (0 : Int32)), .val (.int (2 : Int32)), .val .null, .val (.ref b103)] [(.ref b103), (.ref a0_)]))
  have f109 := ((F1.keep K103 nin0).other W108 (Or.inr (slot_ne (Or.inr (hw _ (List.mem_of_getElem? (i := 24) rfl))) (Or.inr (hw _ (List.mem_of_getElem? (i := 25) rfl))) (by decide) (t := (.array .byte)) (t' := .byte) (by decide) (by decide))))
  have f110 := (f107.keep ((Keep.refl h103 [a0_]).trans K108 (allS (Or.inl (by simp)) all0)))
  obtain ⟨T111, h111, X111, e111, W111, st111⟩ := putF X108 hx hZ hown (host := "") (Or.inl (hw _ (List.mem_of_getElem? (i := 28) rfl))) Via.refl e108 f109 f110 (Or.inr ⟨(hw _ (List.mem_of_getElem? (i := 24) rfl)), rfl, hnm⟩) (hw _ (List.mem_of_getElem? (i := 9) rfl)) (ty := (.array .byte)) (by decide) rfl rfl (g := (mkF m 54 #[.val (.ref a0_), .val (.ref a1), .val (.int (0 : Int32)), .val (.int (2 : Int32)), .val .null, .val (.ref b103)] [(.ref b103), (.ref a0_)])) rfl rfl (hb hby d4_54)
  have F111 := f109.same W111
  have K111 := Keep.of_wr W111
  have N111 := Fr.snoc X111 N108 (by omega : n0 ≤ a0_)
  refine own_st st111 ?_
  have zK111 := K111.1
  show own_Go p e below s _ _ _ (T111.setTop (mkF m 57 #[.val (.ref a0_), .val (.ref a1), .val (.int (0 : Int32)), .val (.int (2 : Int32)), .val .null, .val (.ref b103)] []))
  have f112 := (f110.keep ((Keep.refl h108 [a0_]).trans K111 (allS (Or.inl (by simp)) all0)))
  have f113 := (F108.other W111 (Or.inr (slot_ne (Or.inr (hw _ (List.mem_of_getElem? (i := 25) rfl))) (Or.inr (hw _ (List.mem_of_getElem? (i := 24) rfl))) (by decide) (t := .byte) (t' := (.array .byte)) (by decide) (by decide))))
  have f114 := (V103.keep (((Keep.refl h103 [a0_]).trans K108 (allS (Or.inl (by simp)) all0)).trans K111 (allS (Or.inl (by simp)) all0)) (own_ninS (by omega) nin0))
  exact own_retV X111 hx hlk e111 hret (hb hby d4_57) (by decide) (by decide) ⟨rfl, N111, ((((Keep.refl h0 [a0_]).trans K103 all0).trans K108 (allS (Or.inl (by simp)) all0)).trans K111 (allS (Or.inl (by simp)) all0)), f112, b103, _, 1, _, _, F111, f113, f114, Or.inr ⟨rfl, rfl, rfl, c1, by simp, hw1⟩, (own_allC hc0 (own_all1 hc1)), (show 2 ≤ 4000 from by decide)⟩
theorem ef_iu21 (m : MethodId) (x0 : Addr) (x1 : Addr) : entryFrame m #[(.ref x0), (.ref x1)] 2 = mkF m 0 #[.val (.ref x0), .val (.ref x1)] [] := by (first | (simp [entryFrame, mkF, argsToLocals, Value.category]; done) | rfl)
abbrev iu21R : Room := { frames := 5, cells := 2, slots := 6, locals := 74 }
set_option maxRecDepth 65536 in
set_option maxHeartbeats 40000000 in
theorem iu21 (l : Launch) (Z : State) (a0 : Array Value) (hw : ∀ d ∈ tables_1, d.before a0 Z = true) (a0_ a1 : Nat) (k1 : ClassId) (u1 u2 : Value) (c0 c1 : Int32) (h0 : Heap) (n0 : Nat) (O0 : Old Z n0 h0) (CS : own_CS Z) (UT : own_U16 Z) (hc0 : ¬ c0 < 0 ∧ ¬ (65535 : Int32) < c0) (hc1 : ¬ c1 < 0 ∧ ¬ (65535 : Int32) < c1) (hn0 : ¬ (255 : Int32) < c0) (hw1 : (255 : Int32) < c1) (E1 : Exa Z h0 a0_ "java/lang/String") (g1 : n0 ≤ a0_) (F1 : Fld Z h0 a0_ "java/lang/String" "value" "[B" u1) (F2 : Fld Z h0 a0_ "java/lang/String" "coder" "B" u2) (V1 : Arv Z h0 a1 k1 .char 2 [.int c0, .int c1] (.int 0)) :
    own_C l Z (⟨"java/lang/String", "<init>", "([C)V"⟩ : MethodName) jdk_42_method_3_code 2 none [] iu21R #[(.ref a0_), (.ref a1)] h0 (fun v h L => v = none ∧ Fr n0 L ∧ Keep h0 h [a0_] ∧ own_Str Z h a0_ [c0, c1]) := by
  refine own_body (plainFor_of_name pn_java_lang_String) ?_
  intro p e s m below meth c T0 X0 hx hby hml hZ hown hnm hret hlk e0
  have N0 := Fr.nil n0
  have zO := own_old O0
  refine own_st (fun _ k => castTop (ef_iu21 m a0_ a1) k) ?_
  show own_Go p e below s _ _ _ (T0.setTop (mkF m 0 #[.val (.ref a0_), .val (.ref a1)] []))
  refine own_st (fun _ k => XS.aloadN X0.here hx rfl (hb hby d3_0) rfl rfl k) ?_
  show own_Go p e below s _ _ _ (T0.setTop (mkF m 1 #[.val (.ref a0_), .val (.ref a1)] [(.ref a0_)]))
  refine own_st (fun _ k => XS.aloadN X0.here hx rfl (hb hby d3_1) rfl rfl k) ?_
  show own_Go p e below s _ _ _ (T0.setTop (mkF m 2 #[.val (.ref a0_), .val (.ref a1)] [(.ref a1), (.ref a0_)]))
  refine own_st (fun _ k => XS.iconst X0.here hx rfl (hb hby d3_2) k) ?_
  show own_Go p e below s _ _ _ (T0.setTop (mkF m 3 #[.val (.ref a0_), .val (.ref a1)] [(.int (0 : Int32)), (.ref a1), (.ref a0_)]))
  refine own_st (fun _ k => XS.aloadN X0.here hx rfl (hb hby d3_3) rfl rfl k) ?_
  show own_Go p e below s _ _ _ (T0.setTop (mkF m 4 #[.val (.ref a0_), .val (.ref a1)] [(.ref a1), (.int (0 : Int32)), (.ref a1), (.ref a0_)]))
  obtain ⟨c101, Ar101, q101, S101, M101, H101, U101⟩ := id V1
  refine own_st (X0.arraylength hx (by rw [e0]; exact Ar101.1) (State.isArrayOf_alike hZ.alike Ar101.2.1) (g := (mkF m 4 #[.val (.ref a0_), .val (.ref a1)] [(.ref a1), (.int (0 : Int32)), (.ref a1), (.ref a0_)])) rfl rfl (hb hby d3_4)) ?_
  rw [len_of S101 M101]
  show own_Go p e below s _ _ _ (T0.setTop (mkF m 5 #[.val (.ref a0_), .val (.ref a1)] [(.int (2 : Int32)), (.int (0 : Int32)), (.ref a1), (.ref a0_)]))
  refine own_st (fun _ k => XS.aconstNull X0.here hx rfl (hb hby d3_5) k) ?_
  show own_Go p e below s _ _ _ (T0.setTop (mkF m 6 #[.val (.ref a0_), .val (.ref a1)] [.null, (.int (2 : Int32)), (.int (0 : Int32)), (.ref a1), (.ref a0_)]))
  obtain ⟨T102, v102, L102, h102, X102, e102, q102, st102⟩ := own_callI X0 hx hZ (y := (⟨"java/lang/String", "<init>", "([CIILjava/lang/Void;)V"⟩ : MethodName)) rfl hown (hw _ (List.mem_of_getElem? (i := 15) rfl)) (hw _ (List.mem_of_getElem? (i := 16) rfl)) (hw _ (List.mem_of_getElem? (i := 18) rfl)) (by decide) (own_bk (W := 0) (iv21 l Z a0 hw a0_ a1 _ _ _ c0 c1 h0 n0 O0 CS UT hc0 hc1 hn0 hw1 E1 (by omega) F1 F2 V1) hZ (hw _ (List.mem_of_getElem? (i := 18) rfl)) (hw _ (List.mem_of_getElem? (i := 10) rfl)) (by decide) (by decide)) e0 (by decide) (by decide) (g := (mkF m 6 #[.val (.ref a0_), .val (.ref a1)] [.null, (.int (2 : Int32)), (.int (0 : Int32)), (.ref a1), (.ref a0_)])) rfl (by rw [hml]; rfl) (a := a0_) (argsL := [(.ref a1), (.int (0 : Int32)), (.int (2 : Int32)), .null]) (rest := []) (lenOf pd__28_5bCIILjava_2flang_2fVoid_3b_29V rfl) rfl rfl (by show 2 * 0 + _ ≤ _; exact Nat.le_of_eq rfl) (hb hby d3_6)
  obtain ⟨rfl, N102q, K102, S102⟩ := q102
  refine own_st st102 ?_
  have zK102 := K102.1
  have N102 := Fr.app N0 N102q
  have A102 := S102.1
  show own_Go p e below s _ _ _ (T102.setTop (mkF m 9 #[.val (.ref a0_), .val (.ref a1)] []))
  exact own_retV X102 hx hlk e102 hret (hb hby d3_9) (by decide) (by decide) ⟨rfl, N102, ((Keep.refl h0 [a0_]).trans K102 (allS (Or.inl (by simp)) all0)), S102⟩
theorem d12_0 : decode jdk_33_method_40_code 0 = .ok (.iload_n 0, 1) := by decide +kernel
theorem d12_1 : decode jdk_33_method_40_code 1 = .ok (.iload_n 1, 1) := by decide +kernel
theorem d12_2 : decode jdk_33_method_40_code 2 = .ok (.if_icmp .ge 7, 3) := by decide +kernel
theorem d12_5 : decode jdk_33_method_40_code 5 = .ok (.iconst (-1), 1) := by decide +kernel
theorem d12_6 : decode jdk_33_method_40_code 6 = .ok (.goto 13, 3) := by decide +kernel
theorem d12_19 : decode jdk_33_method_40_code 19 = .ok (.ireturn, 1) := by decide +kernel
theorem d12_9 : decode jdk_33_method_40_code 9 = .ok (.iload_n 0, 1) := by decide +kernel
theorem d12_10 : decode jdk_33_method_40_code 10 = .ok (.iload_n 1, 1) := by decide +kernel
theorem d12_11 : decode jdk_33_method_40_code 11 = .ok (.if_icmp .ne 7, 3) := by decide +kernel
theorem d12_14 : decode jdk_33_method_40_code 14 = .ok (.iconst 0, 1) := by decide +kernel
theorem d12_15 : decode jdk_33_method_40_code 15 = .ok (.goto 4, 3) := by decide +kernel
theorem d12_18 : decode jdk_33_method_40_code 18 = .ok (.iconst 1, 1) := by decide +kernel
theorem pn_java_lang_Integer : plainName "java/lang/Integer" = true := by first | (simp [plainName, overriddenIn]; done) | decide +kernel
theorem ef_icW (m : MethodId) (x0 : Int32) (x1 : Int32) : entryFrame m #[(.int x0), (.int x1)] 2 = mkF m 0 #[.val (.int x0), .val (.int x1)] [] := by (first | (simp [entryFrame, mkF, argsToLocals, Value.category]; done) | rfl)
abbrev icWR : Room := { frames := 0, cells := 0, slots := 0, locals := 0 }
set_option maxRecDepth 65536 in
set_option maxHeartbeats 40000000 in
theorem icW (l : Launch) (Z : State) (a0 : Array Value) (hw : ∀ d ∈ tables_1, d.before a0 Z = true) (p1 p2 : Int32) (h0 : Heap) (n0 : Nat) (O0 : Old Z n0 h0)  :
    own_C l Z (⟨"java/lang/Integer", "compare", "(II)I"⟩ : MethodName) jdk_33_method_40_code 2 (some .int) [] icWR #[(.int p1), (.int p2)] h0 (fun v h L => v = some (.int (own_ic p1 p2)) ∧ Fr n0 L ∧ h = h0) := by
  refine own_body (plainFor_of_name pn_java_lang_Integer) ?_
  intro p e s m below meth c T0 X0 hx hby hml hZ hown hnm hret hlk e0
  have N0 := Fr.nil n0
  have zO := own_old O0
  refine own_st (fun _ k => castTop (ef_icW m p1 p2) k) ?_
  show own_Go p e below s _ _ _ (T0.setTop (mkF m 0 #[.val (.int p1), .val (.int p2)] []))
  refine own_st (fun _ k => XS.iloadN X0.here hx rfl (hb hby d12_0) rfl k) ?_
  show own_Go p e below s _ _ _ (T0.setTop (mkF m 1 #[.val (.int p1), .val (.int p2)] [(.int p1)]))
  refine own_st (fun _ k => XS.iloadN X0.here hx rfl (hb hby d12_1) rfl k) ?_
  show own_Go p e below s _ _ _ (T0.setTop (mkF m 2 #[.val (.int p1), .val (.int p2)] [(.int p2), (.int p1)]))
  by_cases c101 : p1 < p2
  · refine own_st (fun _ k => XS.icmpNo X0.here hx rfl (hb hby d12_2) rfl (tlt c101).2.1 k) ?_
    show own_Go p e below s _ _ _ (T0.setTop (mkF m 5 #[.val (.int p1), .val (.int p2)] []))
    refine own_st (fun _ k => XS.iconst X0.here hx rfl (hb hby d12_5) k) ?_
    show own_Go p e below s _ _ _ (T0.setTop (mkF m 6 #[.val (.int p1), .val (.int p2)] [(.int (-1 : Int32))]))
    refine own_st (fun _ k => XS.goto X0.here hx rfl (pc0 := 6) (pc' := 19) rfl (hb hby d12_6) (by decide) (by decide) k) ?_
    show own_Go p e below s _ _ _ (T0.setTop (mkF m 19 #[.val (.int p1), .val (.int p2)] [(.int (-1 : Int32))]))
    exact own_ret X0 hx hlk e0 hret rfl (Or.inl ⟨rfl, Or.inl rfl, _, rfl⟩) (hb hby d12_19) (by decide) (by decide) ⟨by unfold own_ic; rw [if_pos c101], N0, rfl⟩
  · refine own_st (fun _ k => XS.icmpYes X0.here hx rfl (pc0 := 2) (pc' := 9) rfl (hb hby d12_2) rfl (flt c101).2.1 (by decide) (by decide) k) ?_
    show own_Go p e below s _ _ _ (T0.setTop (mkF m 9 #[.val (.int p1), .val (.int p2)] []))
    refine own_st (fun _ k => XS.iloadN X0.here hx rfl (hb hby d12_9) rfl k) ?_
    show own_Go p e below s _ _ _ (T0.setTop (mkF m 10 #[.val (.int p1), .val (.int p2)] [(.int p1)]))
    refine own_st (fun _ k => XS.iloadN X0.here hx rfl (hb hby d12_10) rfl k) ?_
    show own_Go p e below s _ _ _ (T0.setTop (mkF m 11 #[.val (.int p1), .val (.int p2)] [(.int p2), (.int p1)]))
    by_cases c102 : p1 = p2
    · refine own_st (fun _ k => XS.icmpNo X0.here hx rfl (hb hby d12_11) rfl (teq c102).2 k) ?_
      show own_Go p e below s _ _ _ (T0.setTop (mkF m 14 #[.val (.int p1), .val (.int p2)] []))
      refine own_st (fun _ k => XS.iconst X0.here hx rfl (hb hby d12_14) k) ?_
      show own_Go p e below s _ _ _ (T0.setTop (mkF m 15 #[.val (.int p1), .val (.int p2)] [(.int (0 : Int32))]))
      refine own_st (fun _ k => XS.goto X0.here hx rfl (pc0 := 15) (pc' := 19) rfl (hb hby d12_15) (by decide) (by decide) k) ?_
      show own_Go p e below s _ _ _ (T0.setTop (mkF m 19 #[.val (.int p1), .val (.int p2)] [(.int (0 : Int32))]))
      exact own_ret X0 hx hlk e0 hret rfl (Or.inl ⟨rfl, Or.inl rfl, _, rfl⟩) (hb hby d12_19) (by decide) (by decide) ⟨by unfold own_ic; rw [if_neg c101, if_pos c102], N0, rfl⟩
    · refine own_st (fun _ k => XS.icmpYes X0.here hx rfl (pc0 := 11) (pc' := 18) rfl (hb hby d12_11) rfl (feq c102).2 (by decide) (by decide) k) ?_
      show own_Go p e below s _ _ _ (T0.setTop (mkF m 18 #[.val (.int p1), .val (.int p2)] []))
      refine own_st (fun _ k => XS.iconst X0.here hx rfl (hb hby d12_18) k) ?_
      show own_Go p e below s _ _ _ (T0.setTop (mkF m 19 #[.val (.int p1), .val (.int p2)] [(.int (1 : Int32))]))
      exact own_ret X0 hx hlk e0 hret rfl (Or.inl ⟨rfl, Or.inl rfl, _, rfl⟩) (hb hby d12_19) (by decide) (by decide) ⟨by unfold own_ic; rw [if_neg c101, if_neg c102], N0, rfl⟩
theorem d13_0 : decode method_5_code 0 = .ok (.iload_n 0, 1) := by decide +kernel
theorem d13_1 : decode method_5_code 1 = .ok (.ifCond .ge 7, 3) := by decide +kernel
theorem d13_4 : decode method_5_code 4 = .ok (.iconst (-1), 1) := by decide +kernel
theorem d13_5 : decode method_5_code 5 = .ok (.goto 12, 3) := by decide +kernel
theorem d13_17 : decode method_5_code 17 = .ok (.ireturn, 1) := by decide +kernel
theorem d13_8 : decode method_5_code 8 = .ok (.iload_n 0, 1) := by decide +kernel
theorem d13_9 : decode method_5_code 9 = .ok (.ifCond .le 7, 3) := by decide +kernel
theorem d13_12 : decode method_5_code 12 = .ok (.iconst 1, 1) := by decide +kernel
theorem d13_13 : decode method_5_code 13 = .ok (.goto 4, 3) := by decide +kernel
theorem d13_16 : decode method_5_code 16 = .ok (.iconst 0, 1) := by decide +kernel
theorem pn_com_example_vetch_vetch_util_CharacterOrderComparePinLaw : plainName "com/example/vetch/vetch/util/CharacterOrderComparePinLaw" = true := by first | (simp [plainName, overriddenIn]; done) | decide +kernel
theorem ef_sgW (m : MethodId) (x0 : Int32) : entryFrame m #[(.int x0)] 1 = mkF m 0 #[.val (.int x0)] [] := by (first | (simp [entryFrame, mkF, argsToLocals, Value.category]; done) | rfl)
abbrev sgWR : Room := { frames := 0, cells := 0, slots := 0, locals := 0 }
set_option maxRecDepth 65536 in
set_option maxHeartbeats 40000000 in
theorem sgW (l : Launch) (Z : State) (a0 : Array Value) (hw : ∀ d ∈ tables_1, d.before a0 Z = true) (p1 : Int32) (h0 : Heap) (n0 : Nat) (O0 : Old Z n0 h0)  :
    own_C l Z (⟨"com/example/vetch/vetch/util/CharacterOrderComparePinLaw", "sign", "(I)I"⟩ : MethodName) method_5_code 1 (some .int) [] sgWR #[(.int p1)] h0 (fun v h L => v = some (.int (own_sg p1)) ∧ Fr n0 L ∧ h = h0) := by
  refine own_body (plainFor_of_name pn_com_example_vetch_vetch_util_CharacterOrderComparePinLaw) ?_
  intro p e s m below meth c T0 X0 hx hby hml hZ hown hnm hret hlk e0
  have N0 := Fr.nil n0
  have zO := own_old O0
  refine own_st (fun _ k => castTop (ef_sgW m p1) k) ?_
  show own_Go p e below s _ _ _ (T0.setTop (mkF m 0 #[.val (.int p1)] []))
  refine own_st (fun _ k => XS.iloadN X0.here hx rfl (hb hby d13_0) rfl k) ?_
  show own_Go p e below s _ _ _ (T0.setTop (mkF m 1 #[.val (.int p1)] [(.int p1)]))
  by_cases c101 : p1 < (0 : Int32)
  · refine own_st (fun _ k => XS.ifNo X0.here hx rfl (hb hby d13_1) rfl ((if0 _ _).trans (tlt c101).2.1) k) ?_
    show own_Go p e below s _ _ _ (T0.setTop (mkF m 4 #[.val (.int p1)] []))
    refine own_st (fun _ k => XS.iconst X0.here hx rfl (hb hby d13_4) k) ?_
    show own_Go p e below s _ _ _ (T0.setTop (mkF m 5 #[.val (.int p1)] [(.int (-1 : Int32))]))
    refine own_st (fun _ k => XS.goto X0.here hx rfl (pc0 := 5) (pc' := 17) rfl (hb hby d13_5) (by decide) (by decide) k) ?_
    show own_Go p e below s _ _ _ (T0.setTop (mkF m 17 #[.val (.int p1)] [(.int (-1 : Int32))]))
    exact own_ret X0 hx hlk e0 hret rfl (Or.inl ⟨rfl, Or.inl rfl, _, rfl⟩) (hb hby d13_17) (by decide) (by decide) ⟨by unfold own_sg; rw [if_pos c101], N0, rfl⟩
  · refine own_st (fun _ k => XS.ifYes X0.here hx rfl (pc0 := 1) (pc' := 8) rfl (hb hby d13_1) rfl ((if0 _ _).trans (flt c101).2.1) (by decide) (by decide) k) ?_
    show own_Go p e below s _ _ _ (T0.setTop (mkF m 8 #[.val (.int p1)] []))
    refine own_st (fun _ k => XS.iloadN X0.here hx rfl (hb hby d13_8) rfl k) ?_
    show own_Go p e below s _ _ _ (T0.setTop (mkF m 9 #[.val (.int p1)] [(.int p1)]))
    by_cases c102 : (0 : Int32) < p1
    · refine own_st (fun _ k => XS.ifNo X0.here hx rfl (hb hby d13_9) rfl ((if0 _ _).trans (tlt c102).2.2.2) k) ?_
      show own_Go p e below s _ _ _ (T0.setTop (mkF m 12 #[.val (.int p1)] []))
      refine own_st (fun _ k => XS.iconst X0.here hx rfl (hb hby d13_12) k) ?_
      show own_Go p e below s _ _ _ (T0.setTop (mkF m 13 #[.val (.int p1)] [(.int (1 : Int32))]))
      refine own_st (fun _ k => XS.goto X0.here hx rfl (pc0 := 13) (pc' := 17) rfl (hb hby d13_13) (by decide) (by decide) k) ?_
      show own_Go p e below s _ _ _ (T0.setTop (mkF m 17 #[.val (.int p1)] [(.int (1 : Int32))]))
      exact own_ret X0 hx hlk e0 hret rfl (Or.inl ⟨rfl, Or.inl rfl, _, rfl⟩) (hb hby d13_17) (by decide) (by decide) ⟨by unfold own_sg; rw [if_neg c101, if_pos c102], N0, rfl⟩
    · refine own_st (fun _ k => XS.ifYes X0.here hx rfl (pc0 := 9) (pc' := 16) rfl (hb hby d13_9) rfl ((if0 _ _).trans (flt c102).2.2.2) (by decide) (by decide) k) ?_
      show own_Go p e below s _ _ _ (T0.setTop (mkF m 16 #[.val (.int p1)] []))
      refine own_st (fun _ k => XS.iconst X0.here hx rfl (hb hby d13_16) k) ?_
      show own_Go p e below s _ _ _ (T0.setTop (mkF m 17 #[.val (.int p1)] [(.int (0 : Int32))]))
      exact own_ret X0 hx hlk e0 hret rfl (Or.inl ⟨rfl, Or.inl rfl, _, rfl⟩) (hb hby d13_17) (by decide) (by decide) ⟨by unfold own_sg; rw [if_neg c101, if_neg c102], N0, rfl⟩
theorem d28_0 : decode jdk_89_method_14_code 0 = .ok (.iload_n 0, 1) := by decide +kernel
theorem d28_1 : decode jdk_89_method_14_code 1 = .ok (.ldc 75, 2) := by decide +kernel
theorem d28_3 : decode jdk_89_method_14_code 3 = .ok (.if_icmp .lt 13, 3) := by decide +kernel
theorem d28_16 : decode jdk_89_method_14_code 16 = .ok (.iconst 0, 1) := by decide +kernel
theorem d28_17 : decode jdk_89_method_14_code 17 = .ok (.ireturn, 1) := by decide +kernel
theorem d28_6 : decode jdk_89_method_14_code 6 = .ok (.iload_n 0, 1) := by decide +kernel
theorem d28_7 : decode jdk_89_method_14_code 7 = .ok (.ldc 76, 2) := by decide +kernel
theorem d28_9 : decode jdk_89_method_14_code 9 = .ok (.if_icmp .ge 7, 3) := by decide +kernel
theorem d28_12 : decode jdk_89_method_14_code 12 = .ok (.iconst 1, 1) := by decide +kernel
theorem d28_13 : decode jdk_89_method_14_code 13 = .ok (.goto 4, 3) := by decide +kernel
theorem pn_java_lang_Character : plainName "java/lang/Character" = true := by first | (simp [plainName, overriddenIn]; done) | decide +kernel
theorem ef_hsW (m : MethodId) (x0 : Int32) : entryFrame m #[(.int x0)] 1 = mkF m 0 #[.val (.int x0)] [] := by (first | (simp [entryFrame, mkF, argsToLocals, Value.category]; done) | rfl)
abbrev hsWR : Room := { frames := 0, cells := 0, slots := 0, locals := 0 }
set_option maxRecDepth 65536 in
set_option maxHeartbeats 40000000 in
theorem hsW (l : Launch) (Z : State) (a0 : Array Value) (hw : ∀ d ∈ tables_1, d.before a0 Z = true) (cq : Int32) (h0 : Heap) (n0 : Nat) (O0 : Old Z n0 h0)  :
    own_C l Z (⟨"java/lang/Character", "isHighSurrogate", "(C)Z"⟩ : MethodName) jdk_89_method_14_code 1 (some .boolean) [] hsWR #[(.int cq)] h0 (fun v h L => v = some (.int (if own_hs cq then 1 else 0)) ∧ Fr n0 L ∧ h = h0) := by
  refine own_body (plainFor_of_name pn_java_lang_Character) ?_
  intro p e s m below meth c T0 X0 hx hby hml hZ hown hnm hret hlk e0
  have N0 := Fr.nil n0
  have zO := own_old O0
  refine own_st (fun _ k => castTop (ef_hsW m cq) k) ?_
  show own_Go p e below s _ _ _ (T0.setTop (mkF m 0 #[.val (.int cq)] []))
  refine own_st (fun _ k => XS.iloadN X0.here hx rfl (hb hby d28_0) rfl k) ?_
  show own_Go p e below s _ _ _ (T0.setTop (mkF m 1 #[.val (.int cq)] [(.int cq)]))
  refine own_st (X0.ldcInt hx hown (mvT hZ (hw _ (List.mem_of_getElem? (i := 122) rfl))) (g := (mkF m 1 #[.val (.int cq)] [(.int cq)])) rfl (hb hby d28_1)) ?_
  show own_Go p e below s _ _ _ (T0.setTop (mkF m 3 #[.val (.int cq)] [(.int (55296 : Int32)), (.int cq)]))
  by_cases c101 : cq < (55296 : Int32)
  · refine own_st (fun _ k => XS.icmpYes X0.here hx rfl (pc0 := 3) (pc' := 16) rfl (hb hby d28_3) rfl (tlt c101).1 (by decide) (by decide) k) ?_
    show own_Go p e below s _ _ _ (T0.setTop (mkF m 16 #[.val (.int cq)] []))
    refine own_st (fun _ k => XS.iconst X0.here hx rfl (hb hby d28_16) k) ?_
    show own_Go p e below s _ _ _ (T0.setTop (mkF m 17 #[.val (.int cq)] [(.int (0 : Int32))]))
    exact own_ret X0 hx hlk e0 hret (by decide) (Or.inl ⟨rfl, Or.inr (Or.inl rfl), _, rfl⟩) (hb hby d28_17) (by decide) (by decide) ⟨by rw [if_neg (show ¬ own_hs cq from fun q => q.1 c101)], N0, rfl⟩
  · refine own_st (fun _ k => XS.icmpNo X0.here hx rfl (hb hby d28_3) rfl (flt c101).1 k) ?_
    show own_Go p e below s _ _ _ (T0.setTop (mkF m 6 #[.val (.int cq)] []))
    refine own_st (fun _ k => XS.iloadN X0.here hx rfl (hb hby d28_6) rfl k) ?_
    show own_Go p e below s _ _ _ (T0.setTop (mkF m 7 #[.val (.int cq)] [(.int cq)]))
    refine own_st (X0.ldcInt hx hown (mvT hZ (hw _ (List.mem_of_getElem? (i := 124) rfl))) (g := (mkF m 7 #[.val (.int cq)] [(.int cq)])) rfl (hb hby d28_7)) ?_
    show own_Go p e below s _ _ _ (T0.setTop (mkF m 9 #[.val (.int cq)] [(.int (56320 : Int32)), (.int cq)]))
    by_cases c102 : cq < (56320 : Int32)
    · refine own_st (fun _ k => XS.icmpNo X0.here hx rfl (hb hby d28_9) rfl (tlt c102).2.1 k) ?_
      show own_Go p e below s _ _ _ (T0.setTop (mkF m 12 #[.val (.int cq)] []))
      refine own_st (fun _ k => XS.iconst X0.here hx rfl (hb hby d28_12) k) ?_
      show own_Go p e below s _ _ _ (T0.setTop (mkF m 13 #[.val (.int cq)] [(.int (1 : Int32))]))
      refine own_st (fun _ k => XS.goto X0.here hx rfl (pc0 := 13) (pc' := 17) rfl (hb hby d28_13) (by decide) (by decide) k) ?_
      show own_Go p e below s _ _ _ (T0.setTop (mkF m 17 #[.val (.int cq)] [(.int (1 : Int32))]))
      exact own_ret X0 hx hlk e0 hret (by decide) (Or.inl ⟨rfl, Or.inr (Or.inl rfl), _, rfl⟩) (hb hby d28_17) (by decide) (by decide) ⟨by rw [if_pos (show own_hs cq from ⟨c101, c102⟩)], N0, rfl⟩
    · refine own_st (fun _ k => XS.icmpYes X0.here hx rfl (pc0 := 9) (pc' := 16) rfl (hb hby d28_9) rfl (flt c102).2.1 (by decide) (by decide) k) ?_
      show own_Go p e below s _ _ _ (T0.setTop (mkF m 16 #[.val (.int cq)] []))
      refine own_st (fun _ k => XS.iconst X0.here hx rfl (hb hby d28_16) k) ?_
      show own_Go p e below s _ _ _ (T0.setTop (mkF m 17 #[.val (.int cq)] [(.int (0 : Int32))]))
      exact own_ret X0 hx hlk e0 hret (by decide) (Or.inl ⟨rfl, Or.inr (Or.inl rfl), _, rfl⟩) (hb hby d28_17) (by decide) (by decide) ⟨by rw [if_neg (show ¬ own_hs cq from fun q => c102 q.2)], N0, rfl⟩
theorem d30_0 : decode jdk_89_method_15_code 0 = .ok (.iload_n 0, 1) := by decide +kernel
theorem d30_1 : decode jdk_89_method_15_code 1 = .ok (.ldc 76, 2) := by decide +kernel
theorem d30_3 : decode jdk_89_method_15_code 3 = .ok (.if_icmp .lt 13, 3) := by decide +kernel
theorem d30_16 : decode jdk_89_method_15_code 16 = .ok (.iconst 0, 1) := by decide +kernel
theorem d30_17 : decode jdk_89_method_15_code 17 = .ok (.ireturn, 1) := by decide +kernel
theorem d30_6 : decode jdk_89_method_15_code 6 = .ok (.iload_n 0, 1) := by decide +kernel
theorem d30_7 : decode jdk_89_method_15_code 7 = .ok (.ldc 77, 2) := by decide +kernel
theorem d30_9 : decode jdk_89_method_15_code 9 = .ok (.if_icmp .ge 7, 3) := by decide +kernel
theorem d30_12 : decode jdk_89_method_15_code 12 = .ok (.iconst 1, 1) := by decide +kernel
theorem d30_13 : decode jdk_89_method_15_code 13 = .ok (.goto 4, 3) := by decide +kernel
theorem ef_lsW (m : MethodId) (x0 : Int32) : entryFrame m #[(.int x0)] 1 = mkF m 0 #[.val (.int x0)] [] := by (first | (simp [entryFrame, mkF, argsToLocals, Value.category]; done) | rfl)
abbrev lsWR : Room := { frames := 0, cells := 0, slots := 0, locals := 0 }
set_option maxRecDepth 65536 in
set_option maxHeartbeats 40000000 in
theorem lsW (l : Launch) (Z : State) (a0 : Array Value) (hw : ∀ d ∈ tables_1, d.before a0 Z = true) (cq : Int32) (h0 : Heap) (n0 : Nat) (O0 : Old Z n0 h0)  :
    own_C l Z (⟨"java/lang/Character", "isLowSurrogate", "(C)Z"⟩ : MethodName) jdk_89_method_15_code 1 (some .boolean) [] lsWR #[(.int cq)] h0 (fun v h L => v = some (.int (if own_lg cq then 1 else 0)) ∧ Fr n0 L ∧ h = h0) := by
  refine own_body (plainFor_of_name pn_java_lang_Character) ?_
  intro p e s m below meth c T0 X0 hx hby hml hZ hown hnm hret hlk e0
  have N0 := Fr.nil n0
  have zO := own_old O0
  refine own_st (fun _ k => castTop (ef_lsW m cq) k) ?_
  show own_Go p e below s _ _ _ (T0.setTop (mkF m 0 #[.val (.int cq)] []))
  refine own_st (fun _ k => XS.iloadN X0.here hx rfl (hb hby d30_0) rfl k) ?_
  show own_Go p e below s _ _ _ (T0.setTop (mkF m 1 #[.val (.int cq)] [(.int cq)]))
  refine own_st (X0.ldcInt hx hown (mvT hZ (hw _ (List.mem_of_getElem? (i := 124) rfl))) (g := (mkF m 1 #[.val (.int cq)] [(.int cq)])) rfl (hb hby d30_1)) ?_
  show own_Go p e below s _ _ _ (T0.setTop (mkF m 3 #[.val (.int cq)] [(.int (56320 : Int32)), (.int cq)]))
  by_cases c101 : cq < (56320 : Int32)
  · refine own_st (fun _ k => XS.icmpYes X0.here hx rfl (pc0 := 3) (pc' := 16) rfl (hb hby d30_3) rfl (tlt c101).1 (by decide) (by decide) k) ?_
    show own_Go p e below s _ _ _ (T0.setTop (mkF m 16 #[.val (.int cq)] []))
    refine own_st (fun _ k => XS.iconst X0.here hx rfl (hb hby d30_16) k) ?_
    show own_Go p e below s _ _ _ (T0.setTop (mkF m 17 #[.val (.int cq)] [(.int (0 : Int32))]))
    exact own_ret X0 hx hlk e0 hret (by decide) (Or.inl ⟨rfl, Or.inr (Or.inl rfl), _, rfl⟩) (hb hby d30_17) (by decide) (by decide) ⟨by rw [if_neg (show ¬ own_lg cq from fun q => q.1 c101)], N0, rfl⟩
  · refine own_st (fun _ k => XS.icmpNo X0.here hx rfl (hb hby d30_3) rfl (flt c101).1 k) ?_
    show own_Go p e below s _ _ _ (T0.setTop (mkF m 6 #[.val (.int cq)] []))
    refine own_st (fun _ k => XS.iloadN X0.here hx rfl (hb hby d30_6) rfl k) ?_
    show own_Go p e below s _ _ _ (T0.setTop (mkF m 7 #[.val (.int cq)] [(.int cq)]))
    refine own_st (X0.ldcInt hx hown (mvT hZ (hw _ (List.mem_of_getElem? (i := 134) rfl))) (g := (mkF m 7 #[.val (.int cq)] [(.int cq)])) rfl (hb hby d30_7)) ?_
    show own_Go p e below s _ _ _ (T0.setTop (mkF m 9 #[.val (.int cq)] [(.int (57344 : Int32)), (.int cq)]))
    by_cases c102 : cq < (57344 : Int32)
    · refine own_st (fun _ k => XS.icmpNo X0.here hx rfl (hb hby d30_9) rfl (tlt c102).2.1 k) ?_
      show own_Go p e below s _ _ _ (T0.setTop (mkF m 12 #[.val (.int cq)] []))
      refine own_st (fun _ k => XS.iconst X0.here hx rfl (hb hby d30_12) k) ?_
      show own_Go p e below s _ _ _ (T0.setTop (mkF m 13 #[.val (.int cq)] [(.int (1 : Int32))]))
      refine own_st (fun _ k => XS.goto X0.here hx rfl (pc0 := 13) (pc' := 17) rfl (hb hby d30_13) (by decide) (by decide) k) ?_
      show own_Go p e below s _ _ _ (T0.setTop (mkF m 17 #[.val (.int cq)] [(.int (1 : Int32))]))
      exact own_ret X0 hx hlk e0 hret (by decide) (Or.inl ⟨rfl, Or.inr (Or.inl rfl), _, rfl⟩) (hb hby d30_17) (by decide) (by decide) ⟨by rw [if_pos (show own_lg cq from ⟨c101, c102⟩)], N0, rfl⟩
    · refine own_st (fun _ k => XS.icmpYes X0.here hx rfl (pc0 := 9) (pc' := 16) rfl (hb hby d30_9) rfl (flt c102).2.1 (by decide) (by decide) k) ?_
      show own_Go p e below s _ _ _ (T0.setTop (mkF m 16 #[.val (.int cq)] []))
      refine own_st (fun _ k => XS.iconst X0.here hx rfl (hb hby d30_16) k) ?_
      show own_Go p e below s _ _ _ (T0.setTop (mkF m 17 #[.val (.int cq)] [(.int (0 : Int32))]))
      exact own_ret X0 hx hlk e0 hret (by decide) (Or.inl ⟨rfl, Or.inr (Or.inl rfl), _, rfl⟩) (hb hby d30_17) (by decide) (by decide) ⟨by rw [if_neg (show ¬ own_lg cq from fun q => c102 q.2)], N0, rfl⟩
theorem d31_0 : decode jdk_89_method_19_code 0 = .ok (.iload_n 0, 1) := by decide +kernel
theorem d31_1 : decode jdk_89_method_19_code 1 = .ok (.bipush 10, 2) := by decide +kernel
theorem d31_3 : decode jdk_89_method_19_code 3 = .ok (.ishl, 1) := by decide +kernel
theorem d31_4 : decode jdk_89_method_19_code 4 = .ok (.iload_n 1, 1) := by decide +kernel
theorem d31_5 : decode jdk_89_method_19_code 5 = .ok (.iadd, 1) := by decide +kernel
theorem d31_6 : decode jdk_89_method_19_code 6 = .ok (.ldc 85, 2) := by decide +kernel
theorem d31_8 : decode jdk_89_method_19_code 8 = .ok (.iadd, 1) := by decide +kernel
theorem d31_9 : decode jdk_89_method_19_code 9 = .ok (.ireturn, 1) := by decide +kernel
theorem ef_tcW (m : MethodId) (x0 : Int32) (x1 : Int32) : entryFrame m #[(.int x0), (.int x1)] 2 = mkF m 0 #[.val (.int x0), .val (.int x1)] [] := by (first | (simp [entryFrame, mkF, argsToLocals, Value.category]; done) | rfl)
abbrev tcWR : Room := { frames := 0, cells := 0, slots := 0, locals := 0 }
set_option maxRecDepth 65536 in
set_option maxHeartbeats 40000000 in
theorem tcW (l : Launch) (Z : State) (a0 : Array Value) (hw : ∀ d ∈ tables_1, d.before a0 Z = true) (p1 p2 : Int32) (h0 : Heap) (n0 : Nat) (O0 : Old Z n0 h0)  :
    own_C l Z (⟨"java/lang/Character", "toCodePoint", "(CC)I"⟩ : MethodName) jdk_89_method_19_code 2 (some .int) [] tcWR #[(.int p1), (.int p2)] h0 (fun v h L => v = some (.int (own_tcp p1 p2)) ∧ Fr n0 L ∧ h = h0) := by
  refine own_body (plainFor_of_name pn_java_lang_Character) ?_
  intro p e s m below meth c T0 X0 hx hby hml hZ hown hnm hret hlk e0
  have N0 := Fr.nil n0
  have zO := own_old O0
  refine own_st (fun _ k => castTop (ef_tcW m p1 p2) k) ?_
  show own_Go p e below s _ _ _ (T0.setTop (mkF m 0 #[.val (.int p1), .val (.int p2)] []))
  refine own_st (fun _ k => XS.iloadN X0.here hx rfl (hb hby d31_0) rfl k) ?_
  show own_Go p e below s _ _ _ (T0.setTop (mkF m 1 #[.val (.int p1), .val (.int p2)] [(.int p1)]))
  refine own_st (fun _ k => XS.bipush X0.here hx rfl (hb hby d31_1) k) ?_
  show own_Go p e below s _ _ _ (T0.setTop (mkF m 3 #[.val (.int p1), .val (.int p2)] [(.int (10 : Int32)), (.int p1)]))
  refine own_st (fun _ k => XS.ishl X0.here hx rfl (hb hby d31_3) rfl k) ?_
  show own_Go p e below s _ _ _ (T0.setTop (mkF m 4 #[.val (.int p1), .val (.int p2)] [(.int (p1 <<< ((10 : Int32) &&& 31)))]))
  refine own_st (fun _ k => XS.iloadN X0.here hx rfl (hb hby d31_4) rfl k) ?_
  show own_Go p e below s _ _ _ (T0.setTop (mkF m 5 #[.val (.int p1), .val (.int p2)] [(.int p2), (.int (p1 <<< ((10 : Int32) &&& 31)))]))
  refine own_st (fun _ k => XS.iadd X0.here hx rfl (hb hby d31_5) rfl k) ?_
  show own_Go p e below s _ _ _ (T0.setTop (mkF m 6 #[.val (.int p1), .val (.int p2)] [(.int ((p1 <<< ((10 : Int32) &&& 31)) + p2))]))
  refine own_st (X0.ldcInt hx hown (mvT hZ (hw _ (List.mem_of_getElem? (i := 138) rfl))) (g := (mkF m 6 #[.val (.int p1), .val (.int p2)] [(.int ((p1 <<< ((10 : Int32) &&& 31)) + p2))])) rfl (hb hby d31_6)) ?_
  show own_Go p e below s _ _ _ (T0.setTop (mkF m 8 #[.val (.int p1), .val (.int p2)] [(.int (-56613888 : Int32)), (.int ((p1 <<< ((10 : Int32) &&& 31)) + p2))]))
  refine own_st (fun _ k => XS.iadd X0.here hx rfl (hb hby d31_8) rfl k) ?_
  show own_Go p e below s _ _ _ (T0.setTop (mkF m 9 #[.val (.int p1), .val (.int p2)] [(.int (((p1 <<< ((10 : Int32) &&& 31)) + p2) + (-56613888 : Int32)))]))
  exact own_ret X0 hx hlk e0 hret rfl (Or.inl ⟨rfl, Or.inl rfl, _, rfl⟩) (hb hby d31_9) (by decide) (by decide) ⟨rfl, N0, rfl⟩
theorem d29_0 : decode jdk_89_method_18_code 0 = .ok (.iload_n 0, 1) := by decide +kernel
theorem d29_1 : decode jdk_89_method_18_code 1 = .ok (.ldc 73, 2) := by decide +kernel
theorem d29_3 : decode jdk_89_method_18_code 3 = .ok (.if_icmp .lt 7, 3) := by decide +kernel
theorem d29_10 : decode jdk_89_method_18_code 10 = .ok (.iconst 1, 1) := by decide +kernel
theorem d29_11 : decode jdk_89_method_18_code 11 = .ok (.ireturn, 1) := by decide +kernel
theorem d29_6 : decode jdk_89_method_18_code 6 = .ok (.iconst 2, 1) := by decide +kernel
theorem d29_7 : decode jdk_89_method_18_code 7 = .ok (.goto 4, 3) := by decide +kernel
theorem ef_ccW (m : MethodId) (x0 : Int32) : entryFrame m #[(.int x0)] 1 = mkF m 0 #[.val (.int x0)] [] := by (first | (simp [entryFrame, mkF, argsToLocals, Value.category]; done) | rfl)
abbrev ccWR : Room := { frames := 0, cells := 0, slots := 0, locals := 0 }
set_option maxRecDepth 65536 in
set_option maxHeartbeats 40000000 in
theorem ccW (l : Launch) (Z : State) (a0 : Array Value) (hw : ∀ d ∈ tables_1, d.before a0 Z = true) (cq : Int32) (h0 : Heap) (n0 : Nat) (O0 : Old Z n0 h0)  :
    own_C l Z (⟨"java/lang/Character", "charCount", "(I)I"⟩ : MethodName) jdk_89_method_18_code 1 (some .int) [] ccWR #[(.int cq)] h0 (fun v h L => v = some (.int (if cq < 65536 then 1 else 2)) ∧ Fr n0 L ∧ h = h0) := by
  refine own_body (plainFor_of_name pn_java_lang_Character) ?_
  intro p e s m below meth c T0 X0 hx hby hml hZ hown hnm hret hlk e0
  have N0 := Fr.nil n0
  have zO := own_old O0
  refine own_st (fun _ k => castTop (ef_ccW m cq) k) ?_
  show own_Go p e below s _ _ _ (T0.setTop (mkF m 0 #[.val (.int cq)] []))
  refine own_st (fun _ k => XS.iloadN X0.here hx rfl (hb hby d29_0) rfl k) ?_
  show own_Go p e below s _ _ _ (T0.setTop (mkF m 1 #[.val (.int cq)] [(.int cq)]))
  refine own_st (X0.ldcInt hx hown (mvT hZ (hw _ (List.mem_of_getElem? (i := 128) rfl))) (g := (mkF m 1 #[.val (.int cq)] [(.int cq)])) rfl (hb hby d29_1)) ?_
  show own_Go p e below s _ _ _ (T0.setTop (mkF m 3 #[.val (.int cq)] [(.int (65536 : Int32)), (.int cq)]))
  by_cases c101 : cq < (65536 : Int32)
  · refine own_st (fun _ k => XS.icmpYes X0.here hx rfl (pc0 := 3) (pc' := 10) rfl (hb hby d29_3) rfl (tlt c101).1 (by decide) (by decide) k) ?_
    show own_Go p e below s _ _ _ (T0.setTop (mkF m 10 #[.val (.int cq)] []))
    refine own_st (fun _ k => XS.iconst X0.here hx rfl (hb hby d29_10) k) ?_
    show own_Go p e below s _ _ _ (T0.setTop (mkF m 11 #[.val (.int cq)] [(.int (1 : Int32))]))
    exact own_ret X0 hx hlk e0 hret rfl (Or.inl ⟨rfl, Or.inl rfl, _, rfl⟩) (hb hby d29_11) (by decide) (by decide) ⟨by rw [if_pos c101], N0, rfl⟩
  · refine own_st (fun _ k => XS.icmpNo X0.here hx rfl (hb hby d29_3) rfl (flt c101).1 k) ?_
    show own_Go p e below s _ _ _ (T0.setTop (mkF m 6 #[.val (.int cq)] []))
    refine own_st (fun _ k => XS.iconst X0.here hx rfl (hb hby d29_6) k) ?_
    show own_Go p e below s _ _ _ (T0.setTop (mkF m 7 #[.val (.int cq)] [(.int (2 : Int32))]))
    refine own_st (fun _ k => XS.goto X0.here hx rfl (pc0 := 7) (pc' := 11) rfl (hb hby d29_7) (by decide) (by decide) k) ?_
    show own_Go p e below s _ _ _ (T0.setTop (mkF m 11 #[.val (.int cq)] [(.int (2 : Int32))]))
    exact own_ret X0 hx hlk e0 hret rfl (Or.inl ⟨rfl, Or.inl rfl, _, rfl⟩) (hb hby d29_11) (by decide) (by decide) ⟨by rw [if_neg c101], N0, rfl⟩
theorem d11_0 : decode jdk_29_method_69_code 0 = .ok (.iload_n 0, 1) := by decide +kernel
theorem d11_1 : decode jdk_29_method_69_code 1 = .ok (.iload_n 1, 1) := by decide +kernel
theorem d11_2 : decode jdk_29_method_69_code 2 = .ok (.if_icmp .gt 7, 3) := by decide +kernel
theorem d11_9 : decode jdk_29_method_69_code 9 = .ok (.iload_n 1, 1) := by decide +kernel
theorem d11_10 : decode jdk_29_method_69_code 10 = .ok (.ireturn, 1) := by decide +kernel
theorem d11_5 : decode jdk_29_method_69_code 5 = .ok (.iload_n 0, 1) := by decide +kernel
theorem d11_6 : decode jdk_29_method_69_code 6 = .ok (.goto 4, 3) := by decide +kernel
theorem ef_mnW (m : MethodId) (x0 : Int32) (x1 : Int32) : entryFrame m #[(.int x0), (.int x1)] 2 = mkF m 0 #[.val (.int x0), .val (.int x1)] [] := by (first | (simp [entryFrame, mkF, argsToLocals, Value.category]; done) | rfl)
abbrev mnWR : Room := { frames := 0, cells := 0, slots := 0, locals := 0 }
set_option maxRecDepth 65536 in
set_option maxHeartbeats 40000000 in
theorem mnW (l : Launch) (Z : State) (a0 : Array Value) (hw : ∀ d ∈ tables_1, d.before a0 Z = true) (p1 p2 : Int32) (h0 : Heap) (n0 : Nat) (O0 : Old Z n0 h0)  :
    own_C l Z (⟨"java/lang/Math", "min", "(II)I"⟩ : MethodName) jdk_29_method_69_code 2 (some .int) [] mnWR #[(.int p1), (.int p2)] h0 (fun v h L => v = some (.int (if p2 < p1 then p2 else p1)) ∧ Fr n0 L ∧ h = h0) := by
  refine own_body (Jvm.Free.JP.mathPlain rfl (by decide +kernel)) ?_
  intro p e s m below meth c T0 X0 hx hby hml hZ hown hnm hret hlk e0
  have N0 := Fr.nil n0
  have zO := own_old O0
  refine own_st (fun _ k => castTop (ef_mnW m p1 p2) k) ?_
  show own_Go p e below s _ _ _ (T0.setTop (mkF m 0 #[.val (.int p1), .val (.int p2)] []))
  refine own_st (fun _ k => XS.iloadN X0.here hx rfl (hb hby d11_0) rfl k) ?_
  show own_Go p e below s _ _ _ (T0.setTop (mkF m 1 #[.val (.int p1), .val (.int p2)] [(.int p1)]))
  refine own_st (fun _ k => XS.iloadN X0.here hx rfl (hb hby d11_1) rfl k) ?_
  show own_Go p e below s _ _ _ (T0.setTop (mkF m 2 #[.val (.int p1), .val (.int p2)] [(.int p2), (.int p1)]))
  by_cases c101 : p2 < p1
  · refine own_st (fun _ k => XS.icmpYes X0.here hx rfl (pc0 := 2) (pc' := 9) rfl (hb hby d11_2) rfl (tlt c101).2.2.1 (by decide) (by decide) k) ?_
    show own_Go p e below s _ _ _ (T0.setTop (mkF m 9 #[.val (.int p1), .val (.int p2)] []))
    refine own_st (fun _ k => XS.iloadN X0.here hx rfl (hb hby d11_9) rfl k) ?_
    show own_Go p e below s _ _ _ (T0.setTop (mkF m 10 #[.val (.int p1), .val (.int p2)] [(.int p2)]))
    exact own_ret X0 hx hlk e0 hret rfl (Or.inl ⟨rfl, Or.inl rfl, _, rfl⟩) (hb hby d11_10) (by decide) (by decide) ⟨by rw [if_pos c101], N0, rfl⟩
  · refine own_st (fun _ k => XS.icmpNo X0.here hx rfl (hb hby d11_2) rfl (flt c101).2.2.1 k) ?_
    show own_Go p e below s _ _ _ (T0.setTop (mkF m 5 #[.val (.int p1), .val (.int p2)] []))
    refine own_st (fun _ k => XS.iloadN X0.here hx rfl (hb hby d11_5) rfl k) ?_
    show own_Go p e below s _ _ _ (T0.setTop (mkF m 6 #[.val (.int p1), .val (.int p2)] [(.int p1)]))
    refine own_st (fun _ k => XS.goto X0.here hx rfl (pc0 := 6) (pc' := 10) rfl (hb hby d11_6) (by decide) (by decide) k) ?_
    show own_Go p e below s _ _ _ (T0.setTop (mkF m 10 #[.val (.int p1), .val (.int p2)] [(.int p1)]))
    exact own_ret X0 hx hlk e0 hret rfl (Or.inl ⟨rfl, Or.inl rfl, _, rfl⟩) (hb hby d11_10) (by decide) (by decide) ⟨by rw [if_neg c101], N0, rfl⟩
theorem d25_0 : decode jdk_41_method_11_code 0 = .ok (.iload_n 0, 1) := by decide +kernel
theorem d25_1 : decode jdk_41_method_11_code 1 = .ok (.ifCond .lt 8, 3) := by decide +kernel
theorem d25_4 : decode jdk_41_method_11_code 4 = .ok (.iload_n 0, 1) := by decide +kernel
theorem d25_5 : decode jdk_41_method_11_code 5 = .ok (.iload_n 1, 1) := by decide +kernel
theorem d25_6 : decode jdk_41_method_11_code 6 = .ok (.if_icmp .lt 10, 3) := by decide +kernel
theorem d25_16 : decode jdk_41_method_11_code 16 = .ok (.iload_n 0, 1) := by decide +kernel
theorem d25_17 : decode jdk_41_method_11_code 17 = .ok (.ireturn, 1) := by decide +kernel
theorem pn_jdk_internal_util_Preconditions : plainName "jdk/internal/util/Preconditions" = true := by first | (simp [plainName, overriddenIn]; done) | decide +kernel
theorem ef_ckP (m : MethodId) (x0 : Int32) (x1 : Int32) (x2 : Value) (hx2 : x2.isRef = true) : entryFrame m #[(.int x0), (.int x1), x2] 3 = mkF m 0 #[.val (.int x0), .val (.int x1), .val x2] [] := by rcases ref_cases hx2 with rfl | ⟨_, rfl⟩ <;> (first | (simp [entryFrame, mkF, argsToLocals, Value.category]; done) | rfl)
abbrev ckPR : Room := { frames := 0, cells := 0, slots := 0, locals := 0 }
set_option maxRecDepth 65536 in
set_option maxHeartbeats 40000000 in
theorem ckP (l : Launch) (Z : State) (a0 : Array Value) (hw : ∀ d ∈ tables_1, d.before a0 Z = true) (p1 p2 : Int32) (G : Value) (h0 : Heap) (n0 : Nat) (O0 : Old Z n0 h0) (hG : G.isRef = true) (h1 : ¬ p1 < 0) (h2 : p1 < p2) :
    own_C l Z (⟨"jdk/internal/util/Preconditions", "checkIndex", "(IILjava/util/function/BiFunction;)I"⟩ : MethodName) jdk_41_method_11_code 3 (some .int) [] ckPR #[(.int p1), (.int p2), G] h0 (fun v h L => v = some (.int p1) ∧ Fr n0 L ∧ h = h0) := by
  refine own_body (plainFor_of_name pn_jdk_internal_util_Preconditions) ?_
  intro p e s m below meth c T0 X0 hx hby hml hZ hown hnm hret hlk e0
  have N0 := Fr.nil n0
  have zO := own_old O0
  refine own_st (fun _ k => castTop (ef_ckP m p1 p2 G hG) k) ?_
  show own_Go p e below s _ _ _ (T0.setTop (mkF m 0 #[.val (.int p1), .val (.int p2), .val G] []))
  refine own_st (fun _ k => XS.iloadN X0.here hx rfl (hb hby d25_0) rfl k) ?_
  show own_Go p e below s _ _ _ (T0.setTop (mkF m 1 #[.val (.int p1), .val (.int p2), .val G] [(.int p1)]))
  refine own_st (fun _ k => XS.ifNo X0.here hx rfl (hb hby d25_1) rfl ((if0 _ _).trans (flt h1).1) k) ?_
  show own_Go p e below s _ _ _ (T0.setTop (mkF m 4 #[.val (.int p1), .val (.int p2), .val G] []))
  refine own_st (fun _ k => XS.iloadN X0.here hx rfl (hb hby d25_4) rfl k) ?_
  show own_Go p e below s _ _ _ (T0.setTop (mkF m 5 #[.val (.int p1), .val (.int p2), .val G] [(.int p1)]))
  refine own_st (fun _ k => XS.iloadN X0.here hx rfl (hb hby d25_5) rfl k) ?_
  show own_Go p e below s _ _ _ (T0.setTop (mkF m 6 #[.val (.int p1), .val (.int p2), .val G] [(.int p2), (.int p1)]))
  refine own_st (fun _ k => XS.icmpYes X0.here hx rfl (pc0 := 6) (pc' := 16) rfl (hb hby d25_6) rfl (tlt h2).1 (by decide) (by decide) k) ?_
  show own_Go p e below s _ _ _ (T0.setTop (mkF m 16 #[.val (.int p1), .val (.int p2), .val G] []))
  refine own_st (fun _ k => XS.iloadN X0.here hx rfl (hb hby d25_16) rfl k) ?_
  show own_Go p e below s _ _ _ (T0.setTop (mkF m 17 #[.val (.int p1), .val (.int p2), .val G] [(.int p1)]))
  exact own_ret X0 hx hlk e0 hret rfl (Or.inl ⟨rfl, Or.inl rfl, _, rfl⟩) (hb hby d25_17) (by decide) (by decide) ⟨rfl, N0, rfl⟩
theorem d24_0 : decode jdk_42_method_155_code 0 = .ok (.iload_n 0, 1) := by decide +kernel
theorem d24_1 : decode jdk_42_method_155_code 1 = .ok (.iload_n 1, 1) := by decide +kernel
theorem d24_2 : decode jdk_42_method_155_code 2 = .ok (.getstatic 1053, 3) := by decide +kernel
theorem pd__28IILjava_2futil_2ffunction_2fBiFunction_3b_29I : parseMethodDescriptor "(IILjava/util/function/BiFunction;)I" = some ⟨[.int, .int, (.object "java/util/function/BiFunction")], some .int⟩ := by decide +kernel
theorem d24_5 : decode jdk_42_method_155_code 5 = .ok (.invokestatic 1059, 3) := by decide +kernel
theorem d24_8 : decode jdk_42_method_155_code 8 = .ok (.pop, 1) := by decide +kernel
theorem d24_9 : decode jdk_42_method_155_code 9 = .ok (.return_, 1) := by decide +kernel
theorem ef_ckS (m : MethodId) (x0 : Int32) (x1 : Int32) : entryFrame m #[(.int x0), (.int x1)] 2 = mkF m 0 #[.val (.int x0), .val (.int x1)] [] := by (first | (simp [entryFrame, mkF, argsToLocals, Value.category]; done) | rfl)
abbrev ckSR : Room := { frames := 1, cells := 0, slots := 0, locals := 14 }
set_option maxRecDepth 65536 in
set_option maxHeartbeats 40000000 in
theorem ckS (l : Launch) (Z : State) (a0 : Array Value) (hw : ∀ d ∈ tables_1, d.before a0 Z = true) (p1 p2 : Int32) (h0 : Heap) (n0 : Nat) (O0 : Old Z n0 h0) (FM : own_FM Z) (h1 : ¬ p1 < 0) (h2 : p1 < p2) :
    own_C l Z (⟨"java/lang/String", "checkIndex", "(II)V"⟩ : MethodName) jdk_42_method_155_code 2 none [] ckSR #[(.int p1), (.int p2)] h0 (fun v h L => v = none ∧ Fr n0 L ∧ h = h0) := by
  refine own_body (plainFor_of_name pn_java_lang_String) ?_
  intro p e s m below meth c T0 X0 hx hby hml hZ hown hnm hret hlk e0
  have N0 := Fr.nil n0
  have zO := own_old O0
  obtain ⟨G, Sg, hG⟩ := id FM
  refine own_st (fun _ k => castTop (ef_ckS m p1 p2) k) ?_
  show own_Go p e below s _ _ _ (T0.setTop (mkF m 0 #[.val (.int p1), .val (.int p2)] []))
  refine own_st (fun _ k => XS.iloadN X0.here hx rfl (hb hby d24_0) rfl k) ?_
  show own_Go p e below s _ _ _ (T0.setTop (mkF m 1 #[.val (.int p1), .val (.int p2)] [(.int p1)]))
  refine own_st (fun _ k => XS.iloadN X0.here hx rfl (hb hby d24_1) rfl k) ?_
  show own_Go p e below s _ _ _ (T0.setTop (mkF m 2 #[.val (.int p1), .val (.int p2)] [(.int p2), (.int p1)]))
  obtain ⟨T101, X101, e101, st101⟩ := getS2 X0 hx hZ hown (host := "") (Or.inl (hw _ (List.mem_of_getElem? (i := 107) rfl))) Via.refl e0 (Sg.ext O0.2) (g := (mkF m 2 #[.val (.int p1), .val (.int p2)] [(.int p2), (.int p1)])) rfl (hb hby d24_2)
  refine own_st st101 ?_
  show own_Go p e below s _ _ _ (T101.setTop (mkF m 5 #[.val (.int p1), .val (.int p2)] [G, (.int p2), (.int p1)]))
  obtain ⟨T102, v102, L102, h102, X102, e102, q102, st102⟩ := own_callS X101 hx hZ (y := (⟨"jdk/internal/util/Preconditions", "checkIndex", "(IILjava/util/function/BiFunction;)I"⟩ : MethodName)) hown (hw _ (List.mem_of_getElem? (i := 109) rfl)) (hw _ (List.mem_of_getElem? (i := 110) rfl)) (hw _ (List.mem_of_getElem? (i := 108) rfl)) (hw _ (List.mem_of_getElem? (i := 111) rfl)) (by decide) (own_bk (W := 0) (ckP l Z a0 hw p1 p2 G h0 n0 O0 hG h1 h2) hZ (hw _ (List.mem_of_getElem? (i := 111) rfl)) (hw _ (List.mem_of_getElem? (i := 108) rfl)) (by decide) (by decide)) e101 (by decide) (by decide) (g := (mkF m 5 #[.val (.int p1), .val (.int p2)] [G, (.int p2), (.int p1)])) rfl (by rw [hml]; rfl) (argsL := [(.int p1), (.int p2), G]) (rest := []) (lenOf pd__28IILjava_2futil_2ffunction_2fBiFunction_3b_29I rfl) rfl rfl (by show 2 * 0 + _ ≤ _; exact Nat.le_of_eq rfl) (hb hby d24_5)
  obtain ⟨rfl, N102q, hq102⟩ := q102
  replace e102 := e102.trans hq102
  refine own_st st102 ?_
  have N102 := Fr.app N0 N102q
  show own_Go p e below s _ _ _ (T102.setTop (mkF m 8 #[.val (.int p1), .val (.int p2)] [(.int p1)]))
  refine own_st (fun _ k => XS.pop X102.here hx rfl (hb hby d24_8) rfl rfl k) ?_
  show own_Go p e below s _ _ _ (T102.setTop (mkF m 9 #[.val (.int p1), .val (.int p2)] []))
  exact own_retV X102 hx hlk e102 hret (hb hby d24_9) (by decide) (by decide) ⟨rfl, N102, rfl⟩
theorem d27_0 : decode jdk_52_method_7_code 0 = .ok (.getstatic 44, 3) := by decide +kernel
theorem d27_3 : decode jdk_52_method_7_code 3 = .ok (.ifCond .ne 16, 3) := by decide +kernel
theorem d27_19 : decode jdk_52_method_7_code 19 = .ok (.iload_n 3, 1) := by decide +kernel
theorem d27_20 : decode jdk_52_method_7_code 20 = .ok (.ifCond .eq 8, 3) := by decide +kernel
theorem d27_28 : decode jdk_52_method_7_code 28 = .ok (.aload_n 0, 1) := by decide +kernel
theorem d27_29 : decode jdk_52_method_7_code 29 = .ok (.iload_n 1, 1) := by decide +kernel
theorem d27_30 : decode jdk_52_method_7_code 30 = .ok (.invokestatic 71, 3) := by decide +kernel
theorem d27_33 : decode jdk_52_method_7_code 33 = .ok (.istore 4, 2) := by decide +kernel
theorem d27_35 : decode jdk_52_method_7_code 35 = .ok (.iload 4, 2) := by decide +kernel
theorem pd__28C_29Z : parseMethodDescriptor "(C)Z" = some ⟨[.char], some .boolean⟩ := by decide +kernel
theorem d27_37 : decode jdk_52_method_7_code 37 = .ok (.invokestatic 75, 3) := by decide +kernel
theorem d27_40 : decode jdk_52_method_7_code 40 = .ok (.ifCond .eq 43, 3) := by decide +kernel
theorem d27_83 : decode jdk_52_method_7_code 83 = .ok (.iload 4, 2) := by decide +kernel
theorem d27_85 : decode jdk_52_method_7_code 85 = .ok (.ireturn, 1) := by decide +kernel
theorem d27_43 : decode jdk_52_method_7_code 43 = .ok (.iinc 1 1, 3) := by decide +kernel
theorem d27_46 : decode jdk_52_method_7_code 46 = .ok (.iload_n 1, 1) := by decide +kernel
theorem d27_47 : decode jdk_52_method_7_code 47 = .ok (.iload_n 2, 1) := by decide +kernel
theorem d27_48 : decode jdk_52_method_7_code 48 = .ok (.if_icmp .ge 35, 3) := by decide +kernel
theorem d27_51 : decode jdk_52_method_7_code 51 = .ok (.iload_n 3, 1) := by decide +kernel
theorem d27_52 : decode jdk_52_method_7_code 52 = .ok (.ifCond .eq 8, 3) := by decide +kernel
theorem d27_60 : decode jdk_52_method_7_code 60 = .ok (.aload_n 0, 1) := by decide +kernel
theorem d27_61 : decode jdk_52_method_7_code 61 = .ok (.iload_n 1, 1) := by decide +kernel
theorem d27_62 : decode jdk_52_method_7_code 62 = .ok (.invokestatic 71, 3) := by decide +kernel
theorem d27_65 : decode jdk_52_method_7_code 65 = .ok (.istore 5, 2) := by decide +kernel
theorem d27_67 : decode jdk_52_method_7_code 67 = .ok (.iload 5, 2) := by decide +kernel
theorem d27_69 : decode jdk_52_method_7_code 69 = .ok (.invokestatic 81, 3) := by decide +kernel
theorem d27_72 : decode jdk_52_method_7_code 72 = .ok (.ifCond .eq 11, 3) := by decide +kernel
theorem d27_75 : decode jdk_52_method_7_code 75 = .ok (.iload 4, 2) := by decide +kernel
theorem d27_77 : decode jdk_52_method_7_code 77 = .ok (.iload 5, 2) := by decide +kernel
theorem pd__28CC_29I : parseMethodDescriptor "(CC)I" = some ⟨[.char, .char], some .int⟩ := by decide +kernel
theorem d27_79 : decode jdk_52_method_7_code 79 = .ok (.invokestatic 84, 3) := by decide +kernel
theorem d27_82 : decode jdk_52_method_7_code 82 = .ok (.ireturn, 1) := by decide +kernel
theorem ef_cp4 (m : MethodId) (x0 : Addr) (x1 : Int32) (x2 : Int32) (x3 : Int32) : entryFrame m #[(.ref x0), (.int x1), (.int x2), (.int x3)] 6 = mkF m 0 #[.val (.ref x0), .val (.int x1), .val (.int x2), .val (.int x3), .unset, .unset] [] := by (first | (simp [entryFrame, mkF, argsToLocals, Value.category]; done) | rfl)
abbrev cp4R : Room := { frames := 1, cells := 0, slots := 0, locals := 13 }
set_option maxRecDepth 65536 in
set_option maxHeartbeats 40000000 in
theorem cp4 (l : Launch) (Z : State) (a0 : Array Value) (hw : ∀ d ∈ tables_1, d.before a0 Z = true) (a1 : Nat) (k1 : ClassId) (cs : List Int32) (i : Nat) (h0 : Heap) (n0 : Nat) (O0 : Old Z n0 h0) (UT : own_U16 Z) (hi : i < cs.length) (hk : cs.length ≤ 2) (hbd : ∀ c ∈ cs, ¬ c < 0 ∧ ¬ (65535 : Int32) < c) (V1 : Arv Z h0 a1 k1 .byte (Int32.ofNat (2 * cs.length)) (StrChars.Road.wideBytes cs) (.int 0)) :
    own_C l Z (⟨"java/lang/StringUTF16", "codePointAt", "([BIIZ)I"⟩ : MethodName) jdk_52_method_7_code 6 (some .int) [] cp4R #[(.ref a1), (.int (Int32.ofNat i)), (.int (Int32.ofNat cs.length)), (.int (0 : Int32))] h0 (fun v h L => v = some (.int (own_cp cs i)) ∧ Fr n0 L ∧ h = h0) := by
  refine own_body (plainFor_of_name pn_java_lang_StringUTF16) ?_
  intro p e s m below meth c T0 X0 hx hby hml hZ hown hnm hret hlk e0
  have N0 := Fr.nil n0
  have zO := own_old O0
  obtain ⟨Ua, Uh, Ul⟩ := id UT
  refine own_st (fun _ k => castTop (ef_cp4 m a1 (Int32.ofNat i) (Int32.ofNat cs.length) (0 : Int32)) k) ?_
  show own_Go p e below s _ _ _ (T0.setTop (mkF m 0 #[.val (.ref a1), .val (.int (Int32.ofNat i)), .val (.int (Int32.ofNat cs.length)), .val (.int (0 : Int32)), .unset, .unset] []))
  obtain ⟨T101, X101, e101, st101⟩ := getS2 X0 hx hZ hown (host := "") (Or.inl (hw _ (List.mem_of_getElem? (i := 88) rfl))) Via.refl e0 (Ua.ext O0.2) (g := (mkF m 0 #[.val (.ref a1), .val (.int (Int32.ofNat i)), .val (.int (Int32.ofNat cs.length)), .val (.int (0 : Int32)), .unset, .unset] [])) rfl (hb hby d27_0)
  refine own_st st101 ?_
  show own_Go p e below s _ _ _ (T101.setTop (mkF m 3 #[.val (.ref a1), .val (.int (Int32.ofNat i)), .val (.int (Int32.ofNat cs.length)), .val (.int (0 : Int32)), .unset, .unset] [(.int (1 : Int32))]))
  refine own_st (fun _ k => XS.ifYes X101.here hx rfl (pc0 := 3) (pc' := 19) rfl (hb hby d27_3) rfl ((if0 _ _).trans (feq (by decide)).2) (by decide) (by decide) k) ?_
  show own_Go p e below s _ _ _ (T101.setTop (mkF m 19 #[.val (.ref a1), .val (.int (Int32.ofNat i)), .val (.int (Int32.ofNat cs.length)), .val (.int (0 : Int32)), .unset, .unset] []))
  refine own_st (fun _ k => XS.iloadN X101.here hx rfl (hb hby d27_19) rfl k) ?_
  show own_Go p e below s _ _ _ (T101.setTop (mkF m 20 #[.val (.ref a1), .val (.int (Int32.ofNat i)), .val (.int (Int32.ofNat cs.length)), .val (.int (0 : Int32)), .unset, .unset] [(.int (0 : Int32))]))
  refine own_st (fun _ k => XS.ifYes X101.here hx rfl (pc0 := 20) (pc' := 28) rfl (hb hby d27_20) rfl ((if0 _ _).trans (teq (by decide)).1) (by decide) (by decide) k) ?_
  show own_Go p e below s _ _ _ (T101.setTop (mkF m 28 #[.val (.ref a1), .val (.int (Int32.ofNat i)), .val (.int (Int32.ofNat cs.length)), .val (.int (0 : Int32)), .unset, .unset] []))
  refine own_st (fun _ k => XS.aloadN X101.here hx rfl (hb hby d27_28) rfl rfl k) ?_
  show own_Go p e below s _ _ _ (T101.setTop (mkF m 29 #[.val (.ref a1), .val (.int (Int32.ofNat i)), .val (.int (Int32.ofNat cs.length)), .val (.int (0 : Int32)), .unset, .unset] [(.ref a1)]))
  refine own_st (fun _ k => XS.iloadN X101.here hx rfl (hb hby d27_29) rfl k) ?_
  show own_Go p e below s _ _ _ (T101.setTop (mkF m 30 #[.val (.ref a1), .val (.int (Int32.ofNat i)), .val (.int (Int32.ofNat cs.length)), .val (.int (0 : Int32)), .unset, .unset] [(.int (Int32.ofNat i)), (.ref a1)]))
  obtain ⟨T102, v102, L102, h102, X102, e102, q102, st102⟩ := own_callS X101 hx hZ (y := (⟨"java/lang/StringUTF16", "getChar", "([BI)C"⟩ : MethodName)) hown (hw _ (List.mem_of_getElem? (i := 91) rfl)) (hw _ (List.mem_of_getElem? (i := 92) rfl)) (hw _ (List.mem_of_getElem? (i := 65) rfl)) (hw _ (List.mem_of_getElem? (i := 93) rfl)) (by decide) (own_bk (W := 0) (gc16 l Z a0 hw a1 _ cs i h0 n0 O0 UT hi hk hbd V1) hZ (hw _ (List.mem_of_getElem? (i := 93) rfl)) (hw _ (List.mem_of_getElem? (i := 65) rfl)) (by decide) (by decide)) e101 (by decide) (by decide) (g := (mkF m 30 #[.val (.ref a1), .val (.int (Int32.ofNat i)), .val (.int (Int32.ofNat cs.length)), .val (.int (0 : Int32)), .unset, .unset] [(.int (Int32.ofNat i)), (.ref a1)])) rfl (by rw [hml]; rfl) (argsL := [(.ref a1), (.int (Int32.ofNat i))]) (rest := []) (lenOf pd__28_5bBI_29C rfl) rfl rfl (by show 2 * 0 + _ ≤ _; exact Nat.le_of_eq rfl) (hb hby d27_30)
  obtain ⟨rfl, N102q, hq102⟩ := q102
  replace e102 := e102.trans hq102
  refine own_st st102 ?_
  have N102 := Fr.app N0 N102q
  show own_Go p e below s _ _ _ (T102.setTop (mkF m 33 #[.val (.ref a1), .val (.int (Int32.ofNat i)), .val (.int (Int32.ofNat cs.length)), .val (.int (0 : Int32)), .unset, .unset] [(.int (cs.getD i 0))]))
  refine own_st (fun _ k => XS.istore X102.here hx rfl (hb hby d27_33) rfl (l' := #[.val (.ref a1), .val (.int (Int32.ofNat i)), .val (.int (Int32.ofNat cs.length)), .val (.int (0 : Int32)), .val (.int (cs.getD i 0)), .unset]) rfl k) ?_
  show own_Go p e below s _ _ _ (T102.setTop (mkF m 35 #[.val (.ref a1), .val (.int (Int32.ofNat i)), .val (.int (Int32.ofNat cs.length)), .val (.int (0 : Int32)), .val (.int (cs.getD i 0)), .unset] []))
  refine own_st (fun _ k => XS.iload X102.here hx rfl (hb hby d27_35) rfl k) ?_
  show own_Go p e below s _ _ _ (T102.setTop (mkF m 37 #[.val (.ref a1), .val (.int (Int32.ofNat i)), .val (.int (Int32.ofNat cs.length)), .val (.int (0 : Int32)), .val (.int (cs.getD i 0)), .unset] [(.int (cs.getD i 0))]))
  obtain ⟨T103, v103, L103, h103, X103, e103, q103, st103⟩ := own_callS X102 hx hZ (y := (⟨"java/lang/Character", "isHighSurrogate", "(C)Z"⟩ : MethodName)) hown (hw _ (List.mem_of_getElem? (i := 118) rfl)) (hw _ (List.mem_of_getElem? (i := 119) rfl)) (hw _ (List.mem_of_getElem? (i := 120) rfl)) (hw _ (List.mem_of_getElem? (i := 121) rfl)) (by decide) (own_bk (W := 0) (hsW l Z a0 hw (cs.getD i 0) h0 n0 O0) hZ (hw _ (List.mem_of_getElem? (i := 121) rfl)) (hw _ (List.mem_of_getElem? (i := 120) rfl)) (by decide) (by decide)) e102 (by decide) (by decide) (g := (mkF m 37 #[.val (.ref a1), .val (.int (Int32.ofNat i)), .val (.int (Int32.ofNat cs.length)), .val (.int (0 : Int32)), .val (.int (cs.getD i 0)), .unset] [(.int (cs.getD i 0))])) rfl (by rw [hml]; rfl) (argsL := [(.int (cs.getD i 0))]) (rest := []) (lenOf pd__28C_29Z rfl) rfl rfl (by show 2 * 0 + _ ≤ _; exact Nat.le_of_eq rfl) (hb hby d27_37)
  obtain ⟨rfl, N103q, hq103⟩ := q103
  replace e103 := e103.trans hq103
  refine own_st st103 ?_
  have N103 := Fr.app N102 N103q
  show own_Go p e below s _ _ _ (T103.setTop (mkF m 40 #[.val (.ref a1), .val (.int (Int32.ofNat i)), .val (.int (Int32.ofNat cs.length)), .val (.int (0 : Int32)), .val (.int (cs.getD i 0)), .unset] [(.int (if own_hs (cs.getD i 0) then (1 : Int32) else 0))]))
  by_cases c104 : (if own_hs (cs.getD i 0) then (1 : Int32) else 0) = (0 : Int32)
  · refine own_st (fun _ k => XS.ifYes X103.here hx rfl (pc0 := 40) (pc' := 83) rfl (hb hby d27_40) rfl ((if0 _ _).trans (teq c104).1) (by decide) (by decide) k) ?_
    show own_Go p e below s _ _ _ (T103.setTop (mkF m 83 #[.val (.ref a1), .val (.int (Int32.ofNat i)), .val (.int (Int32.ofNat cs.length)), .val (.int (0 : Int32)), .val (.int (cs.getD i 0)), .unset] []))
    refine own_st (fun _ k => XS.iload X103.here hx rfl (hb hby d27_83) rfl k) ?_
    show own_Go p e below s _ _ _ (T103.setTop (mkF m 85 #[.val (.ref a1), .val (.int (Int32.ofNat i)), .val (.int (Int32.ofNat cs.length)), .val (.int (0 : Int32)), .val (.int (cs.getD i 0)), .unset] [(.int (cs.getD i 0))]))
    exact own_ret X103 hx hlk e103 hret rfl (Or.inl ⟨rfl, Or.inl rfl, _, rfl⟩) (hb hby d27_85) (by decide) (by decide) ⟨by unfold own_cp; rw [if_neg (fun q => own_ifF c104 q.1)], N103, rfl⟩
  · refine own_st (fun _ k => XS.ifNo X103.here hx rfl (hb hby d27_40) rfl ((if0 _ _).trans (feq c104).1) k) ?_
    show own_Go p e below s _ _ _ (T103.setTop (mkF m 43 #[.val (.ref a1), .val (.int (Int32.ofNat i)), .val (.int (Int32.ofNat cs.length)), .val (.int (0 : Int32)), .val (.int (cs.getD i 0)), .unset] []))
    refine own_st (fun _ k => XS.iinc X103.here hx rfl (hb hby d27_43) rfl (l' := #[.val (.ref a1), .val (.int ((Int32.ofNat i) + (1 : Int32))), .val (.int (Int32.ofNat cs.length)), .val (.int (0 : Int32)), .val (.int (cs.getD i 0)), .unset]) rfl k) ?_
    show own_Go p e below s _ _ _ (T103.setTop (mkF m 46 #[.val (.ref a1), .val (.int ((Int32.ofNat i) + (1 : Int32))), .val (.int (Int32.ofNat cs.length)), .val (.int (0 : Int32)), .val (.int (cs.getD i 0)), .unset] []))
    rw [show Int32.ofNat i + (1 : Int32) = Int32.ofNat (i + 1) from own_nadd (b := 1) (by omega)]
    show own_Go p e below s _ _ _ (T103.setTop (mkF m 46 #[.val (.ref a1), .val (.int (Int32.ofNat (i + 1))), .val (.int (Int32.ofNat cs.length)), .val (.int (0 : Int32)), .val (.int (cs.getD i 0)), .unset] []))
    refine own_st (fun _ k => XS.iloadN X103.here hx rfl (hb hby d27_46) rfl k) ?_
    show own_Go p e below s _ _ _ (T103.setTop (mkF m 47 #[.val (.ref a1), .val (.int (Int32.ofNat (i + 1))), .val (.int (Int32.ofNat cs.length)), .val (.int (0 : Int32)), .val (.int (cs.getD i 0)), .unset] [(.int (Int32.ofNat (i + 1)))]))
    refine own_st (fun _ k => XS.iloadN X103.here hx rfl (hb hby d27_47) rfl k) ?_
    show own_Go p e below s _ _ _ (T103.setTop (mkF m 48 #[.val (.ref a1), .val (.int (Int32.ofNat (i + 1))), .val (.int (Int32.ofNat cs.length)), .val (.int (0 : Int32)), .val (.int (cs.getD i 0)), .unset] [(.int (Int32.ofNat cs.length)), (.int (Int32.ofNat (i + 1)))]))
    by_cases c105 : (Int32.ofNat (i + 1)) < (Int32.ofNat cs.length)
    · refine own_st (fun _ k => XS.icmpNo X103.here hx rfl (hb hby d27_48) rfl (tlt c105).2.1 k) ?_
      show own_Go p e below s _ _ _ (T103.setTop (mkF m 51 #[.val (.ref a1), .val (.int (Int32.ofNat (i + 1))), .val (.int (Int32.ofNat cs.length)), .val (.int (0 : Int32)), .val (.int (cs.getD i 0)), .unset] []))
      refine own_st (fun _ k => XS.iloadN X103.here hx rfl (hb hby d27_51) rfl k) ?_
      show own_Go p e below s _ _ _ (T103.setTop (mkF m 52 #[.val (.ref a1), .val (.int (Int32.ofNat (i + 1))), .val (.int (Int32.ofNat cs.length)), .val (.int (0 : Int32)), .val (.int (cs.getD i 0)), .unset] [(.int (0 : Int32))]))
      refine own_st (fun _ k => XS.ifYes X103.here hx rfl (pc0 := 52) (pc' := 60) rfl (hb hby d27_52) rfl ((if0 _ _).trans (teq (by decide)).1) (by decide) (by decide) k) ?_
      show own_Go p e below s _ _ _ (T103.setTop (mkF m 60 #[.val (.ref a1), .val (.int (Int32.ofNat (i + 1))), .val (.int (Int32.ofNat cs.length)), .val (.int (0 : Int32)), .val (.int (cs.getD i 0)), .unset] []))
      have hi1 : i + 1 < cs.length := (own_nlt (by omega) (by omega)).mp c105
      refine own_st (fun _ k => XS.aloadN X103.here hx rfl (hb hby d27_60) rfl rfl k) ?_
      show own_Go p e below s _ _ _ (T103.setTop (mkF m 61 #[.val (.ref a1), .val (.int (Int32.ofNat (i + 1))), .val (.int (Int32.ofNat cs.length)), .val (.int (0 : Int32)), .val (.int (cs.getD i 0)), .unset] [(.ref a1)]))
      refine own_st (fun _ k => XS.iloadN X103.here hx rfl (hb hby d27_61) rfl k) ?_
      show own_Go p e below s _ _ _ (T103.setTop (mkF m 62 #[.val (.ref a1), .val (.int (Int32.ofNat (i + 1))), .val (.int (Int32.ofNat cs.length)), .val (.int (0 : Int32)), .val (.int (cs.getD i 0)), .unset] [(.int (Int32.ofNat (i + 1))), (.ref a1)]))
      obtain ⟨T106, v106, L106, h106, X106, e106, q106, st106⟩ := own_callS X103 hx hZ (y := (⟨"java/lang/StringUTF16", "getChar", "([BI)C"⟩ : MethodName)) hown (hw _ (List.mem_of_getElem? (i := 91) rfl)) (hw _ (List.mem_of_getElem? (i := 92) rfl)) (hw _ (List.mem_of_getElem? (i := 65) rfl)) (hw _ (List.mem_of_getElem? (i := 93) rfl)) (by decide) (own_bk (W := 0) (gc16 l Z a0 hw a1 _ cs (i + 1) h0 n0 O0 UT hi1 hk hbd V1) hZ (hw _ (List.mem_of_getElem? (i := 93) rfl)) (hw _ (List.mem_of_getElem? (i := 65) rfl)) (by decide) (by decide)) e103 (by decide) (by decide) (g := (mkF m 62 #[.val (.ref a1), .val (.int (Int32.ofNat (i + 1))), .val (.int (Int32.ofNat cs.length)), .val (.int (0 : Int32)), .val (.int (cs.getD i 0)), .unset] [(.int (Int32.ofNat (i + 1))), (.ref a1)])) rfl (by rw [hml]; rfl) (argsL := [(.ref a1), (.int (Int32.ofNat (i + 1)))]) (rest := []) (lenOf pd__28_5bBI_29C rfl) rfl rfl (by show 2 * 0 + _ ≤ _; exact Nat.le_of_eq rfl) (hb hby d27_62)
      obtain ⟨rfl, N106q, hq106⟩ := q106
      replace e106 := e106.trans hq106
      refine own_st st106 ?_
      have N106 := Fr.app N103 N106q
      show own_Go p e below s _ _ _ (T106.setTop (mkF m 65 #[.val (.ref a1), .val (.int (Int32.ofNat (i + 1))), .val (.int (Int32.ofNat cs.length)), .val (.int (0 : Int32)), .val (.int (cs.getD i 0)), .unset] [(.int (cs.getD (i + 1) 0))]))
      refine own_st (fun _ k => XS.istore X106.here hx rfl (hb hby d27_65) rfl (l' := #[.val (.ref a1), .val (.int (Int32.ofNat (i + 1))), .val (.int (Int32.ofNat cs.length)), .val (.int (0 : Int32)), .val (.int (cs.getD i 0)), .val (.int (cs.getD (i + 1) 0))]) rfl k) ?_
      show own_Go p e below s _ _ _ (T106.setTop (mkF m 67 #[.val (.ref a1), .val (.int (Int32.ofNat (i + 1))), .val (.int (Int32.ofNat cs.length)), .val (.int (0 : Int32)), .val (.int (cs.getD i 0)), .val (.int (cs.getD (i + 1) 0))] []))
      refine own_st (fun _ k => XS.iload X106.here hx rfl (hb hby d27_67) rfl k) ?_
      show own_Go p e below s _ _ _ (T106.setTop (mkF m 69 #[.val (.ref a1), .val (.int (Int32.ofNat (i + 1))), .val (.int (Int32.ofNat cs.length)), .val (.int (0 : Int32)), .val (.int (cs.getD i 0)), .val (.int (cs.getD (i + 1) 0))] [(.int (cs.getD (i + 1) 0))]))
      obtain ⟨T107, v107, L107, h107, X107, e107, q107, st107⟩ := own_callS X106 hx hZ (y := (⟨"java/lang/Character", "isLowSurrogate", "(C)Z"⟩ : MethodName)) hown (hw _ (List.mem_of_getElem? (i := 131) rfl)) (hw _ (List.mem_of_getElem? (i := 132) rfl)) (hw _ (List.mem_of_getElem? (i := 120) rfl)) (hw _ (List.mem_of_getElem? (i := 133) rfl)) (by decide) (own_bk (W := 0) (lsW l Z a0 hw (cs.getD (i + 1) 0) h0 n0 O0) hZ (hw _ (List.mem_of_getElem? (i := 133) rfl)) (hw _ (List.mem_of_getElem? (i := 120) rfl)) (by decide) (by decide)) e106 (by decide) (by decide) (g := (mkF m 69 #[.val (.ref a1), .val (.int (Int32.ofNat (i + 1))), .val (.int (Int32.ofNat cs.length)), .val (.int (0 : Int32)), .val (.int (cs.getD i 0)), .val (.int (cs.getD (i + 1) 0))] [(.int (cs.getD (i + 1) 0))])) rfl (by rw [hml]; rfl) (argsL := [(.int (cs.getD (i + 1) 0))]) (rest := []) (lenOf pd__28C_29Z rfl) rfl rfl (by show 2 * 0 + _ ≤ _; exact Nat.le_of_eq rfl) (hb hby d27_69)
      obtain ⟨rfl, N107q, hq107⟩ := q107
      replace e107 := e107.trans hq107
      refine own_st st107 ?_
      have N107 := Fr.app N106 N107q
      show own_Go p e below s _ _ _ (T107.setTop (mkF m 72 #[.val (.ref a1), .val (.int (Int32.ofNat (i + 1))), .val (.int (Int32.ofNat cs.length)), .val (.int (0 : Int32)), .val (.int (cs.getD i 0)), .val (.int (cs.getD (i + 1) 0))] [(.int (if own_lg (cs.getD (i + 1) 0) then (1 : Int32) else 0))]))
      by_cases c108 : (if own_lg (cs.getD (i + 1) 0) then (1 : Int32) else 0) = (0 : Int32)
      · refine own_st (fun _ k => XS.ifYes X107.here hx rfl (pc0 := 72) (pc' := 83) rfl (hb hby d27_72) rfl ((if0 _ _).trans (teq c108).1) (by decide) (by decide) k) ?_
        show own_Go p e below s _ _ _ (T107.setTop (mkF m 83 #[.val (.ref a1), .val (.int (Int32.ofNat (i + 1))), .val (.int (Int32.ofNat cs.length)), .val (.int (0 : Int32)), .val (.int (cs.getD i 0)), .val (.int (cs.getD (i + 1) 0))] []))
        refine own_st (fun _ k => XS.iload X107.here hx rfl (hb hby d27_83) rfl k) ?_
        show own_Go p e below s _ _ _ (T107.setTop (mkF m 85 #[.val (.ref a1), .val (.int (Int32.ofNat (i + 1))), .val (.int (Int32.ofNat cs.length)), .val (.int (0 : Int32)), .val (.int (cs.getD i 0)), .val (.int (cs.getD (i + 1) 0))] [(.int (cs.getD i 0))]))
        exact own_ret X107 hx hlk e107 hret rfl (Or.inl ⟨rfl, Or.inl rfl, _, rfl⟩) (hb hby d27_85) (by decide) (by decide) ⟨by unfold own_cp; rw [if_neg (fun q => own_ifF c108 q.2.2)], N107, rfl⟩
      · refine own_st (fun _ k => XS.ifNo X107.here hx rfl (hb hby d27_72) rfl ((if0 _ _).trans (feq c108).1) k) ?_
        show own_Go p e below s _ _ _ (T107.setTop (mkF m 75 #[.val (.ref a1), .val (.int (Int32.ofNat (i + 1))), .val (.int (Int32.ofNat cs.length)), .val (.int (0 : Int32)), .val (.int (cs.getD i 0)), .val (.int (cs.getD (i + 1) 0))] []))
        refine own_st (fun _ k => XS.iload X107.here hx rfl (hb hby d27_75) rfl k) ?_
        show own_Go p e below s _ _ _ (T107.setTop (mkF m 77 #[.val (.ref a1), .val (.int (Int32.ofNat (i + 1))), .val (.int (Int32.ofNat cs.length)), .val (.int (0 : Int32)), .val (.int (cs.getD i 0)), .val (.int (cs.getD (i + 1) 0))] [(.int (cs.getD i 0))]))
        refine own_st (fun _ k => XS.iload X107.here hx rfl (hb hby d27_77) rfl k) ?_
        show own_Go p e below s _ _ _ (T107.setTop (mkF m 79 #[.val (.ref a1), .val (.int (Int32.ofNat (i + 1))), .val (.int (Int32.ofNat cs.length)), .val (.int (0 : Int32)), .val (.int (cs.getD i 0)), .val (.int (cs.getD (i + 1) 0))] [(.int (cs.getD (i + 1) 0)), (.int (cs.getD i 0))]))
        obtain ⟨T109, v109, L109, h109, X109, e109, q109, st109⟩ := own_callS X107 hx hZ (y := (⟨"java/lang/Character", "toCodePoint", "(CC)I"⟩ : MethodName)) hown (hw _ (List.mem_of_getElem? (i := 135) rfl)) (hw _ (List.mem_of_getElem? (i := 136) rfl)) (hw _ (List.mem_of_getElem? (i := 120) rfl)) (hw _ (List.mem_of_getElem? (i := 137) rfl)) (by decide) (own_bk (W := 0) (tcW l Z a0 hw (cs.getD i 0) (cs.getD (i + 1) 0) h0 n0 O0) hZ (hw _ (List.mem_of_getElem? (i := 137) rfl)) (hw _ (List.mem_of_getElem? (i := 120) rfl)) (by decide) (by decide)) e107 (by decide) (by decide) (g := (mkF m 79 #[.val (.ref a1), .val (.int (Int32.ofNat (i + 1))), .val (.int (Int32.ofNat cs.length)), .val (.int (0 : Int32)), .val (.int (cs.getD i 0)), .val (.int (cs.getD (i + 1) 0))] [(.int (cs.getD (i + 1) 0)), (.int (cs.getD i 0))])) rfl (by rw [hml]; rfl) (argsL := [(.int (cs.getD i 0)), (.int (cs.getD (i + 1) 0))]) (rest := []) (lenOf pd__28CC_29I rfl) rfl rfl (by show 2 * 0 + _ ≤ _; exact Nat.le_of_eq rfl) (hb hby d27_79)
        obtain ⟨rfl, N109q, hq109⟩ := q109
        replace e109 := e109.trans hq109
        refine own_st st109 ?_
        have N109 := Fr.app N107 N109q
        show own_Go p e below s _ _ _ (T109.setTop (mkF m 82 #[.val (.ref a1), .val (.int (Int32.ofNat (i + 1))), .val (.int (Int32.ofNat cs.length)), .val (.int (0 : Int32)), .val (.int (cs.getD i 0)), .val (.int (cs.getD (i + 1) 0))] [(.int (own_tcp (cs.getD i 0) (cs.getD (i + 1) 0)))]))
        exact own_ret X109 hx hlk e109 hret rfl (Or.inl ⟨rfl, Or.inl rfl, _, rfl⟩) (hb hby d27_82) (by decide) (by decide) ⟨by unfold own_cp; rw [if_pos ⟨own_ifT c104, hi1, own_ifT c108⟩], N109, rfl⟩
    · refine own_st (fun _ k => XS.icmpYes X103.here hx rfl (pc0 := 48) (pc' := 83) rfl (hb hby d27_48) rfl (flt c105).2.1 (by decide) (by decide) k) ?_
      show own_Go p e below s _ _ _ (T103.setTop (mkF m 83 #[.val (.ref a1), .val (.int (Int32.ofNat (i + 1))), .val (.int (Int32.ofNat cs.length)), .val (.int (0 : Int32)), .val (.int (cs.getD i 0)), .unset] []))
      refine own_st (fun _ k => XS.iload X103.here hx rfl (hb hby d27_83) rfl k) ?_
      show own_Go p e below s _ _ _ (T103.setTop (mkF m 85 #[.val (.ref a1), .val (.int (Int32.ofNat (i + 1))), .val (.int (Int32.ofNat cs.length)), .val (.int (0 : Int32)), .val (.int (cs.getD i 0)), .unset] [(.int (cs.getD i 0))]))
      exact own_ret X103 hx hlk e103 hret rfl (Or.inl ⟨rfl, Or.inl rfl, _, rfl⟩) (hb hby d27_85) (by decide) (by decide) ⟨by unfold own_cp; rw [if_neg (fun q => c105 ((own_nlt (by omega) (by omega)).mpr q.2.1))], N103, rfl⟩
theorem d26_0 : decode jdk_52_method_8_code 0 = .ok (.aload_n 0, 1) := by decide +kernel
theorem d26_1 : decode jdk_52_method_8_code 1 = .ok (.iload_n 1, 1) := by decide +kernel
theorem d26_2 : decode jdk_52_method_8_code 2 = .ok (.iload_n 2, 1) := by decide +kernel
theorem d26_3 : decode jdk_52_method_8_code 3 = .ok (.iconst 0, 1) := by decide +kernel
theorem pd__28_5bBIIZ_29I : parseMethodDescriptor "([BIIZ)I" = some ⟨[(.array .byte), .int, .int, .boolean], some .int⟩ := by decide +kernel
theorem d26_4 : decode jdk_52_method_8_code 4 = .ok (.invokestatic 88, 3) := by decide +kernel
theorem d26_7 : decode jdk_52_method_8_code 7 = .ok (.ireturn, 1) := by decide +kernel
theorem ef_cp3 (m : MethodId) (x0 : Addr) (x1 : Int32) (x2 : Int32) : entryFrame m #[(.ref x0), (.int x1), (.int x2)] 3 = mkF m 0 #[.val (.ref x0), .val (.int x1), .val (.int x2)] [] := by (first | (simp [entryFrame, mkF, argsToLocals, Value.category]; done) | rfl)
abbrev cp3R : Room := { frames := 2, cells := 0, slots := 0, locals := 30 }
set_option maxRecDepth 65536 in
set_option maxHeartbeats 40000000 in
theorem cp3 (l : Launch) (Z : State) (a0 : Array Value) (hw : ∀ d ∈ tables_1, d.before a0 Z = true) (a1 : Nat) (k1 : ClassId) (cs : List Int32) (i : Nat) (h0 : Heap) (n0 : Nat) (O0 : Old Z n0 h0) (UT : own_U16 Z) (hi : i < cs.length) (hk : cs.length ≤ 2) (hbd : ∀ c ∈ cs, ¬ c < 0 ∧ ¬ (65535 : Int32) < c) (V1 : Arv Z h0 a1 k1 .byte (Int32.ofNat (2 * cs.length)) (StrChars.Road.wideBytes cs) (.int 0)) :
    own_C l Z (⟨"java/lang/StringUTF16", "codePointAt", "([BII)I"⟩ : MethodName) jdk_52_method_8_code 3 (some .int) [] cp3R #[(.ref a1), (.int (Int32.ofNat i)), (.int (Int32.ofNat cs.length))] h0 (fun v h L => v = some (.int (own_cp cs i)) ∧ Fr n0 L ∧ h = h0) := by
  refine own_body (plainFor_of_name pn_java_lang_StringUTF16) ?_
  intro p e s m below meth c T0 X0 hx hby hml hZ hown hnm hret hlk e0
  have N0 := Fr.nil n0
  have zO := own_old O0
  refine own_st (fun _ k => castTop (ef_cp3 m a1 (Int32.ofNat i) (Int32.ofNat cs.length)) k) ?_
  show own_Go p e below s _ _ _ (T0.setTop (mkF m 0 #[.val (.ref a1), .val (.int (Int32.ofNat i)), .val (.int (Int32.ofNat cs.length))] []))
  refine own_st (fun _ k => XS.aloadN X0.here hx rfl (hb hby d26_0) rfl rfl k) ?_
  show own_Go p e below s _ _ _ (T0.setTop (mkF m 1 #[.val (.ref a1), .val (.int (Int32.ofNat i)), .val (.int (Int32.ofNat cs.length))] [(.ref a1)]))
  refine own_st (fun _ k => XS.iloadN X0.here hx rfl (hb hby d26_1) rfl k) ?_
  show own_Go p e below s _ _ _ (T0.setTop (mkF m 2 #[.val (.ref a1), .val (.int (Int32.ofNat i)), .val (.int (Int32.ofNat cs.length))] [(.int (Int32.ofNat i)), (.ref a1)]))
  refine own_st (fun _ k => XS.iloadN X0.here hx rfl (hb hby d26_2) rfl k) ?_
  show own_Go p e below s _ _ _ (T0.setTop (mkF m 3 #[.val (.ref a1), .val (.int (Int32.ofNat i)), .val (.int (Int32.ofNat cs.length))] [(.int (Int32.ofNat cs.length)), (.int (Int32.ofNat i)), (.ref a1)]))
  refine own_st (fun _ k => XS.iconst X0.here hx rfl (hb hby d26_3) k) ?_
  show own_Go p e below s _ _ _ (T0.setTop (mkF m 4 #[.val (.ref a1), .val (.int (Int32.ofNat i)), .val (.int (Int32.ofNat cs.length))] [(.int (0 : Int32)), (.int (Int32.ofNat cs.length)), (.int (Int32.ofNat i)), (.ref a1)]))
  obtain ⟨T101, v101, L101, h101, X101, e101, q101, st101⟩ := own_callS X0 hx hZ (y := (⟨"java/lang/StringUTF16", "codePointAt", "([BIIZ)I"⟩ : MethodName)) hown (hw _ (List.mem_of_getElem? (i := 115) rfl)) (hw _ (List.mem_of_getElem? (i := 116) rfl)) (hw _ (List.mem_of_getElem? (i := 65) rfl)) (hw _ (List.mem_of_getElem? (i := 117) rfl)) (by decide) (own_bk (W := 0) (cp4 l Z a0 hw a1 _ cs i h0 n0 O0 UT hi hk hbd V1) hZ (hw _ (List.mem_of_getElem? (i := 117) rfl)) (hw _ (List.mem_of_getElem? (i := 65) rfl)) (by decide) (by decide)) e0 (by decide) (by decide) (g := (mkF m 4 #[.val (.ref a1), .val (.int (Int32.ofNat i)), .val (.int (Int32.ofNat cs.length))] [(.int (0 : Int32)), (.int (Int32.ofNat cs.length)), (.int (Int32.ofNat i)), (.ref a1)])) rfl (by rw [hml]; rfl) (argsL := [(.ref a1), (.int (Int32.ofNat i)), (.int (Int32.ofNat cs.length)), (.int (0 : Int32))]) (rest := []) (lenOf pd__28_5bBIIZ_29I rfl) rfl rfl (by show 2 * 0 + _ ≤ _; exact Nat.le_of_eq rfl) (hb hby d26_4)
  obtain ⟨rfl, N101q, hq101⟩ := q101
  replace e101 := e101.trans hq101
  refine own_st st101 ?_
  have N101 := Fr.app N0 N101q
  show own_Go p e below s _ _ _ (T101.setTop (mkF m 7 #[.val (.ref a1), .val (.int (Int32.ofNat i)), .val (.int (Int32.ofNat cs.length))] [(.int (own_cp cs i))]))
  exact own_ret X101 hx hlk e101 hret rfl (Or.inl ⟨rfl, Or.inl rfl, _, rfl⟩) (hb hby d26_7) (by decide) (by decide) ⟨rfl, N101, rfl⟩
theorem d23_0 : decode jdk_42_method_154_code 0 = .ok (.getstatic 38, 3) := by decide +kernel
theorem d23_3 : decode jdk_42_method_154_code 3 = .ok (.ifCond .eq 14, 3) := by decide +kernel
theorem d23_6 : decode jdk_42_method_154_code 6 = .ok (.aload_n 0, 1) := by decide +kernel
theorem d23_7 : decode jdk_42_method_154_code 7 = .ok (.getfield 15, 3) := by decide +kernel
theorem d23_10 : decode jdk_42_method_154_code 10 = .ok (.ifCond .ne 7, 3) := by decide +kernel
theorem d23_17 : decode jdk_42_method_154_code 17 = .ok (.iconst 0, 1) := by decide +kernel
theorem d23_18 : decode jdk_42_method_154_code 18 = .ok (.ireturn, 1) := by decide +kernel
theorem ef_il1 (m : MethodId) (x0 : Addr) : entryFrame m #[(.ref x0)] 1 = mkF m 0 #[.val (.ref x0)] [] := by (first | (simp [entryFrame, mkF, argsToLocals, Value.category]; done) | rfl)
abbrev il1R : Room := { frames := 0, cells := 0, slots := 0, locals := 0 }
set_option maxRecDepth 65536 in
set_option maxHeartbeats 40000000 in
theorem il1 (l : Launch) (Z : State) (a0 : Array Value) (hw : ∀ d ∈ tables_1, d.before a0 Z = true) (a1 : Nat) (h0 : Heap) (n0 : Nat) (O0 : Old Z n0 h0) (CS : own_CS Z) (F1 : Fld Z h0 a1 "java/lang/String" "coder" "B" (.int 1)) :
    own_C l Z (⟨"java/lang/String", "isLatin1", "()Z"⟩ : MethodName) jdk_42_method_154_code 1 (some .boolean) [] il1R #[(.ref a1)] h0 (fun v h L => v = some (.int 0) ∧ Fr n0 L ∧ h = h0) := by
  refine own_body (plainFor_of_name pn_java_lang_String) ?_
  intro p e s m below meth c T0 X0 hx hby hml hZ hown hnm hret hlk e0
  have N0 := Fr.nil n0
  have zO := own_old O0
  obtain ⟨zc, Sc, hzc⟩ := id CS
  refine own_st (fun _ k => castTop (ef_il1 m a1) k) ?_
  show own_Go p e below s _ _ _ (T0.setTop (mkF m 0 #[.val (.ref a1)] []))
  obtain ⟨T101, X101, e101, st101⟩ := getS2 X0 hx hZ hown (host := "") (Or.inl (hw _ (List.mem_of_getElem? (i := 51) rfl))) Via.refl e0 (Sc.ext O0.2) (g := (mkF m 0 #[.val (.ref a1)] [])) rfl (hb hby d23_0)
  refine own_st st101 ?_
  show own_Go p e below s _ _ _ (T101.setTop (mkF m 3 #[.val (.ref a1)] [(.int zc)]))
  refine own_st (fun _ k => XS.ifNo X101.here hx rfl (hb hby d23_3) rfl ((if0 _ _).trans (feq hzc).1) k) ?_
  show own_Go p e below s _ _ _ (T101.setTop (mkF m 6 #[.val (.ref a1)] []))
  refine own_st (fun _ k => XS.aloadN X101.here hx rfl (hb hby d23_6) rfl rfl k) ?_
  show own_Go p e below s _ _ _ (T101.setTop (mkF m 7 #[.val (.ref a1)] [(.ref a1)]))
  obtain ⟨T102, X102, e102, st102⟩ := getF X101 hx hZ hown (host := "") (Or.inl (hw _ (List.mem_of_getElem? (i := 29) rfl))) Via.refl e101 F1 (g := (mkF m 7 #[.val (.ref a1)] [(.ref a1)])) rfl rfl (hb hby d23_7)
  refine own_st st102 ?_
  show own_Go p e below s _ _ _ (T102.setTop (mkF m 10 #[.val (.ref a1)] [(.int (1 : Int32))]))
  refine own_st (fun _ k => XS.ifYes X102.here hx rfl (pc0 := 10) (pc' := 17) rfl (hb hby d23_10) rfl ((if0 _ _).trans (feq (by decide)).2) (by decide) (by decide) k) ?_
  show own_Go p e below s _ _ _ (T102.setTop (mkF m 17 #[.val (.ref a1)] []))
  refine own_st (fun _ k => XS.iconst X102.here hx rfl (hb hby d23_17) k) ?_
  show own_Go p e below s _ _ _ (T102.setTop (mkF m 18 #[.val (.ref a1)] [(.int (0 : Int32))]))
  exact own_ret X102 hx hlk e102 hret (by decide) (Or.inl ⟨rfl, Or.inr (Or.inl rfl), _, rfl⟩) (hb hby d23_18) (by decide) (by decide) ⟨rfl, N0, rfl⟩
theorem d23_13 : decode jdk_42_method_154_code 13 = .ok (.iconst 1, 1) := by decide +kernel
theorem d23_14 : decode jdk_42_method_154_code 14 = .ok (.goto 4, 3) := by decide +kernel
theorem ef_il0 (m : MethodId) (x0 : Addr) : entryFrame m #[(.ref x0)] 1 = mkF m 0 #[.val (.ref x0)] [] := by (first | (simp [entryFrame, mkF, argsToLocals, Value.category]; done) | rfl)
abbrev il0R : Room := { frames := 0, cells := 0, slots := 0, locals := 0 }
set_option maxRecDepth 65536 in
set_option maxHeartbeats 40000000 in
theorem il0 (l : Launch) (Z : State) (a0 : Array Value) (hw : ∀ d ∈ tables_1, d.before a0 Z = true) (a1 : Nat) (h0 : Heap) (n0 : Nat) (O0 : Old Z n0 h0) (CS : own_CS Z) (F1 : Fld Z h0 a1 "java/lang/String" "coder" "B" (.int 0)) :
    own_C l Z (⟨"java/lang/String", "isLatin1", "()Z"⟩ : MethodName) jdk_42_method_154_code 1 (some .boolean) [] il0R #[(.ref a1)] h0 (fun v h L => v = some (.int 1) ∧ Fr n0 L ∧ h = h0) := by
  refine own_body (plainFor_of_name pn_java_lang_String) ?_
  intro p e s m below meth c T0 X0 hx hby hml hZ hown hnm hret hlk e0
  have N0 := Fr.nil n0
  have zO := own_old O0
  obtain ⟨zc, Sc, hzc⟩ := id CS
  refine own_st (fun _ k => castTop (ef_il0 m a1) k) ?_
  show own_Go p e below s _ _ _ (T0.setTop (mkF m 0 #[.val (.ref a1)] []))
  obtain ⟨T101, X101, e101, st101⟩ := getS2 X0 hx hZ hown (host := "") (Or.inl (hw _ (List.mem_of_getElem? (i := 51) rfl))) Via.refl e0 (Sc.ext O0.2) (g := (mkF m 0 #[.val (.ref a1)] [])) rfl (hb hby d23_0)
  refine own_st st101 ?_
  show own_Go p e below s _ _ _ (T101.setTop (mkF m 3 #[.val (.ref a1)] [(.int zc)]))
  refine own_st (fun _ k => XS.ifNo X101.here hx rfl (hb hby d23_3) rfl ((if0 _ _).trans (feq hzc).1) k) ?_
  show own_Go p e below s _ _ _ (T101.setTop (mkF m 6 #[.val (.ref a1)] []))
  refine own_st (fun _ k => XS.aloadN X101.here hx rfl (hb hby d23_6) rfl rfl k) ?_
  show own_Go p e below s _ _ _ (T101.setTop (mkF m 7 #[.val (.ref a1)] [(.ref a1)]))
  obtain ⟨T102, X102, e102, st102⟩ := getF X101 hx hZ hown (host := "") (Or.inl (hw _ (List.mem_of_getElem? (i := 29) rfl))) Via.refl e101 F1 (g := (mkF m 7 #[.val (.ref a1)] [(.ref a1)])) rfl rfl (hb hby d23_7)
  refine own_st st102 ?_
  show own_Go p e below s _ _ _ (T102.setTop (mkF m 10 #[.val (.ref a1)] [(.int (0 : Int32))]))
  refine own_st (fun _ k => XS.ifNo X102.here hx rfl (hb hby d23_10) rfl ((if0 _ _).trans (teq (by decide)).2) k) ?_
  show own_Go p e below s _ _ _ (T102.setTop (mkF m 13 #[.val (.ref a1)] []))
  refine own_st (fun _ k => XS.iconst X102.here hx rfl (hb hby d23_13) k) ?_
  show own_Go p e below s _ _ _ (T102.setTop (mkF m 14 #[.val (.ref a1)] [(.int (1 : Int32))]))
  refine own_st (fun _ k => XS.goto X102.here hx rfl (pc0 := 14) (pc' := 18) rfl (hb hby d23_14) (by decide) (by decide) k) ?_
  show own_Go p e below s _ _ _ (T102.setTop (mkF m 18 #[.val (.ref a1)] [(.int (1 : Int32))]))
  exact own_ret X102 hx hlk e102 hret (by decide) (Or.inl ⟨rfl, Or.inr (Or.inl rfl), _, rfl⟩) (hb hby d23_18) (by decide) (by decide) ⟨rfl, N0, rfl⟩
theorem d22_0 : decode jdk_42_method_57_code 0 = .ok (.aload_n 0, 1) := by decide +kernel
theorem pd__28_29Z : parseMethodDescriptor "()Z" = some ⟨[], some .boolean⟩ := by decide +kernel
theorem d22_1 : decode jdk_42_method_57_code 1 = .ok (.invokevirtual 492, 3) := by decide +kernel
theorem d22_4 : decode jdk_42_method_57_code 4 = .ok (.ifCond .eq 23, 3) := by decide +kernel
theorem d22_27 : decode jdk_42_method_57_code 27 = .ok (.aload_n 0, 1) := by decide +kernel
theorem d22_28 : decode jdk_42_method_57_code 28 = .ok (.getfield 9, 3) := by decide +kernel
theorem d22_31 : decode jdk_42_method_57_code 31 = .ok (.arraylength, 1) := by decide +kernel
theorem d22_32 : decode jdk_42_method_57_code 32 = .ok (.iconst 1, 1) := by decide +kernel
theorem d22_33 : decode jdk_42_method_57_code 33 = .ok (.ishr, 1) := by decide +kernel
theorem d22_34 : decode jdk_42_method_57_code 34 = .ok (.istore_n 2, 1) := by decide +kernel
theorem d22_35 : decode jdk_42_method_57_code 35 = .ok (.iload_n 1, 1) := by decide +kernel
theorem d22_36 : decode jdk_42_method_57_code 36 = .ok (.iload_n 2, 1) := by decide +kernel
theorem pd__28II_29V : parseMethodDescriptor "(II)V" = some ⟨[.int, .int], none⟩ := by decide +kernel
theorem d22_37 : decode jdk_42_method_57_code 37 = .ok (.invokestatic 499, 3) := by decide +kernel
theorem d22_40 : decode jdk_42_method_57_code 40 = .ok (.aload_n 0, 1) := by decide +kernel
theorem d22_41 : decode jdk_42_method_57_code 41 = .ok (.getfield 9, 3) := by decide +kernel
theorem d22_44 : decode jdk_42_method_57_code 44 = .ok (.iload_n 1, 1) := by decide +kernel
theorem d22_45 : decode jdk_42_method_57_code 45 = .ok (.iload_n 2, 1) := by decide +kernel
theorem pd__28_5bBII_29I : parseMethodDescriptor "([BII)I" = some ⟨[(.array .byte), .int, .int], some .int⟩ := by decide +kernel
theorem d22_46 : decode jdk_42_method_57_code 46 = .ok (.invokestatic 502, 3) := by decide +kernel
theorem d22_49 : decode jdk_42_method_57_code 49 = .ok (.ireturn, 1) := by decide +kernel
theorem ef_cpU (m : MethodId) (x0 : Addr) (x1 : Int32) : entryFrame m #[(.ref x0), (.int x1)] 3 = mkF m 0 #[.val (.ref x0), .val (.int x1), .unset] [] := by (first | (simp [entryFrame, mkF, argsToLocals, Value.category]; done) | rfl)
abbrev cpUR : Room := { frames := 3, cells := 0, slots := 0, locals := 44 }
set_option maxRecDepth 65536 in
set_option maxHeartbeats 40000000 in
theorem cpU (l : Launch) (Z : State) (a0 : Array Value) (hw : ∀ d ∈ tables_1, d.before a0 Z = true) (a1 : Nat) (cs : List Int32) (i : Nat) (h0 : Heap) (n0 : Nat) (O0 : Old Z n0 h0) (CS : own_CS Z) (FM : own_FM Z) (UT : own_U16 Z) (hi : i < cs.length) (hk : cs.length ≤ 2) (S1 : own_Str Z h0 a1 cs) (hlat : ¬ (∀ c ∈ cs, ¬ (255 : Int32) < c)) :
    own_C l Z (⟨"java/lang/String", "codePointAt", "(I)I"⟩ : MethodName) jdk_42_method_57_code 3 (some .int) [] cpUR #[(.ref a1), (.int (Int32.ofNat i))] h0 (fun v h L => v = some (.int (own_cp cs i)) ∧ Fr n0 L ∧ h = h0) := by
  refine own_body (plainFor_of_name pn_java_lang_String) ?_
  intro p e s m below meth c T0 X0 hx hby hml hZ hown hnm hret hlk e0
  have N0 := Fr.nil n0
  have zO := own_old O0
  obtain ⟨E1, t1, kb1, cd1, N21, vs1, F1, F2, A1, r1, hbd, r3⟩ := id S1
  obtain ⟨rfl, rfl, rfl⟩ : cd1 = 1 ∧ N21 = Int32.ofNat (2 * cs.length) ∧ vs1 = StrChars.Road.wideBytes cs := by
    rcases r1 with ⟨-, -, -, q⟩ | ⟨q1, q2, q3, -⟩
    · exact absurd q hlat
    · exact ⟨q1, q2, q3⟩
  refine own_st (fun _ k => castTop (ef_cpU m a1 (Int32.ofNat i)) k) ?_
  show own_Go p e below s _ _ _ (T0.setTop (mkF m 0 #[.val (.ref a1), .val (.int (Int32.ofNat i)), .unset] []))
  refine own_st (fun _ k => XS.aloadN X0.here hx rfl (hb hby d22_0) rfl rfl k) ?_
  show own_Go p e below s _ _ _ (T0.setTop (mkF m 1 #[.val (.ref a1), .val (.int (Int32.ofNat i)), .unset] [(.ref a1)]))
  obtain ⟨T101, v101, L101, h101, X101, e101, q101, st101⟩ := own_callV X0 hx hZ (y := (⟨"java/lang/String", "isLatin1", "()Z"⟩ : MethodName)) (z := (⟨"java/lang/String", "isLatin1", "()Z"⟩ : MethodName)) hown (hw _ (List.mem_of_getElem? (i := 99) rfl)) (hw _ (List.mem_of_getElem? (i := 100) rfl)) (notFace_of_selects (args := #[]) (mvT hZ (hw _ (List.mem_of_getElem? (i := 102) rfl)))) (hw _ (List.mem_of_getElem? (i := 102) rfl)) (hw _ (List.mem_of_getElem? (i := 101) rfl)) (by decide) (own_bk (W := 0) (il1 l Z a0 hw a1 h0 n0 O0 CS F2) hZ (hw _ (List.mem_of_getElem? (i := 103) rfl)) (hw _ (List.mem_of_getElem? (i := 10) rfl)) (by decide) (by decide)) e0 E1 (by decide) (by decide) (g := (mkF m 1 #[.val (.ref a1), .val (.int (Int32.ofNat i)), .unset] [(.ref a1)])) rfl (by rw [hml]; rfl) (argsL := []) (rest := []) (lenOf pd__28_29Z rfl) rfl rfl (by show 2 * 0 + _ ≤ _; exact Nat.le_of_eq rfl) (hb hby d22_1)
  obtain ⟨rfl, N101q, hq101⟩ := q101
  replace e101 := e101.trans hq101
  refine own_st st101 ?_
  have N101 := Fr.app N0 N101q
  show own_Go p e below s _ _ _ (T101.setTop (mkF m 4 #[.val (.ref a1), .val (.int (Int32.ofNat i)), .unset] [(.int (0 : Int32))]))
  refine own_st (fun _ k => XS.ifYes X101.here hx rfl (pc0 := 4) (pc' := 27) rfl (hb hby d22_4) rfl ((if0 _ _).trans (teq (by decide)).1) (by decide) (by decide) k) ?_
  show own_Go p e below s _ _ _ (T101.setTop (mkF m 27 #[.val (.ref a1), .val (.int (Int32.ofNat i)), .unset] []))
  refine own_st (fun _ k => XS.aloadN X101.here hx rfl (hb hby d22_27) rfl rfl k) ?_
  show own_Go p e below s _ _ _ (T101.setTop (mkF m 28 #[.val (.ref a1), .val (.int (Int32.ofNat i)), .unset] [(.ref a1)]))
  obtain ⟨T102, X102, e102, st102⟩ := getF X101 hx hZ hown (host := "") (Or.inl (hw _ (List.mem_of_getElem? (i := 28) rfl))) Via.refl e101 F1 (g := (mkF m 28 #[.val (.ref a1), .val (.int (Int32.ofNat i)), .unset] [(.ref a1)])) rfl rfl (hb hby d22_28)
  refine own_st st102 ?_
  show own_Go p e below s _ _ _ (T102.setTop (mkF m 31 #[.val (.ref a1), .val (.int (Int32.ofNat i)), .unset] [(.ref t1)]))
  obtain ⟨c103, Ar103, q103, S103, M103, H103, U103⟩ := id A1
  refine own_st (X102.arraylength hx (by rw [e102]; exact Ar103.1) (State.isArrayOf_alike hZ.alike Ar103.2.1) (g := (mkF m 31 #[.val (.ref a1), .val (.int (Int32.ofNat i)), .unset] [(.ref t1)])) rfl rfl (hb hby d22_31)) ?_
  rw [len_of S103 M103]
  show own_Go p e below s _ _ _ (T102.setTop (mkF m 32 #[.val (.ref a1), .val (.int (Int32.ofNat i)), .unset] [(.int (Int32.ofNat (2 * cs.length)))]))
  refine own_st (fun _ k => XS.iconst X102.here hx rfl (hb hby d22_32) k) ?_
  show own_Go p e below s _ _ _ (T102.setTop (mkF m 33 #[.val (.ref a1), .val (.int (Int32.ofNat i)), .unset] [(.int (1 : Int32)), (.int (Int32.ofNat (2 * cs.length)))]))
  refine own_st (fun _ k => XS.ishr X102.here hx rfl (hb hby d22_33) rfl k) ?_
  show own_Go p e below s _ _ _ (T102.setTop (mkF m 34 #[.val (.ref a1), .val (.int (Int32.ofNat i)), .unset] [(.int ((Int32.ofNat (2 * cs.length)) >>> ((1 : Int32) &&& 31)))]))
  rw [own_shr1 hk]
  show own_Go p e below s _ _ _ (T102.setTop (mkF m 34 #[.val (.ref a1), .val (.int (Int32.ofNat i)), .unset] [(.int (Int32.ofNat cs.length))]))
  refine own_st (fun _ k => XS.istoreN X102.here hx rfl (hb hby d22_34) rfl (l' := #[.val (.ref a1), .val (.int (Int32.ofNat i)), .val (.int (Int32.ofNat cs.length))]) rfl k) ?_
  show own_Go p e below s _ _ _ (T102.setTop (mkF m 35 #[.val (.ref a1), .val (.int (Int32.ofNat i)), .val (.int (Int32.ofNat cs.length))] []))
  refine own_st (fun _ k => XS.iloadN X102.here hx rfl (hb hby d22_35) rfl k) ?_
  show own_Go p e below s _ _ _ (T102.setTop (mkF m 36 #[.val (.ref a1), .val (.int (Int32.ofNat i)), .val (.int (Int32.ofNat cs.length))] [(.int (Int32.ofNat i))]))
  refine own_st (fun _ k => XS.iloadN X102.here hx rfl (hb hby d22_36) rfl k) ?_
  show own_Go p e below s _ _ _ (T102.setTop (mkF m 37 #[.val (.ref a1), .val (.int (Int32.ofNat i)), .val (.int (Int32.ofNat cs.length))] [(.int (Int32.ofNat cs.length)), (.int (Int32.ofNat i))]))
  obtain ⟨T104, v104, L104, h104, X104, e104, q104, st104⟩ := own_callS X102 hx hZ (y := (⟨"java/lang/String", "checkIndex", "(II)V"⟩ : MethodName)) hown (hw _ (List.mem_of_getElem? (i := 104) rfl)) (hw _ (List.mem_of_getElem? (i := 105) rfl)) (hw _ (List.mem_of_getElem? (i := 10) rfl)) (hw _ (List.mem_of_getElem? (i := 106) rfl)) (by decide) (own_bk (W := 0) (ckS l Z a0 hw (Int32.ofNat i) (Int32.ofNat cs.length) h0 n0 O0 FM (own_nn (by omega)) ((own_nlt (by omega) (by omega)).mpr hi)) hZ (hw _ (List.mem_of_getElem? (i := 106) rfl)) (hw _ (List.mem_of_getElem? (i := 10) rfl)) (by decide) (by decide)) e102 (by decide) (by decide) (g := (mkF m 37 #[.val (.ref a1), .val (.int (Int32.ofNat i)), .val (.int (Int32.ofNat cs.length))] [(.int (Int32.ofNat cs.length)), (.int (Int32.ofNat i))])) rfl (by rw [hml]; rfl) (argsL := [(.int (Int32.ofNat i)), (.int (Int32.ofNat cs.length))]) (rest := []) (lenOf pd__28II_29V rfl) rfl rfl (by show 2 * 0 + _ ≤ _; exact Nat.le_of_eq rfl) (hb hby d22_37)
  obtain ⟨rfl, N104q, hq104⟩ := q104
  replace e104 := e104.trans hq104
  refine own_st st104 ?_
  have N104 := Fr.app N101 N104q
  show own_Go p e below s _ _ _ (T104.setTop (mkF m 40 #[.val (.ref a1), .val (.int (Int32.ofNat i)), .val (.int (Int32.ofNat cs.length))] []))
  refine own_st (fun _ k => XS.aloadN X104.here hx rfl (hb hby d22_40) rfl rfl k) ?_
  show own_Go p e below s _ _ _ (T104.setTop (mkF m 41 #[.val (.ref a1), .val (.int (Int32.ofNat i)), .val (.int (Int32.ofNat cs.length))] [(.ref a1)]))
  obtain ⟨T105, X105, e105, st105⟩ := getF X104 hx hZ hown (host := "") (Or.inl (hw _ (List.mem_of_getElem? (i := 28) rfl))) Via.refl e104 F1 (g := (mkF m 41 #[.val (.ref a1), .val (.int (Int32.ofNat i)), .val (.int (Int32.ofNat cs.length))] [(.ref a1)])) rfl rfl (hb hby d22_41)
  refine own_st st105 ?_
  show own_Go p e below s _ _ _ (T105.setTop (mkF m 44 #[.val (.ref a1), .val (.int (Int32.ofNat i)), .val (.int (Int32.ofNat cs.length))] [(.ref t1)]))
  refine own_st (fun _ k => XS.iloadN X105.here hx rfl (hb hby d22_44) rfl k) ?_
  show own_Go p e below s _ _ _ (T105.setTop (mkF m 45 #[.val (.ref a1), .val (.int (Int32.ofNat i)), .val (.int (Int32.ofNat cs.length))] [(.int (Int32.ofNat i)), (.ref t1)]))
  refine own_st (fun _ k => XS.iloadN X105.here hx rfl (hb hby d22_45) rfl k) ?_
  show own_Go p e below s _ _ _ (T105.setTop (mkF m 46 #[.val (.ref a1), .val (.int (Int32.ofNat i)), .val (.int (Int32.ofNat cs.length))] [(.int (Int32.ofNat cs.length)), (.int (Int32.ofNat i)), (.ref t1)]))
  obtain ⟨T106, v106, L106, h106, X106, e106, q106, st106⟩ := own_callS X105 hx hZ (y := (⟨"java/lang/StringUTF16", "codePointAt", "([BII)I"⟩ : MethodName)) hown (hw _ (List.mem_of_getElem? (i := 112) rfl)) (hw _ (List.mem_of_getElem? (i := 113) rfl)) (hw _ (List.mem_of_getElem? (i := 65) rfl)) (hw _ (List.mem_of_getElem? (i := 114) rfl)) (by decide) (own_bk (W := 0) (cp3 l Z a0 hw t1 _ cs i h0 n0 O0 UT hi hk hbd A1) hZ (hw _ (List.mem_of_getElem? (i := 114) rfl)) (hw _ (List.mem_of_getElem? (i := 65) rfl)) (by decide) (by decide)) e105 (by decide) (by decide) (g := (mkF m 46 #[.val (.ref a1), .val (.int (Int32.ofNat i)), .val (.int (Int32.ofNat cs.length))] [(.int (Int32.ofNat cs.length)), (.int (Int32.ofNat i)), (.ref t1)])) rfl (by rw [hml]; rfl) (argsL := [(.ref t1), (.int (Int32.ofNat i)), (.int (Int32.ofNat cs.length))]) (rest := []) (lenOf pd__28_5bBII_29I rfl) rfl rfl (by show 2 * 0 + _ ≤ _; exact Nat.le_of_eq rfl) (hb hby d22_46)
  obtain ⟨rfl, N106q, hq106⟩ := q106
  replace e106 := e106.trans hq106
  refine own_st st106 ?_
  have N106 := Fr.app N104 N106q
  show own_Go p e below s _ _ _ (T106.setTop (mkF m 49 #[.val (.ref a1), .val (.int (Int32.ofNat i)), .val (.int (Int32.ofNat cs.length))] [(.int (own_cp cs i))]))
  exact own_ret X106 hx hlk e106 hret rfl (Or.inl ⟨rfl, Or.inl rfl, _, rfl⟩) (hb hby d22_49) (by decide) (by decide) ⟨rfl, N106, rfl⟩
theorem d22_7 : decode jdk_42_method_57_code 7 = .ok (.iload_n 1, 1) := by decide +kernel
theorem d22_8 : decode jdk_42_method_57_code 8 = .ok (.aload_n 0, 1) := by decide +kernel
theorem d22_9 : decode jdk_42_method_57_code 9 = .ok (.getfield 9, 3) := by decide +kernel
theorem d22_12 : decode jdk_42_method_57_code 12 = .ok (.arraylength, 1) := by decide +kernel
theorem d22_13 : decode jdk_42_method_57_code 13 = .ok (.invokestatic 499, 3) := by decide +kernel
theorem d22_16 : decode jdk_42_method_57_code 16 = .ok (.aload_n 0, 1) := by decide +kernel
theorem d22_17 : decode jdk_42_method_57_code 17 = .ok (.getfield 9, 3) := by decide +kernel
theorem d22_20 : decode jdk_42_method_57_code 20 = .ok (.iload_n 1, 1) := by decide +kernel
theorem d22_21 : decode jdk_42_method_57_code 21 = .ok (.baload, 1) := by decide +kernel
theorem d22_22 : decode jdk_42_method_57_code 22 = .ok (.sipush 255, 3) := by decide +kernel
theorem d22_25 : decode jdk_42_method_57_code 25 = .ok (.iand, 1) := by decide +kernel
theorem d22_26 : decode jdk_42_method_57_code 26 = .ok (.ireturn, 1) := by decide +kernel
theorem ef_cpL (m : MethodId) (x0 : Addr) (x1 : Int32) : entryFrame m #[(.ref x0), (.int x1)] 3 = mkF m 0 #[.val (.ref x0), .val (.int x1), .unset] [] := by (first | (simp [entryFrame, mkF, argsToLocals, Value.category]; done) | rfl)
abbrev cpLR : Room := { frames := 3, cells := 0, slots := 0, locals := 44 }
set_option maxRecDepth 65536 in
set_option maxHeartbeats 40000000 in
theorem cpL (l : Launch) (Z : State) (a0 : Array Value) (hw : ∀ d ∈ tables_1, d.before a0 Z = true) (a1 : Nat) (cs : List Int32) (i : Nat) (h0 : Heap) (n0 : Nat) (O0 : Old Z n0 h0) (CS : own_CS Z) (FM : own_FM Z) (UT : own_U16 Z) (hi : i < cs.length) (hk : cs.length ≤ 2) (S1 : own_Str Z h0 a1 cs) (hlat : (∀ c ∈ cs, ¬ (255 : Int32) < c)) :
    own_C l Z (⟨"java/lang/String", "codePointAt", "(I)I"⟩ : MethodName) jdk_42_method_57_code 3 (some .int) [] cpLR #[(.ref a1), (.int (Int32.ofNat i))] h0 (fun v h L => v = some (.int (own_cp cs i)) ∧ Fr n0 L ∧ h = h0) := by
  refine own_body (plainFor_of_name pn_java_lang_String) ?_
  intro p e s m below meth c T0 X0 hx hby hml hZ hown hnm hret hlk e0
  have N0 := Fr.nil n0
  have zO := own_old O0
  obtain ⟨E1, t1, kb1, cd1, N21, vs1, F1, F2, A1, r1, hbd, r3⟩ := id S1
  obtain ⟨rfl, rfl, rfl⟩ : cd1 = 0 ∧ N21 = Int32.ofNat cs.length ∧ vs1 = (cs.map fun c => Value.int (StrChars.lo8 c)) := by
    rcases r1 with ⟨q1, q2, q3, -⟩ | ⟨-, -, -, c, q1, q2⟩
    · exact ⟨q1, q2, q3⟩
    · exact absurd q2 (hlat c q1)
  refine own_st (fun _ k => castTop (ef_cpL m a1 (Int32.ofNat i)) k) ?_
  show own_Go p e below s _ _ _ (T0.setTop (mkF m 0 #[.val (.ref a1), .val (.int (Int32.ofNat i)), .unset] []))
  refine own_st (fun _ k => XS.aloadN X0.here hx rfl (hb hby d22_0) rfl rfl k) ?_
  show own_Go p e below s _ _ _ (T0.setTop (mkF m 1 #[.val (.ref a1), .val (.int (Int32.ofNat i)), .unset] [(.ref a1)]))
  obtain ⟨T101, v101, L101, h101, X101, e101, q101, st101⟩ := own_callV X0 hx hZ (y := (⟨"java/lang/String", "isLatin1", "()Z"⟩ : MethodName)) (z := (⟨"java/lang/String", "isLatin1", "()Z"⟩ : MethodName)) hown (hw _ (List.mem_of_getElem? (i := 99) rfl)) (hw _ (List.mem_of_getElem? (i := 100) rfl)) (notFace_of_selects (args := #[]) (mvT hZ (hw _ (List.mem_of_getElem? (i := 102) rfl)))) (hw _ (List.mem_of_getElem? (i := 102) rfl)) (hw _ (List.mem_of_getElem? (i := 101) rfl)) (by decide) (own_bk (W := 0) (il0 l Z a0 hw a1 h0 n0 O0 CS F2) hZ (hw _ (List.mem_of_getElem? (i := 103) rfl)) (hw _ (List.mem_of_getElem? (i := 10) rfl)) (by decide) (by decide)) e0 E1 (by decide) (by decide) (g := (mkF m 1 #[.val (.ref a1), .val (.int (Int32.ofNat i)), .unset] [(.ref a1)])) rfl (by rw [hml]; rfl) (argsL := []) (rest := []) (lenOf pd__28_29Z rfl) rfl rfl (by show 2 * 0 + _ ≤ _; exact Nat.le_of_eq rfl) (hb hby d22_1)
  obtain ⟨rfl, N101q, hq101⟩ := q101
  replace e101 := e101.trans hq101
  refine own_st st101 ?_
  have N101 := Fr.app N0 N101q
  show own_Go p e below s _ _ _ (T101.setTop (mkF m 4 #[.val (.ref a1), .val (.int (Int32.ofNat i)), .unset] [(.int (1 : Int32))]))
  refine own_st (fun _ k => XS.ifNo X101.here hx rfl (hb hby d22_4) rfl ((if0 _ _).trans (feq (by decide)).1) k) ?_
  show own_Go p e below s _ _ _ (T101.setTop (mkF m 7 #[.val (.ref a1), .val (.int (Int32.ofNat i)), .unset] []))
  refine own_st (fun _ k => XS.iloadN X101.here hx rfl (hb hby d22_7) rfl k) ?_
  show own_Go p e below s _ _ _ (T101.setTop (mkF m 8 #[.val (.ref a1), .val (.int (Int32.ofNat i)), .unset] [(.int (Int32.ofNat i))]))
  refine own_st (fun _ k => XS.aloadN X101.here hx rfl (hb hby d22_8) rfl rfl k) ?_
  show own_Go p e below s _ _ _ (T101.setTop (mkF m 9 #[.val (.ref a1), .val (.int (Int32.ofNat i)), .unset] [(.ref a1), (.int (Int32.ofNat i))]))
  obtain ⟨T102, X102, e102, st102⟩ := getF X101 hx hZ hown (host := "") (Or.inl (hw _ (List.mem_of_getElem? (i := 28) rfl))) Via.refl e101 F1 (g := (mkF m 9 #[.val (.ref a1), .val (.int (Int32.ofNat i)), .unset] [(.ref a1), (.int (Int32.ofNat i))])) rfl rfl (hb hby d22_9)
  refine own_st st102 ?_
  show own_Go p e below s _ _ _ (T102.setTop (mkF m 12 #[.val (.ref a1), .val (.int (Int32.ofNat i)), .unset] [(.ref t1), (.int (Int32.ofNat i))]))
  obtain ⟨c103, Ar103, q103, S103, M103, H103, U103⟩ := id A1
  refine own_st (X102.arraylength hx (by rw [e102]; exact Ar103.1) (State.isArrayOf_alike hZ.alike Ar103.2.1) (g := (mkF m 12 #[.val (.ref a1), .val (.int (Int32.ofNat i)), .unset] [(.ref t1), (.int (Int32.ofNat i))])) rfl rfl (hb hby d22_12)) ?_
  rw [len_of S103 M103]
  show own_Go p e below s _ _ _ (T102.setTop (mkF m 13 #[.val (.ref a1), .val (.int (Int32.ofNat i)), .unset] [(.int (Int32.ofNat cs.length)), (.int (Int32.ofNat i))]))
  obtain ⟨T104, v104, L104, h104, X104, e104, q104, st104⟩ := own_callS X102 hx hZ (y := (⟨"java/lang/String", "checkIndex", "(II)V"⟩ : MethodName)) hown (hw _ (List.mem_of_getElem? (i := 104) rfl)) (hw _ (List.mem_of_getElem? (i := 105) rfl)) (hw _ (List.mem_of_getElem? (i := 10) rfl)) (hw _ (List.mem_of_getElem? (i := 106) rfl)) (by decide) (own_bk (W := 0) (ckS l Z a0 hw (Int32.ofNat i) (Int32.ofNat cs.length) h0 n0 O0 FM (own_nn (by omega)) ((own_nlt (by omega) (by omega)).mpr hi)) hZ (hw _ (List.mem_of_getElem? (i := 106) rfl)) (hw _ (List.mem_of_getElem? (i := 10) rfl)) (by decide) (by decide)) e102 (by decide) (by decide) (g := (mkF m 13 #[.val (.ref a1), .val (.int (Int32.ofNat i)), .unset] [(.int (Int32.ofNat cs.length)), (.int (Int32.ofNat i))])) rfl (by rw [hml]; rfl) (argsL := [(.int (Int32.ofNat i)), (.int (Int32.ofNat cs.length))]) (rest := []) (lenOf pd__28II_29V rfl) rfl rfl (by show 2 * 0 + _ ≤ _; exact Nat.le_of_eq rfl) (hb hby d22_13)
  obtain ⟨rfl, N104q, hq104⟩ := q104
  replace e104 := e104.trans hq104
  refine own_st st104 ?_
  have N104 := Fr.app N101 N104q
  show own_Go p e below s _ _ _ (T104.setTop (mkF m 16 #[.val (.ref a1), .val (.int (Int32.ofNat i)), .unset] []))
  refine own_st (fun _ k => XS.aloadN X104.here hx rfl (hb hby d22_16) rfl rfl k) ?_
  show own_Go p e below s _ _ _ (T104.setTop (mkF m 17 #[.val (.ref a1), .val (.int (Int32.ofNat i)), .unset] [(.ref a1)]))
  obtain ⟨T105, X105, e105, st105⟩ := getF X104 hx hZ hown (host := "") (Or.inl (hw _ (List.mem_of_getElem? (i := 28) rfl))) Via.refl e104 F1 (g := (mkF m 17 #[.val (.ref a1), .val (.int (Int32.ofNat i)), .unset] [(.ref a1)])) rfl rfl (hb hby d22_17)
  refine own_st st105 ?_
  show own_Go p e below s _ _ _ (T105.setTop (mkF m 20 #[.val (.ref a1), .val (.int (Int32.ofNat i)), .unset] [(.ref t1)]))
  refine own_st (fun _ k => XS.iloadN X105.here hx rfl (hb hby d22_20) rfl k) ?_
  show own_Go p e below s _ _ _ (T105.setTop (mkF m 21 #[.val (.ref a1), .val (.int (Int32.ofNat i)), .unset] [(.int (Int32.ofNat i)), (.ref t1)]))
  obtain ⟨c106, Ar106, q106, S106, M106, H106, U106⟩ := id A1
  have hi106 := inb_of (j := (Int32.ofNat i)) S106 ⟨own_nn (by omega), (own_nlt (by omega) (by omega)).mpr hi⟩
  refine own_st (X105.baloadBytes hx (j := (Int32.ofNat i)) (v := (.int (StrChars.lo8 (cs.getD i 0)))) (by rw [e105]; exact Ar106.1) (State.isArrayOf_alike hZ.alike Ar106.2.1) Ar106.2.2 hi106 (H106.at hi106 (by rw [own_tcn (by omega)]; exact own_gl cs hi)) (g := (mkF m 21 #[.val (.ref a1), .val (.int (Int32.ofNat i)), .unset] [(.int (Int32.ofNat i)), (.ref t1)])) rfl rfl (hb hby d22_21)) ?_
  show own_Go p e below s _ _ _ (T105.setTop (mkF m 22 #[.val (.ref a1), .val (.int (Int32.ofNat i)), .unset] [(.int (StrChars.lo8 (cs.getD i 0)))]))
  refine own_st (fun _ k => XS.sipush X105.here hx rfl (hb hby d22_22) k) ?_
  show own_Go p e below s _ _ _ (T105.setTop (mkF m 25 #[.val (.ref a1), .val (.int (Int32.ofNat i)), .unset] [(.int (255 : Int32)), (.int (StrChars.lo8 (cs.getD i 0)))]))
  refine own_st (fun _ k => XS.iand X105.here hx rfl (hb hby d22_25) rfl k) ?_
  show own_Go p e below s _ _ _ (T105.setTop (mkF m 26 #[.val (.ref a1), .val (.int (Int32.ofNat i)), .unset] [(.int ((StrChars.lo8 (cs.getD i 0)) &&& (255 : Int32)))]))
  exact own_ret X105 hx hlk e105 hret rfl (Or.inl ⟨rfl, Or.inl rfl, _, rfl⟩) (hb hby d22_26) (by decide) (by decide) ⟨by rw [own_lo (own_gin hbd hi).1 (own_gin hlat hi)]; unfold own_cp; rw [if_neg (fun q => own_nhs (own_gin hlat hi) q.1)], N104, rfl⟩
theorem cpA (l : Launch) (Z : State) (a0 : Array Value) (hw : ∀ d ∈ tables_1, d.before a0 Z = true) (a1 : Nat) (cs : List Int32) (i : Nat) (h0 : Heap) (n0 : Nat) (O0 : Old Z n0 h0) (CS : own_CS Z) (FM : own_FM Z) (UT : own_U16 Z) (hi : i < cs.length) (hk : cs.length ≤ 2) (S1 : own_Str Z h0 a1 cs) :
    own_C l Z (⟨"java/lang/String", "codePointAt", "(I)I"⟩ : MethodName) jdk_42_method_57_code 3 (some .int) [] cpUR #[.ref a1, .int (Int32.ofNat i)] h0 (fun v h L => v = some (.int (own_cp cs i)) ∧ Fr n0 L ∧ h = h0) := by
  by_cases hlat : ∀ c ∈ cs, ¬ (255 : Int32) < c
  · exact cpL l Z a0 hw a1 cs i h0 n0 O0 CS FM UT hi hk S1 hlat
  · exact cpU l Z a0 hw a1 cs i h0 n0 O0 CS FM UT hi hk S1 hlat
theorem d8_0 : decode prog_29_method_2_code 0 = .ok (.aload_n 0, 1) := by decide +kernel
theorem pd__28_29I : parseMethodDescriptor "()I" = some ⟨[], some .int⟩ := by decide +kernel
theorem d8_1 : decode prog_29_method_2_code 1 = .ok (.invokevirtual 7, 3) := by decide +kernel
theorem d8_4 : decode prog_29_method_2_code 4 = .ok (.aload_n 1, 1) := by decide +kernel
theorem d8_5 : decode prog_29_method_2_code 5 = .ok (.invokevirtual 7, 3) := by decide +kernel
theorem pd__28II_29I : parseMethodDescriptor "(II)I" = some ⟨[.int, .int], some .int⟩ := by decide +kernel
theorem d8_8 : decode prog_29_method_2_code 8 = .ok (.invokestatic 13, 3) := by decide +kernel
theorem d8_11 : decode prog_29_method_2_code 11 = .ok (.istore_n 2, 1) := by decide +kernel
theorem d8_12 : decode prog_29_method_2_code 12 = .ok (.iconst 0, 1) := by decide +kernel
theorem d8_13 : decode prog_29_method_2_code 13 = .ok (.istore_n 3, 1) := by decide +kernel
theorem d8_14 : decode prog_29_method_2_code 14 = .ok (.iload_n 3, 1) := by decide +kernel
theorem d8_15 : decode prog_29_method_2_code 15 = .ok (.iload_n 2, 1) := by decide +kernel
theorem d8_16 : decode prog_29_method_2_code 16 = .ok (.if_icmp .ge 43, 3) := by decide +kernel
theorem d8_19 : decode prog_29_method_2_code 19 = .ok (.aload_n 0, 1) := by decide +kernel
theorem d8_20 : decode prog_29_method_2_code 20 = .ok (.iload_n 3, 1) := by decide +kernel
theorem d8_21 : decode prog_29_method_2_code 21 = .ok (.invokevirtual 19, 3) := by decide +kernel
theorem d8_24 : decode prog_29_method_2_code 24 = .ok (.istore 4, 2) := by decide +kernel
theorem d8_26 : decode prog_29_method_2_code 26 = .ok (.aload_n 1, 1) := by decide +kernel
theorem d8_27 : decode prog_29_method_2_code 27 = .ok (.iload_n 3, 1) := by decide +kernel
theorem d8_28 : decode prog_29_method_2_code 28 = .ok (.invokevirtual 19, 3) := by decide +kernel
theorem d8_31 : decode prog_29_method_2_code 31 = .ok (.istore 5, 2) := by decide +kernel
theorem d8_33 : decode prog_29_method_2_code 33 = .ok (.iload 4, 2) := by decide +kernel
theorem d8_35 : decode prog_29_method_2_code 35 = .ok (.iload 5, 2) := by decide +kernel
theorem d8_37 : decode prog_29_method_2_code 37 = .ok (.if_icmp .eq 11, 3) := by decide +kernel
theorem d8_48 : decode prog_29_method_2_code 48 = .ok (.iload_n 3, 1) := by decide +kernel
theorem d8_49 : decode prog_29_method_2_code 49 = .ok (.iload 4, 2) := by decide +kernel
theorem d8_51 : decode prog_29_method_2_code 51 = .ok (.invokestatic 28, 3) := by decide +kernel
theorem d8_54 : decode prog_29_method_2_code 54 = .ok (.iadd, 1) := by decide +kernel
theorem d8_55 : decode prog_29_method_2_code 55 = .ok (.istore_n 3, 1) := by decide +kernel
theorem d8_56 : decode prog_29_method_2_code 56 = .ok (.goto (-42), 3) := by decide +kernel
theorem d8_59 : decode prog_29_method_2_code 59 = .ok (.aload_n 0, 1) := by decide +kernel
theorem d8_60 : decode prog_29_method_2_code 60 = .ok (.invokevirtual 7, 3) := by decide +kernel
theorem d8_63 : decode prog_29_method_2_code 63 = .ok (.aload_n 1, 1) := by decide +kernel
theorem d8_64 : decode prog_29_method_2_code 64 = .ok (.invokevirtual 7, 3) := by decide +kernel
theorem d8_67 : decode prog_29_method_2_code 67 = .ok (.invokestatic 23, 3) := by decide +kernel
theorem d8_70 : decode prog_29_method_2_code 70 = .ok (.ireturn, 1) := by decide +kernel
theorem d8_40 : decode prog_29_method_2_code 40 = .ok (.iload 4, 2) := by decide +kernel
theorem d8_42 : decode prog_29_method_2_code 42 = .ok (.iload 5, 2) := by decide +kernel
theorem d8_44 : decode prog_29_method_2_code 44 = .ok (.invokestatic 23, 3) := by decide +kernel
theorem d8_47 : decode prog_29_method_2_code 47 = .ok (.ireturn, 1) := by decide +kernel
theorem pn_com_example_vetch_vetch_util_CharacterOrder : plainName "com/example/vetch/vetch/util/CharacterOrder" = true := by first | (simp [plainName, overriddenIn]; done) | decide +kernel
theorem ef_cmW (m : MethodId) (x0 : Addr) (x1 : Addr) : entryFrame m #[(.ref x0), (.ref x1)] 6 = mkF m 0 #[.val (.ref x0), .val (.ref x1), .unset, .unset, .unset, .unset] [] := by (first | (simp [entryFrame, mkF, argsToLocals, Value.category]; done) | rfl)
abbrev cmWR : Room := { frames := 4, cells := 0, slots := 0, locals := 58 }
set_option maxRecDepth 65536 in
set_option maxHeartbeats 40000000 in
theorem cmW (l : Launch) (Z : State) (a0 : Array Value) (hw : ∀ d ∈ tables_1, d.before a0 Z = true) (a1 a2 : Nat) (cs ds : List Int32) (h0 : Heap) (n0 : Nat) (O0 : Old Z n0 h0) (CS : own_CS Z) (FM : own_FM Z) (UT : own_U16 Z) (hk1 : cs.length ≤ 2) (hk2 : ds.length ≤ 2) (S1 : own_Str Z h0 a1 cs) (S2 : own_Str Z h0 a2 ds) :
    own_C l Z (⟨"com/example/vetch/vetch/util/CharacterOrder", "compare", "(Ljava/lang/String;Ljava/lang/String;)I"⟩ : MethodName) prog_29_method_2_code 6 (some .int) [] cmWR #[(.ref a1), (.ref a2)] h0 (fun v h L => ∃ r : Int32, v = some (.int r) ∧ own_Cmp cs ds r ∧ Fr n0 L ∧ h = h0) := by
  refine own_body (plainFor_of_name pn_com_example_vetch_vetch_util_CharacterOrder) ?_
  intro p e s m below meth c T0 X0 hx hby hml hZ hown hnm hret hlk e0
  have N0 := Fr.nil n0
  have zO := own_old O0
  refine own_st (fun _ k => castTop (ef_cmW m a1 a2) k) ?_
  show own_Go p e below s _ _ _ (T0.setTop (mkF m 0 #[.val (.ref a1), .val (.ref a2), .unset, .unset, .unset, .unset] []))
  refine own_st (fun _ k => XS.aloadN X0.here hx rfl (hb hby d8_0) rfl rfl k) ?_
  show own_Go p e below s _ _ _ (T0.setTop (mkF m 1 #[.val (.ref a1), .val (.ref a2), .unset, .unset, .unset, .unset] [(.ref a1)]))
  obtain ⟨T101, v101, L101, h101, X101, e101, q101, st101⟩ := own_callV X0 hx hZ (y := (⟨"java/lang/String", "length", "()I"⟩ : MethodName)) (z := (⟨"java/lang/String", "length", "()I"⟩ : MethodName)) hown (hw _ (List.mem_of_getElem? (i := 41) rfl)) (hw _ (List.mem_of_getElem? (i := 42) rfl)) (notFace_of_selects (args := #[]) (mvT hZ (hw _ (List.mem_of_getElem? (i := 44) rfl)))) (hw _ (List.mem_of_getElem? (i := 44) rfl)) (hw _ (List.mem_of_getElem? (i := 43) rfl)) (by decide) (own_lenB (W := 0) hZ (own_wLen hw) (kI := 4) (hw _ (List.mem_of_getElem? (i := 9) rfl)) O0 CS S1 (by decide) (by decide)) e0 S1.1 (by decide) (by decide) (g := (mkF m 1 #[.val (.ref a1), .val (.ref a2), .unset, .unset, .unset, .unset] [(.ref a1)])) rfl (by rw [hml]; rfl) (argsL := []) (rest := []) (lenOf pd__28_29I rfl) rfl rfl (by show 2 * 0 + _ ≤ _; exact Nat.le_of_eq rfl) (hb hby d8_1)
  obtain ⟨rfl, N101q, hq101⟩ := q101
  replace e101 := e101.trans hq101
  refine own_st st101 ?_
  have N101 := Fr.app N0 N101q
  show own_Go p e below s _ _ _ (T101.setTop (mkF m 4 #[.val (.ref a1), .val (.ref a2), .unset, .unset, .unset, .unset] [(.int (Int32.ofNat (cs).length))]))
  refine own_st (fun _ k => XS.aloadN X101.here hx rfl (hb hby d8_4) rfl rfl k) ?_
  show own_Go p e below s _ _ _ (T101.setTop (mkF m 5 #[.val (.ref a1), .val (.ref a2), .unset, .unset, .unset, .unset] [(.ref a2), (.int (Int32.ofNat (cs).length))]))
  obtain ⟨T102, v102, L102, h102, X102, e102, q102, st102⟩ := own_callV X101 hx hZ (y := (⟨"java/lang/String", "length", "()I"⟩ : MethodName)) (z := (⟨"java/lang/String", "length", "()I"⟩ : MethodName)) hown (hw _ (List.mem_of_getElem? (i := 41) rfl)) (hw _ (List.mem_of_getElem? (i := 42) rfl)) (notFace_of_selects (args := #[]) (mvT hZ (hw _ (List.mem_of_getElem? (i := 44) rfl)))) (hw _ (List.mem_of_getElem? (i := 44) rfl)) (hw _ (List.mem_of_getElem? (i := 43) rfl)) (by decide) (own_lenB (W := 1) hZ (own_wLen hw) (kI := 4) (hw _ (List.mem_of_getElem? (i := 9) rfl)) O0 CS S2 (by decide) (by decide)) e101 S2.1 (by decide) (by decide) (g := (mkF m 5 #[.val (.ref a1), .val (.ref a2), .unset, .unset, .unset, .unset] [(.ref a2), (.int (Int32.ofNat (cs).length))])) rfl (by rw [hml]; rfl) (argsL := []) (rest := [(.int (Int32.ofNat (cs).length))]) (lenOf pd__28_29I rfl) rfl rfl (by show 2 * 0 + _ ≤ _; exact Nat.le_of_eq rfl) (hb hby d8_5)
  obtain ⟨rfl, N102q, hq102⟩ := q102
  replace e102 := e102.trans hq102
  refine own_st st102 ?_
  have N102 := Fr.app N101 N102q
  show own_Go p e below s _ _ _ (T102.setTop (mkF m 8 #[.val (.ref a1), .val (.ref a2), .unset, .unset, .unset, .unset] [(.int (Int32.ofNat (ds).length)), (.int (Int32.ofNat (cs).length))]))
  obtain ⟨T103, v103, L103, h103, X103, e103, q103, st103⟩ := own_callS X102 hx hZ (y := (⟨"java/lang/Math", "min", "(II)I"⟩ : MethodName)) hown (hw _ (List.mem_of_getElem? (i := 52) rfl)) (hw _ (List.mem_of_getElem? (i := 53) rfl)) (hw _ (List.mem_of_getElem? (i := 54) rfl)) (hw _ (List.mem_of_getElem? (i := 55) rfl)) (by decide) (own_bk (W := 0) (mnW l Z a0 hw (Int32.ofNat (cs).length) (Int32.ofNat (ds).length) h0 n0 O0) hZ (hw _ (List.mem_of_getElem? (i := 55) rfl)) (hw _ (List.mem_of_getElem? (i := 54) rfl)) (by decide) (by decide)) e102 (by decide) (by decide) (g := (mkF m 8 #[.val (.ref a1), .val (.ref a2), .unset, .unset, .unset, .unset] [(.int (Int32.ofNat (ds).length)), (.int (Int32.ofNat (cs).length))])) rfl (by rw [hml]; rfl) (argsL := [(.int (Int32.ofNat (cs).length)), (.int (Int32.ofNat (ds).length))]) (rest := []) (lenOf pd__28II_29I rfl) rfl rfl (by show 2 * 0 + _ ≤ _; exact Nat.le_of_eq rfl) (hb hby d8_8)
  obtain ⟨rfl, N103q, hq103⟩ := q103
  replace e103 := e103.trans hq103
  refine own_st st103 ?_
  have N103 := Fr.app N102 N103q
  show own_Go p e below s _ _ _ (T103.setTop (mkF m 11 #[.val (.ref a1), .val (.ref a2), .unset, .unset, .unset, .unset] [(.int (if (Int32.ofNat (ds).length) < (Int32.ofNat (cs).length) then (Int32.ofNat (ds).length) else (Int32.ofNat (cs).length)))]))
  rw [own_min (by omega) (by omega)]
  show own_Go p e below s _ _ _ (T103.setTop (mkF m 11 #[.val (.ref a1), .val (.ref a2), .unset, .unset, .unset, .unset] [(.int (Int32.ofNat (min cs.length ds.length)))]))
  refine own_st (fun _ k => XS.istoreN X103.here hx rfl (hb hby d8_11) rfl (l' := #[.val (.ref a1), .val (.ref a2), .val (.int (Int32.ofNat (min cs.length ds.length))), .unset, .unset, .unset]) rfl k) ?_
  show own_Go p e below s _ _ _ (T103.setTop (mkF m 12 #[.val (.ref a1), .val (.ref a2), .val (.int (Int32.ofNat (min cs.length ds.length))), .unset, .unset, .unset] []))
  refine own_st (fun _ k => XS.iconst X103.here hx rfl (hb hby d8_12) k) ?_
  show own_Go p e below s _ _ _ (T103.setTop (mkF m 13 #[.val (.ref a1), .val (.ref a2), .val (.int (Int32.ofNat (min cs.length ds.length))), .unset, .unset, .unset] [(.int (0 : Int32))]))
  refine own_st (fun _ k => XS.istoreN X103.here hx rfl (hb hby d8_13) rfl (l' := #[.val (.ref a1), .val (.ref a2), .val (.int (Int32.ofNat (min cs.length ds.length))), .val (.int (0 : Int32)), .unset, .unset]) rfl k) ?_
  show own_Go p e below s _ _ _ (T103.setTop (mkF m 14 #[.val (.ref a1), .val (.ref a2), .val (.int (Int32.ofNat (min cs.length ds.length))), .val (.int (0 : Int32)), .unset, .unset] []))
  refine own_st (fun _ k => XS.iloadN X103.here hx rfl (hb hby d8_14) rfl k) ?_
  show own_Go p e below s _ _ _ (T103.setTop (mkF m 15 #[.val (.ref a1), .val (.ref a2), .val (.int (Int32.ofNat (min cs.length ds.length))), .val (.int (0 : Int32)), .unset, .unset] [(.int (0 : Int32))]))
  refine own_st (fun _ k => XS.iloadN X103.here hx rfl (hb hby d8_15) rfl k) ?_
  show own_Go p e below s _ _ _ (T103.setTop (mkF m 16 #[.val (.ref a1), .val (.ref a2), .val (.int (Int32.ofNat (min cs.length ds.length))), .val (.int (0 : Int32)), .unset, .unset] [(.int (Int32.ofNat (min cs.length ds.length))), (.int (0 : Int32))]))
  by_cases c104 : (0 : Int32) < (Int32.ofNat (min cs.length ds.length))
  · refine own_st (fun _ k => XS.icmpNo X103.here hx rfl (hb hby d8_16) rfl (tlt c104).2.1 k) ?_
    show own_Go p e below s _ _ _ (T103.setTop (mkF m 19 #[.val (.ref a1), .val (.ref a2), .val (.int (Int32.ofNat (min cs.length ds.length))), .val (.int (0 : Int32)), .unset, .unset] []))
    have hm0 : 0 < min cs.length ds.length := (own_nlt (a := 0) (by omega) (by omega)).mp c104
    refine own_st (fun _ k => XS.aloadN X103.here hx rfl (hb hby d8_19) rfl rfl k) ?_
    show own_Go p e below s _ _ _ (T103.setTop (mkF m 20 #[.val (.ref a1), .val (.ref a2), .val (.int (Int32.ofNat (min cs.length ds.length))), .val (.int (0 : Int32)), .unset, .unset] [(.ref a1)]))
    refine own_st (fun _ k => XS.iloadN X103.here hx rfl (hb hby d8_20) rfl k) ?_
    show own_Go p e below s _ _ _ (T103.setTop (mkF m 21 #[.val (.ref a1), .val (.ref a2), .val (.int (Int32.ofNat (min cs.length ds.length))), .val (.int (0 : Int32)), .unset, .unset] [(.int (0 : Int32)), (.ref a1)]))
    obtain ⟨T105, v105, L105, h105, X105, e105, q105, st105⟩ := own_callV X103 hx hZ (y := (⟨"java/lang/String", "codePointAt", "(I)I"⟩ : MethodName)) (z := (⟨"java/lang/String", "codePointAt", "(I)I"⟩ : MethodName)) hown (hw _ (List.mem_of_getElem? (i := 94) rfl)) (hw _ (List.mem_of_getElem? (i := 95) rfl)) (notFace_of_selects (args := #[]) (mvT hZ (hw _ (List.mem_of_getElem? (i := 97) rfl)))) (hw _ (List.mem_of_getElem? (i := 97) rfl)) (hw _ (List.mem_of_getElem? (i := 96) rfl)) (by decide) (own_bk (W := 0) (cpA l Z a0 hw a1 cs 0 h0 n0 O0 CS FM UT (by omega) hk1 S1) hZ (hw _ (List.mem_of_getElem? (i := 98) rfl)) (hw _ (List.mem_of_getElem? (i := 10) rfl)) (by decide) (by decide)) e103 S1.1 (by decide) (by decide) (g := (mkF m 21 #[.val (.ref a1), .val (.ref a2), .val (.int (Int32.ofNat (min cs.length ds.length))), .val (.int (0 : Int32)), .unset, .unset] [(.int (0 : Int32)), (.ref a1)])) rfl (by rw [hml]; rfl) (argsL := [(.int (0 : Int32))]) (rest := []) (lenOf pd__28I_29I rfl) rfl rfl (by show 2 * 0 + _ ≤ _; exact Nat.le_of_eq rfl) (hb hby d8_21)
    obtain ⟨rfl, N105q, hq105⟩ := q105
    replace e105 := e105.trans hq105
    refine own_st st105 ?_
    have N105 := Fr.app N103 N105q
    show own_Go p e below s _ _ _ (T105.setTop (mkF m 24 #[.val (.ref a1), .val (.ref a2), .val (.int (Int32.ofNat (min cs.length ds.length))), .val (.int (0 : Int32)), .unset, .unset] [(.int (own_cp cs 0))]))
    refine own_st (fun _ k => XS.istore X105.here hx rfl (hb hby d8_24) rfl (l' := #[.val (.ref a1), .val (.ref a2), .val (.int (Int32.ofNat (min cs.length ds.length))), .val (.int (0 : Int32)), .val (.int (own_cp cs 0)), .unset]) rfl k) ?_
    show own_Go p e below s _ _ _ (T105.setTop (mkF m 26 #[.val (.ref a1), .val (.ref a2), .val (.int (Int32.ofNat (min cs.length ds.length))), .val (.int (0 : Int32)), .val (.int (own_cp cs 0)), .unset] []))
    refine own_st (fun _ k => XS.aloadN X105.here hx rfl (hb hby d8_26) rfl rfl k) ?_
    show own_Go p e below s _ _ _ (T105.setTop (mkF m 27 #[.val (.ref a1), .val (.ref a2), .val (.int (Int32.ofNat (min cs.length ds.length))), .val (.int (0 : Int32)), .val (.int (own_cp cs 0)), .unset] [(.ref a2)]))
    refine own_st (fun _ k => XS.iloadN X105.here hx rfl (hb hby d8_27) rfl k) ?_
    show own_Go p e below s _ _ _ (T105.setTop (mkF m 28 #[.val (.ref a1), .val (.ref a2), .val (.int (Int32.ofNat (min cs.length ds.length))), .val (.int (0 : Int32)), .val (.int (own_cp cs 0)), .unset] [(.int (0 : Int32)), (.ref a2)]))
    obtain ⟨T106, v106, L106, h106, X106, e106, q106, st106⟩ := own_callV X105 hx hZ (y := (⟨"java/lang/String", "codePointAt", "(I)I"⟩ : MethodName)) (z := (⟨"java/lang/String", "codePointAt", "(I)I"⟩ : MethodName)) hown (hw _ (List.mem_of_getElem? (i := 94) rfl)) (hw _ (List.mem_of_getElem? (i := 95) rfl)) (notFace_of_selects (args := #[]) (mvT hZ (hw _ (List.mem_of_getElem? (i := 97) rfl)))) (hw _ (List.mem_of_getElem? (i := 97) rfl)) (hw _ (List.mem_of_getElem? (i := 96) rfl)) (by decide) (own_bk (W := 0) (cpA l Z a0 hw a2 ds 0 h0 n0 O0 CS FM UT (by omega) hk2 S2) hZ (hw _ (List.mem_of_getElem? (i := 98) rfl)) (hw _ (List.mem_of_getElem? (i := 10) rfl)) (by decide) (by decide)) e105 S2.1 (by decide) (by decide) (g := (mkF m 28 #[.val (.ref a1), .val (.ref a2), .val (.int (Int32.ofNat (min cs.length ds.length))), .val (.int (0 : Int32)), .val (.int (own_cp cs 0)), .unset] [(.int (0 : Int32)), (.ref a2)])) rfl (by rw [hml]; rfl) (argsL := [(.int (0 : Int32))]) (rest := []) (lenOf pd__28I_29I rfl) rfl rfl (by show 2 * 0 + _ ≤ _; exact Nat.le_of_eq rfl) (hb hby d8_28)
    obtain ⟨rfl, N106q, hq106⟩ := q106
    replace e106 := e106.trans hq106
    refine own_st st106 ?_
    have N106 := Fr.app N105 N106q
    show own_Go p e below s _ _ _ (T106.setTop (mkF m 31 #[.val (.ref a1), .val (.ref a2), .val (.int (Int32.ofNat (min cs.length ds.length))), .val (.int (0 : Int32)), .val (.int (own_cp cs 0)), .unset] [(.int (own_cp ds 0))]))
    refine own_st (fun _ k => XS.istore X106.here hx rfl (hb hby d8_31) rfl (l' := #[.val (.ref a1), .val (.ref a2), .val (.int (Int32.ofNat (min cs.length ds.length))), .val (.int (0 : Int32)), .val (.int (own_cp cs 0)), .val (.int (own_cp ds 0))]) rfl k) ?_
    show own_Go p e below s _ _ _ (T106.setTop (mkF m 33 #[.val (.ref a1), .val (.ref a2), .val (.int (Int32.ofNat (min cs.length ds.length))), .val (.int (0 : Int32)), .val (.int (own_cp cs 0)), .val (.int (own_cp ds 0))] []))
    refine own_st (fun _ k => XS.iload X106.here hx rfl (hb hby d8_33) rfl k) ?_
    show own_Go p e below s _ _ _ (T106.setTop (mkF m 35 #[.val (.ref a1), .val (.ref a2), .val (.int (Int32.ofNat (min cs.length ds.length))), .val (.int (0 : Int32)), .val (.int (own_cp cs 0)), .val (.int (own_cp ds 0))] [(.int (own_cp cs 0))]))
    refine own_st (fun _ k => XS.iload X106.here hx rfl (hb hby d8_35) rfl k) ?_
    show own_Go p e below s _ _ _ (T106.setTop (mkF m 37 #[.val (.ref a1), .val (.ref a2), .val (.int (Int32.ofNat (min cs.length ds.length))), .val (.int (0 : Int32)), .val (.int (own_cp cs 0)), .val (.int (own_cp ds 0))] [(.int (own_cp ds 0)), (.int (own_cp cs 0))]))
    by_cases c107 : (own_cp cs 0) = (own_cp ds 0)
    · refine own_st (fun _ k => XS.icmpYes X106.here hx rfl (pc0 := 37) (pc' := 48) rfl (hb hby d8_37) rfl (teq c107).1 (by decide) (by decide) k) ?_
      show own_Go p e below s _ _ _ (T106.setTop (mkF m 48 #[.val (.ref a1), .val (.ref a2), .val (.int (Int32.ofNat (min cs.length ds.length))), .val (.int (0 : Int32)), .val (.int (own_cp cs 0)), .val (.int (own_cp ds 0))] []))
      refine own_st (fun _ k => XS.iloadN X106.here hx rfl (hb hby d8_48) rfl k) ?_
      show own_Go p e below s _ _ _ (T106.setTop (mkF m 49 #[.val (.ref a1), .val (.ref a2), .val (.int (Int32.ofNat (min cs.length ds.length))), .val (.int (0 : Int32)), .val (.int (own_cp cs 0)), .val (.int (own_cp ds 0))] [(.int (0 : Int32))]))
      refine own_st (fun _ k => XS.iload X106.here hx rfl (hb hby d8_49) rfl k) ?_
      show own_Go p e below s _ _ _ (T106.setTop (mkF m 51 #[.val (.ref a1), .val (.ref a2), .val (.int (Int32.ofNat (min cs.length ds.length))), .val (.int (0 : Int32)), .val (.int (own_cp cs 0)), .val (.int (own_cp ds 0))] [(.int (own_cp cs 0)), (.int (0 : Int32))]))
      obtain ⟨T108, v108, L108, h108, X108, e108, q108, st108⟩ := own_callS X106 hx hZ (y := (⟨"java/lang/Character", "charCount", "(I)I"⟩ : MethodName)) hown (hw _ (List.mem_of_getElem? (i := 125) rfl)) (hw _ (List.mem_of_getElem? (i := 126) rfl)) (hw _ (List.mem_of_getElem? (i := 120) rfl)) (hw _ (List.mem_of_getElem? (i := 127) rfl)) (by decide) (own_bk (W := 1) (ccW l Z a0 hw (own_cp cs 0) h0 n0 O0) hZ (hw _ (List.mem_of_getElem? (i := 127) rfl)) (hw _ (List.mem_of_getElem? (i := 120) rfl)) (by decide) (by decide)) e106 (by decide) (by decide) (g := (mkF m 51 #[.val (.ref a1), .val (.ref a2), .val (.int (Int32.ofNat (min cs.length ds.length))), .val (.int (0 : Int32)), .val (.int (own_cp cs 0)), .val (.int (own_cp ds 0))] [(.int (own_cp cs 0)), (.int (0 : Int32))])) rfl (by rw [hml]; rfl) (argsL := [(.int (own_cp cs 0))]) (rest := [(.int (0 : Int32))]) (lenOf pd__28I_29I rfl) rfl rfl (by show 2 * 0 + _ ≤ _; exact Nat.le_of_eq rfl) (hb hby d8_51)
      obtain ⟨rfl, N108q, hq108⟩ := q108
      replace e108 := e108.trans hq108
      refine own_st st108 ?_
      have N108 := Fr.app N106 N108q
      show own_Go p e below s _ _ _ (T108.setTop (mkF m 54 #[.val (.ref a1), .val (.ref a2), .val (.int (Int32.ofNat (min cs.length ds.length))), .val (.int (0 : Int32)), .val (.int (own_cp cs 0)), .val (.int (own_cp ds 0))] [(.int (if (own_cp cs 0) < 65536 then (1 : Int32) else 2)), (.int (0 : Int32))]))
      rcases (Decidable.em ((own_cp cs 0) < 65536)) with b109 | b109
      · rw [if_pos b109]
        show own_Go p e below s _ _ _ (T108.setTop (mkF m 54 #[.val (.ref a1), .val (.ref a2), .val (.int (Int32.ofNat (min cs.length ds.length))), .val (.int (0 : Int32)), .val (.int (own_cp cs 0)), .val (.int (own_cp ds 0))] [(.int (1 : Int32)), (.int (0 : Int32))]))
        refine own_st (fun _ k => XS.iadd X108.here hx rfl (hb hby d8_54) rfl k) ?_
        show own_Go p e below s _ _ _ (T108.setTop (mkF m 55 #[.val (.ref a1), .val (.ref a2), .val (.int (Int32.ofNat (min cs.length ds.length))), .val (.int (0 : Int32)), .val (.int (own_cp cs 0)), .val (.int (own_cp ds 0))] [(.int ((0 : Int32) + (1 : Int32)))]))
        rw [(by decide : ((0 : Int32) + (1 : Int32)) = (1 : Int32))]
        show own_Go p e below s _ _ _ (T108.setTop (mkF m 55 #[.val (.ref a1), .val (.ref a2), .val (.int (Int32.ofNat (min cs.length ds.length))), .val (.int (0 : Int32)), .val (.int (own_cp cs 0)), .val (.int (own_cp ds 0))] [(.int (1 : Int32))]))
        refine own_st (fun _ k => XS.istoreN X108.here hx rfl (hb hby d8_55) rfl (l' := #[.val (.ref a1), .val (.ref a2), .val (.int (Int32.ofNat (min cs.length ds.length))), .val (.int (1 : Int32)), .val (.int (own_cp cs 0)), .val (.int (own_cp ds 0))]) rfl k) ?_
        show own_Go p e below s _ _ _ (T108.setTop (mkF m 56 #[.val (.ref a1), .val (.ref a2), .val (.int (Int32.ofNat (min cs.length ds.length))), .val (.int (1 : Int32)), .val (.int (own_cp cs 0)), .val (.int (own_cp ds 0))] []))
        refine own_st (fun _ k => XS.goto X108.here hx rfl (pc0 := 56) (pc' := 14) rfl (hb hby d8_56) (by decide) (by decide) k) ?_
        show own_Go p e below s _ _ _ (T108.setTop (mkF m 14 #[.val (.ref a1), .val (.ref a2), .val (.int (Int32.ofNat (min cs.length ds.length))), .val (.int (1 : Int32)), .val (.int (own_cp cs 0)), .val (.int (own_cp ds 0))] []))
        refine own_st (fun _ k => XS.iloadN X108.here hx rfl (hb hby d8_14) rfl k) ?_
        show own_Go p e below s _ _ _ (T108.setTop (mkF m 15 #[.val (.ref a1), .val (.ref a2), .val (.int (Int32.ofNat (min cs.length ds.length))), .val (.int (1 : Int32)), .val (.int (own_cp cs 0)), .val (.int (own_cp ds 0))] [(.int (1 : Int32))]))
        refine own_st (fun _ k => XS.iloadN X108.here hx rfl (hb hby d8_15) rfl k) ?_
        show own_Go p e below s _ _ _ (T108.setTop (mkF m 16 #[.val (.ref a1), .val (.ref a2), .val (.int (Int32.ofNat (min cs.length ds.length))), .val (.int (1 : Int32)), .val (.int (own_cp cs 0)), .val (.int (own_cp ds 0))] [(.int (Int32.ofNat (min cs.length ds.length))), (.int (1 : Int32))]))
        by_cases c110 : (1 : Int32) < (Int32.ofNat (min cs.length ds.length))
        · refine own_st (fun _ k => XS.icmpNo X108.here hx rfl (hb hby d8_16) rfl (tlt c110).2.1 k) ?_
          show own_Go p e below s _ _ _ (T108.setTop (mkF m 19 #[.val (.ref a1), .val (.ref a2), .val (.int (Int32.ofNat (min cs.length ds.length))), .val (.int (1 : Int32)), .val (.int (own_cp cs 0)), .val (.int (own_cp ds 0))] []))
          have hm1 : 1 < min cs.length ds.length := (own_nlt (a := 1) (by omega) (by omega)).mp c110
          refine own_st (fun _ k => XS.aloadN X108.here hx rfl (hb hby d8_19) rfl rfl k) ?_
          show own_Go p e below s _ _ _ (T108.setTop (mkF m 20 #[.val (.ref a1), .val (.ref a2), .val (.int (Int32.ofNat (min cs.length ds.length))), .val (.int (1 : Int32)), .val (.int (own_cp cs 0)), .val (.int (own_cp ds 0))] [(.ref a1)]))
          refine own_st (fun _ k => XS.iloadN X108.here hx rfl (hb hby d8_20) rfl k) ?_
          show own_Go p e below s _ _ _ (T108.setTop (mkF m 21 #[.val (.ref a1), .val (.ref a2), .val (.int (Int32.ofNat (min cs.length ds.length))), .val (.int (1 : Int32)), .val (.int (own_cp cs 0)), .val (.int (own_cp ds 0))] [(.int (1 : Int32)), (.ref a1)]))
          obtain ⟨T111, v111, L111, h111, X111, e111, q111, st111⟩ := own_callV X108 hx hZ (y := (⟨"java/lang/String", "codePointAt", "(I)I"⟩ : MethodName)) (z := (⟨"java/lang/String", "codePointAt", "(I)I"⟩ : MethodName)) hown (hw _ (List.mem_of_getElem? (i := 94) rfl)) (hw _ (List.mem_of_getElem? (i := 95) rfl)) (notFace_of_selects (args := #[]) (mvT hZ (hw _ (List.mem_of_getElem? (i := 97) rfl)))) (hw _ (List.mem_of_getElem? (i := 97) rfl)) (hw _ (List.mem_of_getElem? (i := 96) rfl)) (by decide) (own_bk (W := 0) (cpA l Z a0 hw a1 cs 1 h0 n0 O0 CS FM UT (by omega) hk1 S1) hZ (hw _ (List.mem_of_getElem? (i := 98) rfl)) (hw _ (List.mem_of_getElem? (i := 10) rfl)) (by decide) (by decide)) e108 S1.1 (by decide) (by decide) (g := (mkF m 21 #[.val (.ref a1), .val (.ref a2), .val (.int (Int32.ofNat (min cs.length ds.length))), .val (.int (1 : Int32)), .val (.int (own_cp cs 0)), .val (.int (own_cp ds 0))] [(.int (1 : Int32)), (.ref a1)])) rfl (by rw [hml]; rfl) (argsL := [(.int (1 : Int32))]) (rest := []) (lenOf pd__28I_29I rfl) rfl rfl (by show 2 * 0 + _ ≤ _; exact Nat.le_of_eq rfl) (hb hby d8_21)
          obtain ⟨rfl, N111q, hq111⟩ := q111
          replace e111 := e111.trans hq111
          refine own_st st111 ?_
          have N111 := Fr.app N108 N111q
          show own_Go p e below s _ _ _ (T111.setTop (mkF m 24 #[.val (.ref a1), .val (.ref a2), .val (.int (Int32.ofNat (min cs.length ds.length))), .val (.int (1 : Int32)), .val (.int (own_cp cs 0)), .val (.int (own_cp ds 0))] [(.int (own_cp cs 1))]))
          refine own_st (fun _ k => XS.istore X111.here hx rfl (hb hby d8_24) rfl (l' := #[.val (.ref a1), .val (.ref a2), .val (.int (Int32.ofNat (min cs.length ds.length))), .val (.int (1 : Int32)), .val (.int (own_cp cs 1)), .val (.int (own_cp ds 0))]) rfl k) ?_
          show own_Go p e below s _ _ _ (T111.setTop (mkF m 26 #[.val (.ref a1), .val (.ref a2), .val (.int (Int32.ofNat (min cs.length ds.length))), .val (.int (1 : Int32)), .val (.int (own_cp cs 1)), .val (.int (own_cp ds 0))] []))
          refine own_st (fun _ k => XS.aloadN X111.here hx rfl (hb hby d8_26) rfl rfl k) ?_
          show own_Go p e below s _ _ _ (T111.setTop (mkF m 27 #[.val (.ref a1), .val (.ref a2), .val (.int (Int32.ofNat (min cs.length ds.length))), .val (.int (1 : Int32)), .val (.int (own_cp cs 1)), .val (.int (own_cp ds 0))] [(.ref a2)]))
          refine own_st (fun _ k => XS.iloadN X111.here hx rfl (hb hby d8_27) rfl k) ?_
          show own_Go p e below s _ _ _ (T111.setTop (mkF m 28 #[.val (.ref a1), .val (.ref a2), .val (.int (Int32.ofNat (min cs.length ds.length))), .val (.int (1 : Int32)), .val (.int (own_cp cs 1)), .val (.int (own_cp ds 0))] [(.int (1 : Int32)), (.ref a2)]))
          obtain ⟨T112, v112, L112, h112, X112, e112, q112, st112⟩ := own_callV X111 hx hZ (y := (⟨"java/lang/String", "codePointAt", "(I)I"⟩ : MethodName)) (z := (⟨"java/lang/String", "codePointAt", "(I)I"⟩ : MethodName)) hown (hw _ (List.mem_of_getElem? (i := 94) rfl)) (hw _ (List.mem_of_getElem? (i := 95) rfl)) (notFace_of_selects (args := #[]) (mvT hZ (hw _ (List.mem_of_getElem? (i := 97) rfl)))) (hw _ (List.mem_of_getElem? (i := 97) rfl)) (hw _ (List.mem_of_getElem? (i := 96) rfl)) (by decide) (own_bk (W := 0) (cpA l Z a0 hw a2 ds 1 h0 n0 O0 CS FM UT (by omega) hk2 S2) hZ (hw _ (List.mem_of_getElem? (i := 98) rfl)) (hw _ (List.mem_of_getElem? (i := 10) rfl)) (by decide) (by decide)) e111 S2.1 (by decide) (by decide) (g := (mkF m 28 #[.val (.ref a1), .val (.ref a2), .val (.int (Int32.ofNat (min cs.length ds.length))), .val (.int (1 : Int32)), .val (.int (own_cp cs 1)), .val (.int (own_cp ds 0))] [(.int (1 : Int32)), (.ref a2)])) rfl (by rw [hml]; rfl) (argsL := [(.int (1 : Int32))]) (rest := []) (lenOf pd__28I_29I rfl) rfl rfl (by show 2 * 0 + _ ≤ _; exact Nat.le_of_eq rfl) (hb hby d8_28)
          obtain ⟨rfl, N112q, hq112⟩ := q112
          replace e112 := e112.trans hq112
          refine own_st st112 ?_
          have N112 := Fr.app N111 N112q
          show own_Go p e below s _ _ _ (T112.setTop (mkF m 31 #[.val (.ref a1), .val (.ref a2), .val (.int (Int32.ofNat (min cs.length ds.length))), .val (.int (1 : Int32)), .val (.int (own_cp cs 1)), .val (.int (own_cp ds 0))] [(.int (own_cp ds 1))]))
          refine own_st (fun _ k => XS.istore X112.here hx rfl (hb hby d8_31) rfl (l' := #[.val (.ref a1), .val (.ref a2), .val (.int (Int32.ofNat (min cs.length ds.length))), .val (.int (1 : Int32)), .val (.int (own_cp cs 1)), .val (.int (own_cp ds 1))]) rfl k) ?_
          show own_Go p e below s _ _ _ (T112.setTop (mkF m 33 #[.val (.ref a1), .val (.ref a2), .val (.int (Int32.ofNat (min cs.length ds.length))), .val (.int (1 : Int32)), .val (.int (own_cp cs 1)), .val (.int (own_cp ds 1))] []))
          refine own_st (fun _ k => XS.iload X112.here hx rfl (hb hby d8_33) rfl k) ?_
          show own_Go p e below s _ _ _ (T112.setTop (mkF m 35 #[.val (.ref a1), .val (.ref a2), .val (.int (Int32.ofNat (min cs.length ds.length))), .val (.int (1 : Int32)), .val (.int (own_cp cs 1)), .val (.int (own_cp ds 1))] [(.int (own_cp cs 1))]))
          refine own_st (fun _ k => XS.iload X112.here hx rfl (hb hby d8_35) rfl k) ?_
          show own_Go p e below s _ _ _ (T112.setTop (mkF m 37 #[.val (.ref a1), .val (.ref a2), .val (.int (Int32.ofNat (min cs.length ds.length))), .val (.int (1 : Int32)), .val (.int (own_cp cs 1)), .val (.int (own_cp ds 1))] [(.int (own_cp ds 1)), (.int (own_cp cs 1))]))
          by_cases c113 : (own_cp cs 1) = (own_cp ds 1)
          · refine own_st (fun _ k => XS.icmpYes X112.here hx rfl (pc0 := 37) (pc' := 48) rfl (hb hby d8_37) rfl (teq c113).1 (by decide) (by decide) k) ?_
            show own_Go p e below s _ _ _ (T112.setTop (mkF m 48 #[.val (.ref a1), .val (.ref a2), .val (.int (Int32.ofNat (min cs.length ds.length))), .val (.int (1 : Int32)), .val (.int (own_cp cs 1)), .val (.int (own_cp ds 1))] []))
            refine own_st (fun _ k => XS.iloadN X112.here hx rfl (hb hby d8_48) rfl k) ?_
            show own_Go p e below s _ _ _ (T112.setTop (mkF m 49 #[.val (.ref a1), .val (.ref a2), .val (.int (Int32.ofNat (min cs.length ds.length))), .val (.int (1 : Int32)), .val (.int (own_cp cs 1)), .val (.int (own_cp ds 1))] [(.int (1 : Int32))]))
            refine own_st (fun _ k => XS.iload X112.here hx rfl (hb hby d8_49) rfl k) ?_
            show own_Go p e below s _ _ _ (T112.setTop (mkF m 51 #[.val (.ref a1), .val (.ref a2), .val (.int (Int32.ofNat (min cs.length ds.length))), .val (.int (1 : Int32)), .val (.int (own_cp cs 1)), .val (.int (own_cp ds 1))] [(.int (own_cp cs 1)), (.int (1 : Int32))]))
            obtain ⟨T114, v114, L114, h114, X114, e114, q114, st114⟩ := own_callS X112 hx hZ (y := (⟨"java/lang/Character", "charCount", "(I)I"⟩ : MethodName)) hown (hw _ (List.mem_of_getElem? (i := 125) rfl)) (hw _ (List.mem_of_getElem? (i := 126) rfl)) (hw _ (List.mem_of_getElem? (i := 120) rfl)) (hw _ (List.mem_of_getElem? (i := 127) rfl)) (by decide) (own_bk (W := 1) (ccW l Z a0 hw (own_cp cs 1) h0 n0 O0) hZ (hw _ (List.mem_of_getElem? (i := 127) rfl)) (hw _ (List.mem_of_getElem? (i := 120) rfl)) (by decide) (by decide)) e112 (by decide) (by decide) (g := (mkF m 51 #[.val (.ref a1), .val (.ref a2), .val (.int (Int32.ofNat (min cs.length ds.length))), .val (.int (1 : Int32)), .val (.int (own_cp cs 1)), .val (.int (own_cp ds 1))] [(.int (own_cp cs 1)), (.int (1 : Int32))])) rfl (by rw [hml]; rfl) (argsL := [(.int (own_cp cs 1))]) (rest := [(.int (1 : Int32))]) (lenOf pd__28I_29I rfl) rfl rfl (by show 2 * 0 + _ ≤ _; exact Nat.le_of_eq rfl) (hb hby d8_51)
            obtain ⟨rfl, N114q, hq114⟩ := q114
            replace e114 := e114.trans hq114
            refine own_st st114 ?_
            have N114 := Fr.app N112 N114q
            show own_Go p e below s _ _ _ (T114.setTop (mkF m 54 #[.val (.ref a1), .val (.ref a2), .val (.int (Int32.ofNat (min cs.length ds.length))), .val (.int (1 : Int32)), .val (.int (own_cp cs 1)), .val (.int (own_cp ds 1))] [(.int (if (own_cp cs 1) < 65536 then (1 : Int32) else 2)), (.int (1 : Int32))]))
            rcases (Decidable.em ((own_cp cs 1) < 65536)) with b115 | b115
            · rw [if_pos b115]
              show own_Go p e below s _ _ _ (T114.setTop (mkF m 54 #[.val (.ref a1), .val (.ref a2), .val (.int (Int32.ofNat (min cs.length ds.length))), .val (.int (1 : Int32)), .val (.int (own_cp cs 1)), .val (.int (own_cp ds 1))] [(.int (1 : Int32)), (.int (1 : Int32))]))
              refine own_st (fun _ k => XS.iadd X114.here hx rfl (hb hby d8_54) rfl k) ?_
              show own_Go p e below s _ _ _ (T114.setTop (mkF m 55 #[.val (.ref a1), .val (.ref a2), .val (.int (Int32.ofNat (min cs.length ds.length))), .val (.int (1 : Int32)), .val (.int (own_cp cs 1)), .val (.int (own_cp ds 1))] [(.int ((1 : Int32) + (1 : Int32)))]))
              rw [(by decide : ((1 : Int32) + (1 : Int32)) = (2 : Int32))]
              show own_Go p e below s _ _ _ (T114.setTop (mkF m 55 #[.val (.ref a1), .val (.ref a2), .val (.int (Int32.ofNat (min cs.length ds.length))), .val (.int (1 : Int32)), .val (.int (own_cp cs 1)), .val (.int (own_cp ds 1))] [(.int (2 : Int32))]))
              refine own_st (fun _ k => XS.istoreN X114.here hx rfl (hb hby d8_55) rfl (l' := #[.val (.ref a1), .val (.ref a2), .val (.int (Int32.ofNat (min cs.length ds.length))), .val (.int (2 : Int32)), .val (.int (own_cp cs 1)), .val (.int (own_cp ds 1))]) rfl k) ?_
              show own_Go p e below s _ _ _ (T114.setTop (mkF m 56 #[.val (.ref a1), .val (.ref a2), .val (.int (Int32.ofNat (min cs.length ds.length))), .val (.int (2 : Int32)), .val (.int (own_cp cs 1)), .val (.int (own_cp ds 1))] []))
              refine own_st (fun _ k => XS.goto X114.here hx rfl (pc0 := 56) (pc' := 14) rfl (hb hby d8_56) (by decide) (by decide) k) ?_
              show own_Go p e below s _ _ _ (T114.setTop (mkF m 14 #[.val (.ref a1), .val (.ref a2), .val (.int (Int32.ofNat (min cs.length ds.length))), .val (.int (2 : Int32)), .val (.int (own_cp cs 1)), .val (.int (own_cp ds 1))] []))
              refine own_st (fun _ k => XS.iloadN X114.here hx rfl (hb hby d8_14) rfl k) ?_
              show own_Go p e below s _ _ _ (T114.setTop (mkF m 15 #[.val (.ref a1), .val (.ref a2), .val (.int (Int32.ofNat (min cs.length ds.length))), .val (.int (2 : Int32)), .val (.int (own_cp cs 1)), .val (.int (own_cp ds 1))] [(.int (2 : Int32))]))
              refine own_st (fun _ k => XS.iloadN X114.here hx rfl (hb hby d8_15) rfl k) ?_
              show own_Go p e below s _ _ _ (T114.setTop (mkF m 16 #[.val (.ref a1), .val (.ref a2), .val (.int (Int32.ofNat (min cs.length ds.length))), .val (.int (2 : Int32)), .val (.int (own_cp cs 1)), .val (.int (own_cp ds 1))] [(.int (Int32.ofNat (min cs.length ds.length))), (.int (2 : Int32))]))
              refine own_st (fun _ k => XS.icmpYes X114.here hx rfl (pc0 := 16) (pc' := 59) rfl (hb hby d8_16) rfl (flt (fun q => absurd ((own_nlt (a := 2) (by omega) (by omega)).mp q) (by omega))).2.1 (by decide) (by decide) k) ?_
              show own_Go p e below s _ _ _ (T114.setTop (mkF m 59 #[.val (.ref a1), .val (.ref a2), .val (.int (Int32.ofNat (min cs.length ds.length))), .val (.int (2 : Int32)), .val (.int (own_cp cs 1)), .val (.int (own_cp ds 1))] []))
              refine own_st (fun _ k => XS.aloadN X114.here hx rfl (hb hby d8_59) rfl rfl k) ?_
              show own_Go p e below s _ _ _ (T114.setTop (mkF m 60 #[.val (.ref a1), .val (.ref a2), .val (.int (Int32.ofNat (min cs.length ds.length))), .val (.int (2 : Int32)), .val (.int (own_cp cs 1)), .val (.int (own_cp ds 1))] [(.ref a1)]))
              obtain ⟨T116, v116, L116, h116, X116, e116, q116, st116⟩ := own_callV X114 hx hZ (y := (⟨"java/lang/String", "length", "()I"⟩ : MethodName)) (z := (⟨"java/lang/String", "length", "()I"⟩ : MethodName)) hown (hw _ (List.mem_of_getElem? (i := 41) rfl)) (hw _ (List.mem_of_getElem? (i := 42) rfl)) (notFace_of_selects (args := #[]) (mvT hZ (hw _ (List.mem_of_getElem? (i := 44) rfl)))) (hw _ (List.mem_of_getElem? (i := 44) rfl)) (hw _ (List.mem_of_getElem? (i := 43) rfl)) (by decide) (own_lenB (W := 0) hZ (own_wLen hw) (kI := 4) (hw _ (List.mem_of_getElem? (i := 9) rfl)) O0 CS S1 (by decide) (by decide)) e114 S1.1 (by decide) (by decide) (g := (mkF m 60 #[.val (.ref a1), .val (.ref a2), .val (.int (Int32.ofNat (min cs.length ds.length))), .val (.int (2 : Int32)), .val (.int (own_cp cs 1)), .val (.int (own_cp ds 1))] [(.ref a1)])) rfl (by rw [hml]; rfl) (argsL := []) (rest := []) (lenOf pd__28_29I rfl) rfl rfl (by show 2 * 0 + _ ≤ _; exact Nat.le_of_eq rfl) (hb hby d8_60)
              obtain ⟨rfl, N116q, hq116⟩ := q116
              replace e116 := e116.trans hq116
              refine own_st st116 ?_
              have N116 := Fr.app N114 N116q
              show own_Go p e below s _ _ _ (T116.setTop (mkF m 63 #[.val (.ref a1), .val (.ref a2), .val (.int (Int32.ofNat (min cs.length ds.length))), .val (.int (2 : Int32)), .val (.int (own_cp cs 1)), .val (.int (own_cp ds 1))] [(.int (Int32.ofNat (cs).length))]))
              refine own_st (fun _ k => XS.aloadN X116.here hx rfl (hb hby d8_63) rfl rfl k) ?_
              show own_Go p e below s _ _ _ (T116.setTop (mkF m 64 #[.val (.ref a1), .val (.ref a2), .val (.int (Int32.ofNat (min cs.length ds.length))), .val (.int (2 : Int32)), .val (.int (own_cp cs 1)), .val (.int (own_cp ds 1))] [(.ref a2), (.int (Int32.ofNat (cs).length))]))
              obtain ⟨T117, v117, L117, h117, X117, e117, q117, st117⟩ := own_callV X116 hx hZ (y := (⟨"java/lang/String", "length", "()I"⟩ : MethodName)) (z := (⟨"java/lang/String", "length", "()I"⟩ : MethodName)) hown (hw _ (List.mem_of_getElem? (i := 41) rfl)) (hw _ (List.mem_of_getElem? (i := 42) rfl)) (notFace_of_selects (args := #[]) (mvT hZ (hw _ (List.mem_of_getElem? (i := 44) rfl)))) (hw _ (List.mem_of_getElem? (i := 44) rfl)) (hw _ (List.mem_of_getElem? (i := 43) rfl)) (by decide) (own_lenB (W := 1) hZ (own_wLen hw) (kI := 4) (hw _ (List.mem_of_getElem? (i := 9) rfl)) O0 CS S2 (by decide) (by decide)) e116 S2.1 (by decide) (by decide) (g := (mkF m 64 #[.val (.ref a1), .val (.ref a2), .val (.int (Int32.ofNat (min cs.length ds.length))), .val (.int (2 : Int32)), .val (.int (own_cp cs 1)), .val (.int (own_cp ds 1))] [(.ref a2), (.int (Int32.ofNat (cs).length))])) rfl (by rw [hml]; rfl) (argsL := []) (rest := [(.int (Int32.ofNat (cs).length))]) (lenOf pd__28_29I rfl) rfl rfl (by show 2 * 0 + _ ≤ _; exact Nat.le_of_eq rfl) (hb hby d8_64)
              obtain ⟨rfl, N117q, hq117⟩ := q117
              replace e117 := e117.trans hq117
              refine own_st st117 ?_
              have N117 := Fr.app N116 N117q
              show own_Go p e below s _ _ _ (T117.setTop (mkF m 67 #[.val (.ref a1), .val (.ref a2), .val (.int (Int32.ofNat (min cs.length ds.length))), .val (.int (2 : Int32)), .val (.int (own_cp cs 1)), .val (.int (own_cp ds 1))] [(.int (Int32.ofNat (ds).length)), (.int (Int32.ofNat (cs).length))]))
              obtain ⟨T118, v118, L118, h118, X118, e118, q118, st118⟩ := own_callS X117 hx hZ (y := (⟨"java/lang/Integer", "compare", "(II)I"⟩ : MethodName)) hown (hw _ (List.mem_of_getElem? (i := 56) rfl)) (hw _ (List.mem_of_getElem? (i := 57) rfl)) (hw _ (List.mem_of_getElem? (i := 58) rfl)) (hw _ (List.mem_of_getElem? (i := 59) rfl)) (by decide) (own_bk (W := 0) (icW l Z a0 hw (Int32.ofNat (cs).length) (Int32.ofNat (ds).length) h0 n0 O0) hZ (hw _ (List.mem_of_getElem? (i := 59) rfl)) (hw _ (List.mem_of_getElem? (i := 58) rfl)) (by decide) (by decide)) e117 (by decide) (by decide) (g := (mkF m 67 #[.val (.ref a1), .val (.ref a2), .val (.int (Int32.ofNat (min cs.length ds.length))), .val (.int (2 : Int32)), .val (.int (own_cp cs 1)), .val (.int (own_cp ds 1))] [(.int (Int32.ofNat (ds).length)), (.int (Int32.ofNat (cs).length))])) rfl (by rw [hml]; rfl) (argsL := [(.int (Int32.ofNat (cs).length)), (.int (Int32.ofNat (ds).length))]) (rest := []) (lenOf pd__28II_29I rfl) rfl rfl (by show 2 * 0 + _ ≤ _; exact Nat.le_of_eq rfl) (hb hby d8_67)
              obtain ⟨rfl, N118q, hq118⟩ := q118
              replace e118 := e118.trans hq118
              refine own_st st118 ?_
              have N118 := Fr.app N117 N118q
              show own_Go p e below s _ _ _ (T118.setTop (mkF m 70 #[.val (.ref a1), .val (.ref a2), .val (.int (Int32.ofNat (min cs.length ds.length))), .val (.int (2 : Int32)), .val (.int (own_cp cs 1)), .val (.int (own_cp ds 1))] [(.int (own_ic (Int32.ofNat (cs).length) (Int32.ofNat (ds).length)))]))
              exact own_ret X118 hx hlk e118 hret rfl (Or.inl ⟨rfl, Or.inl rfl, _, rfl⟩) (hb hby d8_70) (by decide) (by decide) ⟨_, rfl, Or.inr (Or.inr (Or.inr (Or.inr (Or.inl ⟨hm0, c107, b109, hm1, c113, rfl⟩)))), N118, rfl⟩
            · rw [if_neg b115]
              show own_Go p e below s _ _ _ (T114.setTop (mkF m 54 #[.val (.ref a1), .val (.ref a2), .val (.int (Int32.ofNat (min cs.length ds.length))), .val (.int (1 : Int32)), .val (.int (own_cp cs 1)), .val (.int (own_cp ds 1))] [(.int (2 : Int32)), (.int (1 : Int32))]))
              refine own_st (fun _ k => XS.iadd X114.here hx rfl (hb hby d8_54) rfl k) ?_
              show own_Go p e below s _ _ _ (T114.setTop (mkF m 55 #[.val (.ref a1), .val (.ref a2), .val (.int (Int32.ofNat (min cs.length ds.length))), .val (.int (1 : Int32)), .val (.int (own_cp cs 1)), .val (.int (own_cp ds 1))] [(.int ((1 : Int32) + (2 : Int32)))]))
              rw [(by decide : ((1 : Int32) + (2 : Int32)) = (3 : Int32))]
              show own_Go p e below s _ _ _ (T114.setTop (mkF m 55 #[.val (.ref a1), .val (.ref a2), .val (.int (Int32.ofNat (min cs.length ds.length))), .val (.int (1 : Int32)), .val (.int (own_cp cs 1)), .val (.int (own_cp ds 1))] [(.int (3 : Int32))]))
              refine own_st (fun _ k => XS.istoreN X114.here hx rfl (hb hby d8_55) rfl (l' := #[.val (.ref a1), .val (.ref a2), .val (.int (Int32.ofNat (min cs.length ds.length))), .val (.int (3 : Int32)), .val (.int (own_cp cs 1)), .val (.int (own_cp ds 1))]) rfl k) ?_
              show own_Go p e below s _ _ _ (T114.setTop (mkF m 56 #[.val (.ref a1), .val (.ref a2), .val (.int (Int32.ofNat (min cs.length ds.length))), .val (.int (3 : Int32)), .val (.int (own_cp cs 1)), .val (.int (own_cp ds 1))] []))
              refine own_st (fun _ k => XS.goto X114.here hx rfl (pc0 := 56) (pc' := 14) rfl (hb hby d8_56) (by decide) (by decide) k) ?_
              show own_Go p e below s _ _ _ (T114.setTop (mkF m 14 #[.val (.ref a1), .val (.ref a2), .val (.int (Int32.ofNat (min cs.length ds.length))), .val (.int (3 : Int32)), .val (.int (own_cp cs 1)), .val (.int (own_cp ds 1))] []))
              refine own_st (fun _ k => XS.iloadN X114.here hx rfl (hb hby d8_14) rfl k) ?_
              show own_Go p e below s _ _ _ (T114.setTop (mkF m 15 #[.val (.ref a1), .val (.ref a2), .val (.int (Int32.ofNat (min cs.length ds.length))), .val (.int (3 : Int32)), .val (.int (own_cp cs 1)), .val (.int (own_cp ds 1))] [(.int (3 : Int32))]))
              refine own_st (fun _ k => XS.iloadN X114.here hx rfl (hb hby d8_15) rfl k) ?_
              show own_Go p e below s _ _ _ (T114.setTop (mkF m 16 #[.val (.ref a1), .val (.ref a2), .val (.int (Int32.ofNat (min cs.length ds.length))), .val (.int (3 : Int32)), .val (.int (own_cp cs 1)), .val (.int (own_cp ds 1))] [(.int (Int32.ofNat (min cs.length ds.length))), (.int (3 : Int32))]))
              refine own_st (fun _ k => XS.icmpYes X114.here hx rfl (pc0 := 16) (pc' := 59) rfl (hb hby d8_16) rfl (flt (fun q => absurd ((own_nlt (a := 3) (by omega) (by omega)).mp q) (by omega))).2.1 (by decide) (by decide) k) ?_
              show own_Go p e below s _ _ _ (T114.setTop (mkF m 59 #[.val (.ref a1), .val (.ref a2), .val (.int (Int32.ofNat (min cs.length ds.length))), .val (.int (3 : Int32)), .val (.int (own_cp cs 1)), .val (.int (own_cp ds 1))] []))
              refine own_st (fun _ k => XS.aloadN X114.here hx rfl (hb hby d8_59) rfl rfl k) ?_
              show own_Go p e below s _ _ _ (T114.setTop (mkF m 60 #[.val (.ref a1), .val (.ref a2), .val (.int (Int32.ofNat (min cs.length ds.length))), .val (.int (3 : Int32)), .val (.int (own_cp cs 1)), .val (.int (own_cp ds 1))] [(.ref a1)]))
              obtain ⟨T119, v119, L119, h119, X119, e119, q119, st119⟩ := own_callV X114 hx hZ (y := (⟨"java/lang/String", "length", "()I"⟩ : MethodName)) (z := (⟨"java/lang/String", "length", "()I"⟩ : MethodName)) hown (hw _ (List.mem_of_getElem? (i := 41) rfl)) (hw _ (List.mem_of_getElem? (i := 42) rfl)) (notFace_of_selects (args := #[]) (mvT hZ (hw _ (List.mem_of_getElem? (i := 44) rfl)))) (hw _ (List.mem_of_getElem? (i := 44) rfl)) (hw _ (List.mem_of_getElem? (i := 43) rfl)) (by decide) (own_lenB (W := 0) hZ (own_wLen hw) (kI := 4) (hw _ (List.mem_of_getElem? (i := 9) rfl)) O0 CS S1 (by decide) (by decide)) e114 S1.1 (by decide) (by decide) (g := (mkF m 60 #[.val (.ref a1), .val (.ref a2), .val (.int (Int32.ofNat (min cs.length ds.length))), .val (.int (3 : Int32)), .val (.int (own_cp cs 1)), .val (.int (own_cp ds 1))] [(.ref a1)])) rfl (by rw [hml]; rfl) (argsL := []) (rest := []) (lenOf pd__28_29I rfl) rfl rfl (by show 2 * 0 + _ ≤ _; exact Nat.le_of_eq rfl) (hb hby d8_60)
              obtain ⟨rfl, N119q, hq119⟩ := q119
              replace e119 := e119.trans hq119
              refine own_st st119 ?_
              have N119 := Fr.app N114 N119q
              show own_Go p e below s _ _ _ (T119.setTop (mkF m 63 #[.val (.ref a1), .val (.ref a2), .val (.int (Int32.ofNat (min cs.length ds.length))), .val (.int (3 : Int32)), .val (.int (own_cp cs 1)), .val (.int (own_cp ds 1))] [(.int (Int32.ofNat (cs).length))]))
              refine own_st (fun _ k => XS.aloadN X119.here hx rfl (hb hby d8_63) rfl rfl k) ?_
              show own_Go p e below s _ _ _ (T119.setTop (mkF m 64 #[.val (.ref a1), .val (.ref a2), .val (.int (Int32.ofNat (min cs.length ds.length))), .val (.int (3 : Int32)), .val (.int (own_cp cs 1)), .val (.int (own_cp ds 1))] [(.ref a2), (.int (Int32.ofNat (cs).length))]))
              obtain ⟨T120, v120, L120, h120, X120, e120, q120, st120⟩ := own_callV X119 hx hZ (y := (⟨"java/lang/String", "length", "()I"⟩ : MethodName)) (z := (⟨"java/lang/String", "length", "()I"⟩ : MethodName)) hown (hw _ (List.mem_of_getElem? (i := 41) rfl)) (hw _ (List.mem_of_getElem? (i := 42) rfl)) (notFace_of_selects (args := #[]) (mvT hZ (hw _ (List.mem_of_getElem? (i := 44) rfl)))) (hw _ (List.mem_of_getElem? (i := 44) rfl)) (hw _ (List.mem_of_getElem? (i := 43) rfl)) (by decide) (own_lenB (W := 1) hZ (own_wLen hw) (kI := 4) (hw _ (List.mem_of_getElem? (i := 9) rfl)) O0 CS S2 (by decide) (by decide)) e119 S2.1 (by decide) (by decide) (g := (mkF m 64 #[.val (.ref a1), .val (.ref a2), .val (.int (Int32.ofNat (min cs.length ds.length))), .val (.int (3 : Int32)), .val (.int (own_cp cs 1)), .val (.int (own_cp ds 1))] [(.ref a2), (.int (Int32.ofNat (cs).length))])) rfl (by rw [hml]; rfl) (argsL := []) (rest := [(.int (Int32.ofNat (cs).length))]) (lenOf pd__28_29I rfl) rfl rfl (by show 2 * 0 + _ ≤ _; exact Nat.le_of_eq rfl) (hb hby d8_64)
              obtain ⟨rfl, N120q, hq120⟩ := q120
              replace e120 := e120.trans hq120
              refine own_st st120 ?_
              have N120 := Fr.app N119 N120q
              show own_Go p e below s _ _ _ (T120.setTop (mkF m 67 #[.val (.ref a1), .val (.ref a2), .val (.int (Int32.ofNat (min cs.length ds.length))), .val (.int (3 : Int32)), .val (.int (own_cp cs 1)), .val (.int (own_cp ds 1))] [(.int (Int32.ofNat (ds).length)), (.int (Int32.ofNat (cs).length))]))
              obtain ⟨T121, v121, L121, h121, X121, e121, q121, st121⟩ := own_callS X120 hx hZ (y := (⟨"java/lang/Integer", "compare", "(II)I"⟩ : MethodName)) hown (hw _ (List.mem_of_getElem? (i := 56) rfl)) (hw _ (List.mem_of_getElem? (i := 57) rfl)) (hw _ (List.mem_of_getElem? (i := 58) rfl)) (hw _ (List.mem_of_getElem? (i := 59) rfl)) (by decide) (own_bk (W := 0) (icW l Z a0 hw (Int32.ofNat (cs).length) (Int32.ofNat (ds).length) h0 n0 O0) hZ (hw _ (List.mem_of_getElem? (i := 59) rfl)) (hw _ (List.mem_of_getElem? (i := 58) rfl)) (by decide) (by decide)) e120 (by decide) (by decide) (g := (mkF m 67 #[.val (.ref a1), .val (.ref a2), .val (.int (Int32.ofNat (min cs.length ds.length))), .val (.int (3 : Int32)), .val (.int (own_cp cs 1)), .val (.int (own_cp ds 1))] [(.int (Int32.ofNat (ds).length)), (.int (Int32.ofNat (cs).length))])) rfl (by rw [hml]; rfl) (argsL := [(.int (Int32.ofNat (cs).length)), (.int (Int32.ofNat (ds).length))]) (rest := []) (lenOf pd__28II_29I rfl) rfl rfl (by show 2 * 0 + _ ≤ _; exact Nat.le_of_eq rfl) (hb hby d8_67)
              obtain ⟨rfl, N121q, hq121⟩ := q121
              replace e121 := e121.trans hq121
              refine own_st st121 ?_
              have N121 := Fr.app N120 N121q
              show own_Go p e below s _ _ _ (T121.setTop (mkF m 70 #[.val (.ref a1), .val (.ref a2), .val (.int (Int32.ofNat (min cs.length ds.length))), .val (.int (3 : Int32)), .val (.int (own_cp cs 1)), .val (.int (own_cp ds 1))] [(.int (own_ic (Int32.ofNat (cs).length) (Int32.ofNat (ds).length)))]))
              exact own_ret X121 hx hlk e121 hret rfl (Or.inl ⟨rfl, Or.inl rfl, _, rfl⟩) (hb hby d8_70) (by decide) (by decide) ⟨_, rfl, Or.inr (Or.inr (Or.inr (Or.inr (Or.inl ⟨hm0, c107, b109, hm1, c113, rfl⟩)))), N121, rfl⟩
          · refine own_st (fun _ k => XS.icmpNo X112.here hx rfl (hb hby d8_37) rfl (feq c113).1 k) ?_
            show own_Go p e below s _ _ _ (T112.setTop (mkF m 40 #[.val (.ref a1), .val (.ref a2), .val (.int (Int32.ofNat (min cs.length ds.length))), .val (.int (1 : Int32)), .val (.int (own_cp cs 1)), .val (.int (own_cp ds 1))] []))
            refine own_st (fun _ k => XS.iload X112.here hx rfl (hb hby d8_40) rfl k) ?_
            show own_Go p e below s _ _ _ (T112.setTop (mkF m 42 #[.val (.ref a1), .val (.ref a2), .val (.int (Int32.ofNat (min cs.length ds.length))), .val (.int (1 : Int32)), .val (.int (own_cp cs 1)), .val (.int (own_cp ds 1))] [(.int (own_cp cs 1))]))
            refine own_st (fun _ k => XS.iload X112.here hx rfl (hb hby d8_42) rfl k) ?_
            show own_Go p e below s _ _ _ (T112.setTop (mkF m 44 #[.val (.ref a1), .val (.ref a2), .val (.int (Int32.ofNat (min cs.length ds.length))), .val (.int (1 : Int32)), .val (.int (own_cp cs 1)), .val (.int (own_cp ds 1))] [(.int (own_cp ds 1)), (.int (own_cp cs 1))]))
            obtain ⟨T122, v122, L122, h122, X122, e122, q122, st122⟩ := own_callS X112 hx hZ (y := (⟨"java/lang/Integer", "compare", "(II)I"⟩ : MethodName)) hown (hw _ (List.mem_of_getElem? (i := 56) rfl)) (hw _ (List.mem_of_getElem? (i := 57) rfl)) (hw _ (List.mem_of_getElem? (i := 58) rfl)) (hw _ (List.mem_of_getElem? (i := 59) rfl)) (by decide) (own_bk (W := 0) (icW l Z a0 hw (own_cp cs 1) (own_cp ds 1) h0 n0 O0) hZ (hw _ (List.mem_of_getElem? (i := 59) rfl)) (hw _ (List.mem_of_getElem? (i := 58) rfl)) (by decide) (by decide)) e112 (by decide) (by decide) (g := (mkF m 44 #[.val (.ref a1), .val (.ref a2), .val (.int (Int32.ofNat (min cs.length ds.length))), .val (.int (1 : Int32)), .val (.int (own_cp cs 1)), .val (.int (own_cp ds 1))] [(.int (own_cp ds 1)), (.int (own_cp cs 1))])) rfl (by rw [hml]; rfl) (argsL := [(.int (own_cp cs 1)), (.int (own_cp ds 1))]) (rest := []) (lenOf pd__28II_29I rfl) rfl rfl (by show 2 * 0 + _ ≤ _; exact Nat.le_of_eq rfl) (hb hby d8_44)
            obtain ⟨rfl, N122q, hq122⟩ := q122
            replace e122 := e122.trans hq122
            refine own_st st122 ?_
            have N122 := Fr.app N112 N122q
            show own_Go p e below s _ _ _ (T122.setTop (mkF m 47 #[.val (.ref a1), .val (.ref a2), .val (.int (Int32.ofNat (min cs.length ds.length))), .val (.int (1 : Int32)), .val (.int (own_cp cs 1)), .val (.int (own_cp ds 1))] [(.int (own_ic (own_cp cs 1) (own_cp ds 1)))]))
            exact own_ret X122 hx hlk e122 hret rfl (Or.inl ⟨rfl, Or.inl rfl, _, rfl⟩) (hb hby d8_47) (by decide) (by decide) ⟨_, rfl, Or.inr (Or.inr (Or.inr (Or.inl ⟨hm0, c107, b109, hm1, c113, rfl⟩))), N122, rfl⟩
        · refine own_st (fun _ k => XS.icmpYes X108.here hx rfl (pc0 := 16) (pc' := 59) rfl (hb hby d8_16) rfl (flt c110).2.1 (by decide) (by decide) k) ?_
          show own_Go p e below s _ _ _ (T108.setTop (mkF m 59 #[.val (.ref a1), .val (.ref a2), .val (.int (Int32.ofNat (min cs.length ds.length))), .val (.int (1 : Int32)), .val (.int (own_cp cs 0)), .val (.int (own_cp ds 0))] []))
          refine own_st (fun _ k => XS.aloadN X108.here hx rfl (hb hby d8_59) rfl rfl k) ?_
          show own_Go p e below s _ _ _ (T108.setTop (mkF m 60 #[.val (.ref a1), .val (.ref a2), .val (.int (Int32.ofNat (min cs.length ds.length))), .val (.int (1 : Int32)), .val (.int (own_cp cs 0)), .val (.int (own_cp ds 0))] [(.ref a1)]))
          obtain ⟨T123, v123, L123, h123, X123, e123, q123, st123⟩ := own_callV X108 hx hZ (y := (⟨"java/lang/String", "length", "()I"⟩ : MethodName)) (z := (⟨"java/lang/String", "length", "()I"⟩ : MethodName)) hown (hw _ (List.mem_of_getElem? (i := 41) rfl)) (hw _ (List.mem_of_getElem? (i := 42) rfl)) (notFace_of_selects (args := #[]) (mvT hZ (hw _ (List.mem_of_getElem? (i := 44) rfl)))) (hw _ (List.mem_of_getElem? (i := 44) rfl)) (hw _ (List.mem_of_getElem? (i := 43) rfl)) (by decide) (own_lenB (W := 0) hZ (own_wLen hw) (kI := 4) (hw _ (List.mem_of_getElem? (i := 9) rfl)) O0 CS S1 (by decide) (by decide)) e108 S1.1 (by decide) (by decide) (g := (mkF m 60 #[.val (.ref a1), .val (.ref a2), .val (.int (Int32.ofNat (min cs.length ds.length))), .val (.int (1 : Int32)), .val (.int (own_cp cs 0)), .val (.int (own_cp ds 0))] [(.ref a1)])) rfl (by rw [hml]; rfl) (argsL := []) (rest := []) (lenOf pd__28_29I rfl) rfl rfl (by show 2 * 0 + _ ≤ _; exact Nat.le_of_eq rfl) (hb hby d8_60)
          obtain ⟨rfl, N123q, hq123⟩ := q123
          replace e123 := e123.trans hq123
          refine own_st st123 ?_
          have N123 := Fr.app N108 N123q
          show own_Go p e below s _ _ _ (T123.setTop (mkF m 63 #[.val (.ref a1), .val (.ref a2), .val (.int (Int32.ofNat (min cs.length ds.length))), .val (.int (1 : Int32)), .val (.int (own_cp cs 0)), .val (.int (own_cp ds 0))] [(.int (Int32.ofNat (cs).length))]))
          refine own_st (fun _ k => XS.aloadN X123.here hx rfl (hb hby d8_63) rfl rfl k) ?_
          show own_Go p e below s _ _ _ (T123.setTop (mkF m 64 #[.val (.ref a1), .val (.ref a2), .val (.int (Int32.ofNat (min cs.length ds.length))), .val (.int (1 : Int32)), .val (.int (own_cp cs 0)), .val (.int (own_cp ds 0))] [(.ref a2), (.int (Int32.ofNat (cs).length))]))
          obtain ⟨T124, v124, L124, h124, X124, e124, q124, st124⟩ := own_callV X123 hx hZ (y := (⟨"java/lang/String", "length", "()I"⟩ : MethodName)) (z := (⟨"java/lang/String", "length", "()I"⟩ : MethodName)) hown (hw _ (List.mem_of_getElem? (i := 41) rfl)) (hw _ (List.mem_of_getElem? (i := 42) rfl)) (notFace_of_selects (args := #[]) (mvT hZ (hw _ (List.mem_of_getElem? (i := 44) rfl)))) (hw _ (List.mem_of_getElem? (i := 44) rfl)) (hw _ (List.mem_of_getElem? (i := 43) rfl)) (by decide) (own_lenB (W := 1) hZ (own_wLen hw) (kI := 4) (hw _ (List.mem_of_getElem? (i := 9) rfl)) O0 CS S2 (by decide) (by decide)) e123 S2.1 (by decide) (by decide) (g := (mkF m 64 #[.val (.ref a1), .val (.ref a2), .val (.int (Int32.ofNat (min cs.length ds.length))), .val (.int (1 : Int32)), .val (.int (own_cp cs 0)), .val (.int (own_cp ds 0))] [(.ref a2), (.int (Int32.ofNat (cs).length))])) rfl (by rw [hml]; rfl) (argsL := []) (rest := [(.int (Int32.ofNat (cs).length))]) (lenOf pd__28_29I rfl) rfl rfl (by show 2 * 0 + _ ≤ _; exact Nat.le_of_eq rfl) (hb hby d8_64)
          obtain ⟨rfl, N124q, hq124⟩ := q124
          replace e124 := e124.trans hq124
          refine own_st st124 ?_
          have N124 := Fr.app N123 N124q
          show own_Go p e below s _ _ _ (T124.setTop (mkF m 67 #[.val (.ref a1), .val (.ref a2), .val (.int (Int32.ofNat (min cs.length ds.length))), .val (.int (1 : Int32)), .val (.int (own_cp cs 0)), .val (.int (own_cp ds 0))] [(.int (Int32.ofNat (ds).length)), (.int (Int32.ofNat (cs).length))]))
          obtain ⟨T125, v125, L125, h125, X125, e125, q125, st125⟩ := own_callS X124 hx hZ (y := (⟨"java/lang/Integer", "compare", "(II)I"⟩ : MethodName)) hown (hw _ (List.mem_of_getElem? (i := 56) rfl)) (hw _ (List.mem_of_getElem? (i := 57) rfl)) (hw _ (List.mem_of_getElem? (i := 58) rfl)) (hw _ (List.mem_of_getElem? (i := 59) rfl)) (by decide) (own_bk (W := 0) (icW l Z a0 hw (Int32.ofNat (cs).length) (Int32.ofNat (ds).length) h0 n0 O0) hZ (hw _ (List.mem_of_getElem? (i := 59) rfl)) (hw _ (List.mem_of_getElem? (i := 58) rfl)) (by decide) (by decide)) e124 (by decide) (by decide) (g := (mkF m 67 #[.val (.ref a1), .val (.ref a2), .val (.int (Int32.ofNat (min cs.length ds.length))), .val (.int (1 : Int32)), .val (.int (own_cp cs 0)), .val (.int (own_cp ds 0))] [(.int (Int32.ofNat (ds).length)), (.int (Int32.ofNat (cs).length))])) rfl (by rw [hml]; rfl) (argsL := [(.int (Int32.ofNat (cs).length)), (.int (Int32.ofNat (ds).length))]) (rest := []) (lenOf pd__28II_29I rfl) rfl rfl (by show 2 * 0 + _ ≤ _; exact Nat.le_of_eq rfl) (hb hby d8_67)
          obtain ⟨rfl, N125q, hq125⟩ := q125
          replace e125 := e125.trans hq125
          refine own_st st125 ?_
          have N125 := Fr.app N124 N125q
          show own_Go p e below s _ _ _ (T125.setTop (mkF m 70 #[.val (.ref a1), .val (.ref a2), .val (.int (Int32.ofNat (min cs.length ds.length))), .val (.int (1 : Int32)), .val (.int (own_cp cs 0)), .val (.int (own_cp ds 0))] [(.int (own_ic (Int32.ofNat (cs).length) (Int32.ofNat (ds).length)))]))
          exact own_ret X125 hx hlk e125 hret rfl (Or.inl ⟨rfl, Or.inl rfl, _, rfl⟩) (hb hby d8_70) (by decide) (by decide) ⟨_, rfl, Or.inr (Or.inr (Or.inl ⟨hm0, c107, b109, (fun q => c110 ((own_nlt (a := 1) (by omega) (by omega)).mpr q)), rfl⟩)), N125, rfl⟩
      · rw [if_neg b109]
        show own_Go p e below s _ _ _ (T108.setTop (mkF m 54 #[.val (.ref a1), .val (.ref a2), .val (.int (Int32.ofNat (min cs.length ds.length))), .val (.int (0 : Int32)), .val (.int (own_cp cs 0)), .val (.int (own_cp ds 0))] [(.int (2 : Int32)), (.int (0 : Int32))]))
        refine own_st (fun _ k => XS.iadd X108.here hx rfl (hb hby d8_54) rfl k) ?_
        show own_Go p e below s _ _ _ (T108.setTop (mkF m 55 #[.val (.ref a1), .val (.ref a2), .val (.int (Int32.ofNat (min cs.length ds.length))), .val (.int (0 : Int32)), .val (.int (own_cp cs 0)), .val (.int (own_cp ds 0))] [(.int ((0 : Int32) + (2 : Int32)))]))
        rw [(by decide : ((0 : Int32) + (2 : Int32)) = (2 : Int32))]
        show own_Go p e below s _ _ _ (T108.setTop (mkF m 55 #[.val (.ref a1), .val (.ref a2), .val (.int (Int32.ofNat (min cs.length ds.length))), .val (.int (0 : Int32)), .val (.int (own_cp cs 0)), .val (.int (own_cp ds 0))] [(.int (2 : Int32))]))
        refine own_st (fun _ k => XS.istoreN X108.here hx rfl (hb hby d8_55) rfl (l' := #[.val (.ref a1), .val (.ref a2), .val (.int (Int32.ofNat (min cs.length ds.length))), .val (.int (2 : Int32)), .val (.int (own_cp cs 0)), .val (.int (own_cp ds 0))]) rfl k) ?_
        show own_Go p e below s _ _ _ (T108.setTop (mkF m 56 #[.val (.ref a1), .val (.ref a2), .val (.int (Int32.ofNat (min cs.length ds.length))), .val (.int (2 : Int32)), .val (.int (own_cp cs 0)), .val (.int (own_cp ds 0))] []))
        refine own_st (fun _ k => XS.goto X108.here hx rfl (pc0 := 56) (pc' := 14) rfl (hb hby d8_56) (by decide) (by decide) k) ?_
        show own_Go p e below s _ _ _ (T108.setTop (mkF m 14 #[.val (.ref a1), .val (.ref a2), .val (.int (Int32.ofNat (min cs.length ds.length))), .val (.int (2 : Int32)), .val (.int (own_cp cs 0)), .val (.int (own_cp ds 0))] []))
        refine own_st (fun _ k => XS.iloadN X108.here hx rfl (hb hby d8_14) rfl k) ?_
        show own_Go p e below s _ _ _ (T108.setTop (mkF m 15 #[.val (.ref a1), .val (.ref a2), .val (.int (Int32.ofNat (min cs.length ds.length))), .val (.int (2 : Int32)), .val (.int (own_cp cs 0)), .val (.int (own_cp ds 0))] [(.int (2 : Int32))]))
        refine own_st (fun _ k => XS.iloadN X108.here hx rfl (hb hby d8_15) rfl k) ?_
        show own_Go p e below s _ _ _ (T108.setTop (mkF m 16 #[.val (.ref a1), .val (.ref a2), .val (.int (Int32.ofNat (min cs.length ds.length))), .val (.int (2 : Int32)), .val (.int (own_cp cs 0)), .val (.int (own_cp ds 0))] [(.int (Int32.ofNat (min cs.length ds.length))), (.int (2 : Int32))]))
        refine own_st (fun _ k => XS.icmpYes X108.here hx rfl (pc0 := 16) (pc' := 59) rfl (hb hby d8_16) rfl (flt (fun q => absurd ((own_nlt (a := 2) (by omega) (by omega)).mp q) (by omega))).2.1 (by decide) (by decide) k) ?_
        show own_Go p e below s _ _ _ (T108.setTop (mkF m 59 #[.val (.ref a1), .val (.ref a2), .val (.int (Int32.ofNat (min cs.length ds.length))), .val (.int (2 : Int32)), .val (.int (own_cp cs 0)), .val (.int (own_cp ds 0))] []))
        refine own_st (fun _ k => XS.aloadN X108.here hx rfl (hb hby d8_59) rfl rfl k) ?_
        show own_Go p e below s _ _ _ (T108.setTop (mkF m 60 #[.val (.ref a1), .val (.ref a2), .val (.int (Int32.ofNat (min cs.length ds.length))), .val (.int (2 : Int32)), .val (.int (own_cp cs 0)), .val (.int (own_cp ds 0))] [(.ref a1)]))
        obtain ⟨T126, v126, L126, h126, X126, e126, q126, st126⟩ := own_callV X108 hx hZ (y := (⟨"java/lang/String", "length", "()I"⟩ : MethodName)) (z := (⟨"java/lang/String", "length", "()I"⟩ : MethodName)) hown (hw _ (List.mem_of_getElem? (i := 41) rfl)) (hw _ (List.mem_of_getElem? (i := 42) rfl)) (notFace_of_selects (args := #[]) (mvT hZ (hw _ (List.mem_of_getElem? (i := 44) rfl)))) (hw _ (List.mem_of_getElem? (i := 44) rfl)) (hw _ (List.mem_of_getElem? (i := 43) rfl)) (by decide) (own_lenB (W := 0) hZ (own_wLen hw) (kI := 4) (hw _ (List.mem_of_getElem? (i := 9) rfl)) O0 CS S1 (by decide) (by decide)) e108 S1.1 (by decide) (by decide) (g := (mkF m 60 #[.val (.ref a1), .val (.ref a2), .val (.int (Int32.ofNat (min cs.length ds.length))), .val (.int (2 : Int32)), .val (.int (own_cp cs 0)), .val (.int (own_cp ds 0))] [(.ref a1)])) rfl (by rw [hml]; rfl) (argsL := []) (rest := []) (lenOf pd__28_29I rfl) rfl rfl (by show 2 * 0 + _ ≤ _; exact Nat.le_of_eq rfl) (hb hby d8_60)
        obtain ⟨rfl, N126q, hq126⟩ := q126
        replace e126 := e126.trans hq126
        refine own_st st126 ?_
        have N126 := Fr.app N108 N126q
        show own_Go p e below s _ _ _ (T126.setTop (mkF m 63 #[.val (.ref a1), .val (.ref a2), .val (.int (Int32.ofNat (min cs.length ds.length))), .val (.int (2 : Int32)), .val (.int (own_cp cs 0)), .val (.int (own_cp ds 0))] [(.int (Int32.ofNat (cs).length))]))
        refine own_st (fun _ k => XS.aloadN X126.here hx rfl (hb hby d8_63) rfl rfl k) ?_
        show own_Go p e below s _ _ _ (T126.setTop (mkF m 64 #[.val (.ref a1), .val (.ref a2), .val (.int (Int32.ofNat (min cs.length ds.length))), .val (.int (2 : Int32)), .val (.int (own_cp cs 0)), .val (.int (own_cp ds 0))] [(.ref a2), (.int (Int32.ofNat (cs).length))]))
        obtain ⟨T127, v127, L127, h127, X127, e127, q127, st127⟩ := own_callV X126 hx hZ (y := (⟨"java/lang/String", "length", "()I"⟩ : MethodName)) (z := (⟨"java/lang/String", "length", "()I"⟩ : MethodName)) hown (hw _ (List.mem_of_getElem? (i := 41) rfl)) (hw _ (List.mem_of_getElem? (i := 42) rfl)) (notFace_of_selects (args := #[]) (mvT hZ (hw _ (List.mem_of_getElem? (i := 44) rfl)))) (hw _ (List.mem_of_getElem? (i := 44) rfl)) (hw _ (List.mem_of_getElem? (i := 43) rfl)) (by decide) (own_lenB (W := 1) hZ (own_wLen hw) (kI := 4) (hw _ (List.mem_of_getElem? (i := 9) rfl)) O0 CS S2 (by decide) (by decide)) e126 S2.1 (by decide) (by decide) (g := (mkF m 64 #[.val (.ref a1), .val (.ref a2), .val (.int (Int32.ofNat (min cs.length ds.length))), .val (.int (2 : Int32)), .val (.int (own_cp cs 0)), .val (.int (own_cp ds 0))] [(.ref a2), (.int (Int32.ofNat (cs).length))])) rfl (by rw [hml]; rfl) (argsL := []) (rest := [(.int (Int32.ofNat (cs).length))]) (lenOf pd__28_29I rfl) rfl rfl (by show 2 * 0 + _ ≤ _; exact Nat.le_of_eq rfl) (hb hby d8_64)
        obtain ⟨rfl, N127q, hq127⟩ := q127
        replace e127 := e127.trans hq127
        refine own_st st127 ?_
        have N127 := Fr.app N126 N127q
        show own_Go p e below s _ _ _ (T127.setTop (mkF m 67 #[.val (.ref a1), .val (.ref a2), .val (.int (Int32.ofNat (min cs.length ds.length))), .val (.int (2 : Int32)), .val (.int (own_cp cs 0)), .val (.int (own_cp ds 0))] [(.int (Int32.ofNat (ds).length)), (.int (Int32.ofNat (cs).length))]))
        obtain ⟨T128, v128, L128, h128, X128, e128, q128, st128⟩ := own_callS X127 hx hZ (y := (⟨"java/lang/Integer", "compare", "(II)I"⟩ : MethodName)) hown (hw _ (List.mem_of_getElem? (i := 56) rfl)) (hw _ (List.mem_of_getElem? (i := 57) rfl)) (hw _ (List.mem_of_getElem? (i := 58) rfl)) (hw _ (List.mem_of_getElem? (i := 59) rfl)) (by decide) (own_bk (W := 0) (icW l Z a0 hw (Int32.ofNat (cs).length) (Int32.ofNat (ds).length) h0 n0 O0) hZ (hw _ (List.mem_of_getElem? (i := 59) rfl)) (hw _ (List.mem_of_getElem? (i := 58) rfl)) (by decide) (by decide)) e127 (by decide) (by decide) (g := (mkF m 67 #[.val (.ref a1), .val (.ref a2), .val (.int (Int32.ofNat (min cs.length ds.length))), .val (.int (2 : Int32)), .val (.int (own_cp cs 0)), .val (.int (own_cp ds 0))] [(.int (Int32.ofNat (ds).length)), (.int (Int32.ofNat (cs).length))])) rfl (by rw [hml]; rfl) (argsL := [(.int (Int32.ofNat (cs).length)), (.int (Int32.ofNat (ds).length))]) (rest := []) (lenOf pd__28II_29I rfl) rfl rfl (by show 2 * 0 + _ ≤ _; exact Nat.le_of_eq rfl) (hb hby d8_67)
        obtain ⟨rfl, N128q, hq128⟩ := q128
        replace e128 := e128.trans hq128
        refine own_st st128 ?_
        have N128 := Fr.app N127 N128q
        show own_Go p e below s _ _ _ (T128.setTop (mkF m 70 #[.val (.ref a1), .val (.ref a2), .val (.int (Int32.ofNat (min cs.length ds.length))), .val (.int (2 : Int32)), .val (.int (own_cp cs 0)), .val (.int (own_cp ds 0))] [(.int (own_ic (Int32.ofNat (cs).length) (Int32.ofNat (ds).length)))]))
        exact own_ret X128 hx hlk e128 hret rfl (Or.inl ⟨rfl, Or.inl rfl, _, rfl⟩) (hb hby d8_70) (by decide) (by decide) ⟨_, rfl, Or.inr (Or.inr (Or.inr (Or.inr (Or.inr ⟨hm0, c107, b109, rfl⟩)))), N128, rfl⟩
    · refine own_st (fun _ k => XS.icmpNo X106.here hx rfl (hb hby d8_37) rfl (feq c107).1 k) ?_
      show own_Go p e below s _ _ _ (T106.setTop (mkF m 40 #[.val (.ref a1), .val (.ref a2), .val (.int (Int32.ofNat (min cs.length ds.length))), .val (.int (0 : Int32)), .val (.int (own_cp cs 0)), .val (.int (own_cp ds 0))] []))
      refine own_st (fun _ k => XS.iload X106.here hx rfl (hb hby d8_40) rfl k) ?_
      show own_Go p e below s _ _ _ (T106.setTop (mkF m 42 #[.val (.ref a1), .val (.ref a2), .val (.int (Int32.ofNat (min cs.length ds.length))), .val (.int (0 : Int32)), .val (.int (own_cp cs 0)), .val (.int (own_cp ds 0))] [(.int (own_cp cs 0))]))
      refine own_st (fun _ k => XS.iload X106.here hx rfl (hb hby d8_42) rfl k) ?_
      show own_Go p e below s _ _ _ (T106.setTop (mkF m 44 #[.val (.ref a1), .val (.ref a2), .val (.int (Int32.ofNat (min cs.length ds.length))), .val (.int (0 : Int32)), .val (.int (own_cp cs 0)), .val (.int (own_cp ds 0))] [(.int (own_cp ds 0)), (.int (own_cp cs 0))]))
      obtain ⟨T129, v129, L129, h129, X129, e129, q129, st129⟩ := own_callS X106 hx hZ (y := (⟨"java/lang/Integer", "compare", "(II)I"⟩ : MethodName)) hown (hw _ (List.mem_of_getElem? (i := 56) rfl)) (hw _ (List.mem_of_getElem? (i := 57) rfl)) (hw _ (List.mem_of_getElem? (i := 58) rfl)) (hw _ (List.mem_of_getElem? (i := 59) rfl)) (by decide) (own_bk (W := 0) (icW l Z a0 hw (own_cp cs 0) (own_cp ds 0) h0 n0 O0) hZ (hw _ (List.mem_of_getElem? (i := 59) rfl)) (hw _ (List.mem_of_getElem? (i := 58) rfl)) (by decide) (by decide)) e106 (by decide) (by decide) (g := (mkF m 44 #[.val (.ref a1), .val (.ref a2), .val (.int (Int32.ofNat (min cs.length ds.length))), .val (.int (0 : Int32)), .val (.int (own_cp cs 0)), .val (.int (own_cp ds 0))] [(.int (own_cp ds 0)), (.int (own_cp cs 0))])) rfl (by rw [hml]; rfl) (argsL := [(.int (own_cp cs 0)), (.int (own_cp ds 0))]) (rest := []) (lenOf pd__28II_29I rfl) rfl rfl (by show 2 * 0 + _ ≤ _; exact Nat.le_of_eq rfl) (hb hby d8_44)
      obtain ⟨rfl, N129q, hq129⟩ := q129
      replace e129 := e129.trans hq129
      refine own_st st129 ?_
      have N129 := Fr.app N106 N129q
      show own_Go p e below s _ _ _ (T129.setTop (mkF m 47 #[.val (.ref a1), .val (.ref a2), .val (.int (Int32.ofNat (min cs.length ds.length))), .val (.int (0 : Int32)), .val (.int (own_cp cs 0)), .val (.int (own_cp ds 0))] [(.int (own_ic (own_cp cs 0) (own_cp ds 0)))]))
      exact own_ret X129 hx hlk e129 hret rfl (Or.inl ⟨rfl, Or.inl rfl, _, rfl⟩) (hb hby d8_47) (by decide) (by decide) ⟨_, rfl, Or.inr (Or.inl ⟨hm0, c107, rfl⟩), N129, rfl⟩
  · refine own_st (fun _ k => XS.icmpYes X103.here hx rfl (pc0 := 16) (pc' := 59) rfl (hb hby d8_16) rfl (flt c104).2.1 (by decide) (by decide) k) ?_
    show own_Go p e below s _ _ _ (T103.setTop (mkF m 59 #[.val (.ref a1), .val (.ref a2), .val (.int (Int32.ofNat (min cs.length ds.length))), .val (.int (0 : Int32)), .unset, .unset] []))
    refine own_st (fun _ k => XS.aloadN X103.here hx rfl (hb hby d8_59) rfl rfl k) ?_
    show own_Go p e below s _ _ _ (T103.setTop (mkF m 60 #[.val (.ref a1), .val (.ref a2), .val (.int (Int32.ofNat (min cs.length ds.length))), .val (.int (0 : Int32)), .unset, .unset] [(.ref a1)]))
    obtain ⟨T130, v130, L130, h130, X130, e130, q130, st130⟩ := own_callV X103 hx hZ (y := (⟨"java/lang/String", "length", "()I"⟩ : MethodName)) (z := (⟨"java/lang/String", "length", "()I"⟩ : MethodName)) hown (hw _ (List.mem_of_getElem? (i := 41) rfl)) (hw _ (List.mem_of_getElem? (i := 42) rfl)) (notFace_of_selects (args := #[]) (mvT hZ (hw _ (List.mem_of_getElem? (i := 44) rfl)))) (hw _ (List.mem_of_getElem? (i := 44) rfl)) (hw _ (List.mem_of_getElem? (i := 43) rfl)) (by decide) (own_lenB (W := 0) hZ (own_wLen hw) (kI := 4) (hw _ (List.mem_of_getElem? (i := 9) rfl)) O0 CS S1 (by decide) (by decide)) e103 S1.1 (by decide) (by decide) (g := (mkF m 60 #[.val (.ref a1), .val (.ref a2), .val (.int (Int32.ofNat (min cs.length ds.length))), .val (.int (0 : Int32)), .unset, .unset] [(.ref a1)])) rfl (by rw [hml]; rfl) (argsL := []) (rest := []) (lenOf pd__28_29I rfl) rfl rfl (by show 2 * 0 + _ ≤ _; exact Nat.le_of_eq rfl) (hb hby d8_60)
    obtain ⟨rfl, N130q, hq130⟩ := q130
    replace e130 := e130.trans hq130
    refine own_st st130 ?_
    have N130 := Fr.app N103 N130q
    show own_Go p e below s _ _ _ (T130.setTop (mkF m 63 #[.val (.ref a1), .val (.ref a2), .val (.int (Int32.ofNat (min cs.length ds.length))), .val (.int (0 : Int32)), .unset, .unset] [(.int (Int32.ofNat (cs).length))]))
    refine own_st (fun _ k => XS.aloadN X130.here hx rfl (hb hby d8_63) rfl rfl k) ?_
    show own_Go p e below s _ _ _ (T130.setTop (mkF m 64 #[.val (.ref a1), .val (.ref a2), .val (.int (Int32.ofNat (min cs.length ds.length))), .val (.int (0 : Int32)), .unset, .unset] [(.ref a2), (.int (Int32.ofNat (cs).length))]))
    obtain ⟨T131, v131, L131, h131, X131, e131, q131, st131⟩ := own_callV X130 hx hZ (y := (⟨"java/lang/String", "length", "()I"⟩ : MethodName)) (z := (⟨"java/lang/String", "length", "()I"⟩ : MethodName)) hown (hw _ (List.mem_of_getElem? (i := 41) rfl)) (hw _ (List.mem_of_getElem? (i := 42) rfl)) (notFace_of_selects (args := #[]) (mvT hZ (hw _ (List.mem_of_getElem? (i := 44) rfl)))) (hw _ (List.mem_of_getElem? (i := 44) rfl)) (hw _ (List.mem_of_getElem? (i := 43) rfl)) (by decide) (own_lenB (W := 1) hZ (own_wLen hw) (kI := 4) (hw _ (List.mem_of_getElem? (i := 9) rfl)) O0 CS S2 (by decide) (by decide)) e130 S2.1 (by decide) (by decide) (g := (mkF m 64 #[.val (.ref a1), .val (.ref a2), .val (.int (Int32.ofNat (min cs.length ds.length))), .val (.int (0 : Int32)), .unset, .unset] [(.ref a2), (.int (Int32.ofNat (cs).length))])) rfl (by rw [hml]; rfl) (argsL := []) (rest := [(.int (Int32.ofNat (cs).length))]) (lenOf pd__28_29I rfl) rfl rfl (by show 2 * 0 + _ ≤ _; exact Nat.le_of_eq rfl) (hb hby d8_64)
    obtain ⟨rfl, N131q, hq131⟩ := q131
    replace e131 := e131.trans hq131
    refine own_st st131 ?_
    have N131 := Fr.app N130 N131q
    show own_Go p e below s _ _ _ (T131.setTop (mkF m 67 #[.val (.ref a1), .val (.ref a2), .val (.int (Int32.ofNat (min cs.length ds.length))), .val (.int (0 : Int32)), .unset, .unset] [(.int (Int32.ofNat (ds).length)), (.int (Int32.ofNat (cs).length))]))
    obtain ⟨T132, v132, L132, h132, X132, e132, q132, st132⟩ := own_callS X131 hx hZ (y := (⟨"java/lang/Integer", "compare", "(II)I"⟩ : MethodName)) hown (hw _ (List.mem_of_getElem? (i := 56) rfl)) (hw _ (List.mem_of_getElem? (i := 57) rfl)) (hw _ (List.mem_of_getElem? (i := 58) rfl)) (hw _ (List.mem_of_getElem? (i := 59) rfl)) (by decide) (own_bk (W := 0) (icW l Z a0 hw (Int32.ofNat (cs).length) (Int32.ofNat (ds).length) h0 n0 O0) hZ (hw _ (List.mem_of_getElem? (i := 59) rfl)) (hw _ (List.mem_of_getElem? (i := 58) rfl)) (by decide) (by decide)) e131 (by decide) (by decide) (g := (mkF m 67 #[.val (.ref a1), .val (.ref a2), .val (.int (Int32.ofNat (min cs.length ds.length))), .val (.int (0 : Int32)), .unset, .unset] [(.int (Int32.ofNat (ds).length)), (.int (Int32.ofNat (cs).length))])) rfl (by rw [hml]; rfl) (argsL := [(.int (Int32.ofNat (cs).length)), (.int (Int32.ofNat (ds).length))]) (rest := []) (lenOf pd__28II_29I rfl) rfl rfl (by show 2 * 0 + _ ≤ _; exact Nat.le_of_eq rfl) (hb hby d8_67)
    obtain ⟨rfl, N132q, hq132⟩ := q132
    replace e132 := e132.trans hq132
    refine own_st st132 ?_
    have N132 := Fr.app N131 N132q
    show own_Go p e below s _ _ _ (T132.setTop (mkF m 70 #[.val (.ref a1), .val (.ref a2), .val (.int (Int32.ofNat (min cs.length ds.length))), .val (.int (0 : Int32)), .unset, .unset] [(.int (own_ic (Int32.ofNat (cs).length) (Int32.ofNat (ds).length)))]))
    exact own_ret X132 hx hlk e132 hret rfl (Or.inl ⟨rfl, Or.inl rfl, _, rfl⟩) (hb hby d8_70) (by decide) (by decide) ⟨_, rfl, Or.inl ⟨(fun q => c104 ((own_nlt (a := 0) (by omega) (by omega)).mpr q)), rfl⟩, N132, rfl⟩
theorem d1_0 : decode method_2_code 0 = .ok (.iload_n 0, 1) := by decide +kernel
theorem d1_1 : decode method_2_code 1 = .ok (.bipush 16, 2) := by decide +kernel
theorem d1_3 : decode method_2_code 3 = .ok (.iushr, 1) := by decide +kernel
theorem d1_4 : decode method_2_code 4 = .ok (.iconst 3, 1) := by decide +kernel
theorem d1_5 : decode method_2_code 5 = .ok (.iand, 1) := by decide +kernel
theorem d1_6 : decode method_2_code 6 = .ok (.istore_n 1, 1) := by decide +kernel
theorem d1_7 : decode method_2_code 7 = .ok (.iload_n 1, 1) := by decide +kernel
theorem d1_8 : decode method_2_code 8 = .ok (.ifCond .ne 9, 3) := by decide +kernel
theorem d1_11 : decode method_2_code 11 = .ok (.iload_n 0, 1) := by decide +kernel
theorem d1_12 : decode method_2_code 12 = .ok (.ldc 7, 2) := by decide +kernel
theorem d1_14 : decode method_2_code 14 = .ok (.iand, 1) := by decide +kernel
theorem d1_15 : decode method_2_code 15 = .ok (.i2c, 1) := by decide +kernel
theorem d1_16 : decode method_2_code 16 = .ok (.ireturn, 1) := by decide +kernel
theorem d1_17 : decode method_2_code 17 = .ok (.iload_n 1, 1) := by decide +kernel
theorem d1_18 : decode method_2_code 18 = .ok (.iconst 1, 1) := by decide +kernel
theorem d1_19 : decode method_2_code 19 = .ok (.if_icmp .ne 13, 3) := by decide +kernel
theorem d1_22 : decode method_2_code 22 = .ok (.ldc 8, 2) := by decide +kernel
theorem d1_24 : decode method_2_code 24 = .ok (.iload_n 0, 1) := by decide +kernel
theorem d1_25 : decode method_2_code 25 = .ok (.sipush 1023, 3) := by decide +kernel
theorem d1_28 : decode method_2_code 28 = .ok (.iand, 1) := by decide +kernel
theorem d1_29 : decode method_2_code 29 = .ok (.ior, 1) := by decide +kernel
theorem d1_30 : decode method_2_code 30 = .ok (.i2c, 1) := by decide +kernel
theorem d1_31 : decode method_2_code 31 = .ok (.ireturn, 1) := by decide +kernel
theorem d1_32 : decode method_2_code 32 = .ok (.iload_n 1, 1) := by decide +kernel
theorem d1_33 : decode method_2_code 33 = .ok (.iconst 2, 1) := by decide +kernel
theorem d1_34 : decode method_2_code 34 = .ok (.if_icmp .ne 13, 3) := by decide +kernel
theorem d1_37 : decode method_2_code 37 = .ok (.ldc 9, 2) := by decide +kernel
theorem d1_39 : decode method_2_code 39 = .ok (.iload_n 0, 1) := by decide +kernel
theorem d1_40 : decode method_2_code 40 = .ok (.sipush 1023, 3) := by decide +kernel
theorem d1_43 : decode method_2_code 43 = .ok (.iand, 1) := by decide +kernel
theorem d1_44 : decode method_2_code 44 = .ok (.ior, 1) := by decide +kernel
theorem d1_45 : decode method_2_code 45 = .ok (.i2c, 1) := by decide +kernel
theorem d1_46 : decode method_2_code 46 = .ok (.ireturn, 1) := by decide +kernel
theorem d1_47 : decode method_2_code 47 = .ok (.iload_n 0, 1) := by decide +kernel
theorem d1_48 : decode method_2_code 48 = .ok (.bipush 127, 2) := by decide +kernel
theorem d1_50 : decode method_2_code 50 = .ok (.iand, 1) := by decide +kernel
theorem d1_51 : decode method_2_code 51 = .ok (.i2c, 1) := by decide +kernel
theorem d1_52 : decode method_2_code 52 = .ok (.ireturn, 1) := by decide +kernel
theorem ef_drW (m : MethodId) (x0 : Int32) : entryFrame m #[(.int x0)] 2 = mkF m 0 #[.val (.int x0), .unset] [] := by (first | (simp [entryFrame, mkF, argsToLocals, Value.category]; done) | rfl)
abbrev drWR : Room := { frames := 0, cells := 0, slots := 0, locals := 0 }
set_option maxRecDepth 65536 in
set_option maxHeartbeats 40000000 in
theorem drW (l : Launch) (Z : State) (a0 : Array Value) (hw : ∀ d ∈ tables_1, d.before a0 Z = true) (p1 : Int32) (h0 : Heap) (n0 : Nat) (O0 : Old Z n0 h0)  :
    own_C l Z (⟨"com/example/vetch/vetch/util/CharacterOrderComparePinLaw", "draw", "(I)C"⟩ : MethodName) method_2_code 2 (some .char) [] drWR #[(.int p1)] h0 (fun v h L => ∃ c : Int32, v = some (.int c) ∧ (¬ c < 0 ∧ ¬ (65535 : Int32) < c) ∧ Fr n0 L ∧ h = h0) := by
  refine own_body (plainFor_of_name pn_com_example_vetch_vetch_util_CharacterOrderComparePinLaw) ?_
  intro p e s m below meth c T0 X0 hx hby hml hZ hown hnm hret hlk e0
  have N0 := Fr.nil n0
  have zO := own_old O0
  refine own_st (fun _ k => castTop (ef_drW m p1) k) ?_
  show own_Go p e below s _ _ _ (T0.setTop (mkF m 0 #[.val (.int p1), .unset] []))
  refine own_st (fun _ k => XS.iloadN X0.here hx rfl (hb hby d1_0) rfl k) ?_
  show own_Go p e below s _ _ _ (T0.setTop (mkF m 1 #[.val (.int p1), .unset] [(.int p1)]))
  refine own_st (fun _ k => XS.bipush X0.here hx rfl (hb hby d1_1) k) ?_
  show own_Go p e below s _ _ _ (T0.setTop (mkF m 3 #[.val (.int p1), .unset] [(.int (16 : Int32)), (.int p1)]))
  refine own_st (fun _ k => XS.iushr X0.here hx rfl (hb hby d1_3) rfl k) ?_
  show own_Go p e below s _ _ _ (T0.setTop (mkF m 4 #[.val (.int p1), .unset] [(.int ((p1.toUInt32 >>> ((16 : Int32) &&& 31).toUInt32).toInt32))]))
  refine own_st (fun _ k => XS.iconst X0.here hx rfl (hb hby d1_4) k) ?_
  show own_Go p e below s _ _ _ (T0.setTop (mkF m 5 #[.val (.int p1), .unset] [(.int (3 : Int32)), (.int ((p1.toUInt32 >>> ((16 : Int32) &&& 31).toUInt32).toInt32))]))
  refine own_st (fun _ k => XS.iand X0.here hx rfl (hb hby d1_5) rfl k) ?_
  show own_Go p e below s _ _ _ (T0.setTop (mkF m 6 #[.val (.int p1), .unset] [(.int (((p1.toUInt32 >>> ((16 : Int32) &&& 31).toUInt32).toInt32) &&& (3 : Int32)))]))
  refine own_st (fun _ k => XS.istoreN X0.here hx rfl (hb hby d1_6) rfl (l' := #[.val (.int p1), .val (.int (((p1.toUInt32 >>> ((16 : Int32) &&& 31).toUInt32).toInt32) &&& (3 : Int32)))]) rfl k) ?_
  show own_Go p e below s _ _ _ (T0.setTop (mkF m 7 #[.val (.int p1), .val (.int (((p1.toUInt32 >>> ((16 : Int32) &&& 31).toUInt32).toInt32) &&& (3 : Int32)))] []))
  refine own_st (fun _ k => XS.iloadN X0.here hx rfl (hb hby d1_7) rfl k) ?_
  show own_Go p e below s _ _ _ (T0.setTop (mkF m 8 #[.val (.int p1), .val (.int (((p1.toUInt32 >>> ((16 : Int32) &&& 31).toUInt32).toInt32) &&& (3 : Int32)))] [(.int (((p1.toUInt32 >>> ((16 : Int32) &&& 31).toUInt32).toInt32) &&& (3 : Int32)))]))
  by_cases c101 : (((p1.toUInt32 >>> ((16 : Int32) &&& 31).toUInt32).toInt32) &&& (3 : Int32)) = (0 : Int32)
  · refine own_st (fun _ k => XS.ifNo X0.here hx rfl (hb hby d1_8) rfl ((if0 _ _).trans (teq c101).2) k) ?_
    show own_Go p e below s _ _ _ (T0.setTop (mkF m 11 #[.val (.int p1), .val (.int (((p1.toUInt32 >>> ((16 : Int32) &&& 31).toUInt32).toInt32) &&& (3 : Int32)))] []))
    refine own_st (fun _ k => XS.iloadN X0.here hx rfl (hb hby d1_11) rfl k) ?_
    show own_Go p e below s _ _ _ (T0.setTop (mkF m 12 #[.val (.int p1), .val (.int (((p1.toUInt32 >>> ((16 : Int32) &&& 31).toUInt32).toInt32) &&& (3 : Int32)))] [(.int p1)]))
    refine own_st (X0.ldcInt hx hown (mvT hZ (hw _ (List.mem_of_getElem? (i := 4) rfl))) (g := (mkF m 12 #[.val (.int p1), .val (.int (((p1.toUInt32 >>> ((16 : Int32) &&& 31).toUInt32).toInt32) &&& (3 : Int32)))] [(.int p1)])) rfl (hb hby d1_12)) ?_
    show own_Go p e below s _ _ _ (T0.setTop (mkF m 14 #[.val (.int p1), .val (.int (((p1.toUInt32 >>> ((16 : Int32) &&& 31).toUInt32).toInt32) &&& (3 : Int32)))] [(.int (65535 : Int32)), (.int p1)]))
    refine own_st (fun _ k => XS.iand X0.here hx rfl (hb hby d1_14) rfl k) ?_
    show own_Go p e below s _ _ _ (T0.setTop (mkF m 15 #[.val (.int p1), .val (.int (((p1.toUInt32 >>> ((16 : Int32) &&& 31).toUInt32).toInt32) &&& (3 : Int32)))] [(.int (p1 &&& (65535 : Int32)))]))
    refine own_st (fun _ k => XS.i2c X0.here hx rfl (hb hby d1_15) rfl k) ?_
    show own_Go p e below s _ _ _ (T0.setTop (mkF m 16 #[.val (.int p1), .val (.int (((p1.toUInt32 >>> ((16 : Int32) &&& 31).toUInt32).toInt32) &&& (3 : Int32)))] [(.int ((p1 &&& (65535 : Int32)).toUInt32.toUInt16.toUInt32.toInt32))]))
    exact own_ret X0 hx hlk e0 hret (Jvm.Free.XT.narrow_c _) (Or.inl ⟨rfl, Or.inr (Or.inr (Or.inr (Or.inl rfl))), _, rfl⟩) (hb hby d1_16) (by decide) (by decide) ⟨_, rfl, own_c16 _, N0, rfl⟩
  · refine own_st (fun _ k => XS.ifYes X0.here hx rfl (pc0 := 8) (pc' := 17) rfl (hb hby d1_8) rfl ((if0 _ _).trans (feq c101).2) (by decide) (by decide) k) ?_
    show own_Go p e below s _ _ _ (T0.setTop (mkF m 17 #[.val (.int p1), .val (.int (((p1.toUInt32 >>> ((16 : Int32) &&& 31).toUInt32).toInt32) &&& (3 : Int32)))] []))
    refine own_st (fun _ k => XS.iloadN X0.here hx rfl (hb hby d1_17) rfl k) ?_
    show own_Go p e below s _ _ _ (T0.setTop (mkF m 18 #[.val (.int p1), .val (.int (((p1.toUInt32 >>> ((16 : Int32) &&& 31).toUInt32).toInt32) &&& (3 : Int32)))] [(.int (((p1.toUInt32 >>> ((16 : Int32) &&& 31).toUInt32).toInt32) &&& (3 : Int32)))]))
    refine own_st (fun _ k => XS.iconst X0.here hx rfl (hb hby d1_18) k) ?_
    show own_Go p e below s _ _ _ (T0.setTop (mkF m 19 #[.val (.int p1), .val (.int (((p1.toUInt32 >>> ((16 : Int32) &&& 31).toUInt32).toInt32) &&& (3 : Int32)))] [(.int (1 : Int32)), (.int (((p1.toUInt32 >>> ((16 : Int32) &&& 31).toUInt32).toInt32) &&& (3 : Int32)))]))
    by_cases c102 : (((p1.toUInt32 >>> ((16 : Int32) &&& 31).toUInt32).toInt32) &&& (3 : Int32)) = (1 : Int32)
    · refine own_st (fun _ k => XS.icmpNo X0.here hx rfl (hb hby d1_19) rfl (teq c102).2 k) ?_
      show own_Go p e below s _ _ _ (T0.setTop (mkF m 22 #[.val (.int p1), .val (.int (((p1.toUInt32 >>> ((16 : Int32) &&& 31).toUInt32).toInt32) &&& (3 : Int32)))] []))
      refine own_st (X0.ldcInt hx hown (mvT hZ (hw _ (List.mem_of_getElem? (i := 73) rfl))) (g := (mkF m 22 #[.val (.int p1), .val (.int (((p1.toUInt32 >>> ((16 : Int32) &&& 31).toUInt32).toInt32) &&& (3 : Int32)))] [])) rfl (hb hby d1_22)) ?_
      show own_Go p e below s _ _ _ (T0.setTop (mkF m 24 #[.val (.int p1), .val (.int (((p1.toUInt32 >>> ((16 : Int32) &&& 31).toUInt32).toInt32) &&& (3 : Int32)))] [(.int (55296 : Int32))]))
      refine own_st (fun _ k => XS.iloadN X0.here hx rfl (hb hby d1_24) rfl k) ?_
      show own_Go p e below s _ _ _ (T0.setTop (mkF m 25 #[.val (.int p1), .val (.int (((p1.toUInt32 >>> ((16 : Int32) &&& 31).toUInt32).toInt32) &&& (3 : Int32)))] [(.int p1), (.int (55296 : Int32))]))
      refine own_st (fun _ k => XS.sipush X0.here hx rfl (hb hby d1_25) k) ?_
      show own_Go p e below s _ _ _ (T0.setTop (mkF m 28 #[.val (.int p1), .val (.int (((p1.toUInt32 >>> ((16 : Int32) &&& 31).toUInt32).toInt32) &&& (3 : Int32)))] [(.int (1023 : Int32)), (.int p1), (.int (55296 : Int32))]))
      refine own_st (fun _ k => XS.iand X0.here hx rfl (hb hby d1_28) rfl k) ?_
      show own_Go p e below s _ _ _ (T0.setTop (mkF m 29 #[.val (.int p1), .val (.int (((p1.toUInt32 >>> ((16 : Int32) &&& 31).toUInt32).toInt32) &&& (3 : Int32)))] [(.int (p1 &&& (1023 : Int32))), (.int (55296 : Int32))]))
      refine own_st (fun _ k => XS.ior X0.here hx rfl (hb hby d1_29) rfl k) ?_
      show own_Go p e below s _ _ _ (T0.setTop (mkF m 30 #[.val (.int p1), .val (.int (((p1.toUInt32 >>> ((16 : Int32) &&& 31).toUInt32).toInt32) &&& (3 : Int32)))] [(.int ((55296 : Int32) ||| (p1 &&& (1023 : Int32))))]))
      refine own_st (fun _ k => XS.i2c X0.here hx rfl (hb hby d1_30) rfl k) ?_
      show own_Go p e below s _ _ _ (T0.setTop (mkF m 31 #[.val (.int p1), .val (.int (((p1.toUInt32 >>> ((16 : Int32) &&& 31).toUInt32).toInt32) &&& (3 : Int32)))] [(.int (((55296 : Int32) ||| (p1 &&& (1023 : Int32))).toUInt32.toUInt16.toUInt32.toInt32))]))
      exact own_ret X0 hx hlk e0 hret (Jvm.Free.XT.narrow_c _) (Or.inl ⟨rfl, Or.inr (Or.inr (Or.inr (Or.inl rfl))), _, rfl⟩) (hb hby d1_31) (by decide) (by decide) ⟨_, rfl, own_c16 _, N0, rfl⟩
    · refine own_st (fun _ k => XS.icmpYes X0.here hx rfl (pc0 := 19) (pc' := 32) rfl (hb hby d1_19) rfl (feq c102).2 (by decide) (by decide) k) ?_
      show own_Go p e below s _ _ _ (T0.setTop (mkF m 32 #[.val (.int p1), .val (.int (((p1.toUInt32 >>> ((16 : Int32) &&& 31).toUInt32).toInt32) &&& (3 : Int32)))] []))
      refine own_st (fun _ k => XS.iloadN X0.here hx rfl (hb hby d1_32) rfl k) ?_
      show own_Go p e below s _ _ _ (T0.setTop (mkF m 33 #[.val (.int p1), .val (.int (((p1.toUInt32 >>> ((16 : Int32) &&& 31).toUInt32).toInt32) &&& (3 : Int32)))] [(.int (((p1.toUInt32 >>> ((16 : Int32) &&& 31).toUInt32).toInt32) &&& (3 : Int32)))]))
      refine own_st (fun _ k => XS.iconst X0.here hx rfl (hb hby d1_33) k) ?_
      show own_Go p e below s _ _ _ (T0.setTop (mkF m 34 #[.val (.int p1), .val (.int (((p1.toUInt32 >>> ((16 : Int32) &&& 31).toUInt32).toInt32) &&& (3 : Int32)))] [(.int (2 : Int32)), (.int (((p1.toUInt32 >>> ((16 : Int32) &&& 31).toUInt32).toInt32) &&& (3 : Int32)))]))
      by_cases c103 : (((p1.toUInt32 >>> ((16 : Int32) &&& 31).toUInt32).toInt32) &&& (3 : Int32)) = (2 : Int32)
      · refine own_st (fun _ k => XS.icmpNo X0.here hx rfl (hb hby d1_34) rfl (teq c103).2 k) ?_
        show own_Go p e below s _ _ _ (T0.setTop (mkF m 37 #[.val (.int p1), .val (.int (((p1.toUInt32 >>> ((16 : Int32) &&& 31).toUInt32).toInt32) &&& (3 : Int32)))] []))
        refine own_st (X0.ldcInt hx hown (mvT hZ (hw _ (List.mem_of_getElem? (i := 74) rfl))) (g := (mkF m 37 #[.val (.int p1), .val (.int (((p1.toUInt32 >>> ((16 : Int32) &&& 31).toUInt32).toInt32) &&& (3 : Int32)))] [])) rfl (hb hby d1_37)) ?_
        show own_Go p e below s _ _ _ (T0.setTop (mkF m 39 #[.val (.int p1), .val (.int (((p1.toUInt32 >>> ((16 : Int32) &&& 31).toUInt32).toInt32) &&& (3 : Int32)))] [(.int (56320 : Int32))]))
        refine own_st (fun _ k => XS.iloadN X0.here hx rfl (hb hby d1_39) rfl k) ?_
        show own_Go p e below s _ _ _ (T0.setTop (mkF m 40 #[.val (.int p1), .val (.int (((p1.toUInt32 >>> ((16 : Int32) &&& 31).toUInt32).toInt32) &&& (3 : Int32)))] [(.int p1), (.int (56320 : Int32))]))
        refine own_st (fun _ k => XS.sipush X0.here hx rfl (hb hby d1_40) k) ?_
        show own_Go p e below s _ _ _ (T0.setTop (mkF m 43 #[.val (.int p1), .val (.int (((p1.toUInt32 >>> ((16 : Int32) &&& 31).toUInt32).toInt32) &&& (3 : Int32)))] [(.int (1023 : Int32)), (.int p1), (.int (56320 : Int32))]))
        refine own_st (fun _ k => XS.iand X0.here hx rfl (hb hby d1_43) rfl k) ?_
        show own_Go p e below s _ _ _ (T0.setTop (mkF m 44 #[.val (.int p1), .val (.int (((p1.toUInt32 >>> ((16 : Int32) &&& 31).toUInt32).toInt32) &&& (3 : Int32)))] [(.int (p1 &&& (1023 : Int32))), (.int (56320 : Int32))]))
        refine own_st (fun _ k => XS.ior X0.here hx rfl (hb hby d1_44) rfl k) ?_
        show own_Go p e below s _ _ _ (T0.setTop (mkF m 45 #[.val (.int p1), .val (.int (((p1.toUInt32 >>> ((16 : Int32) &&& 31).toUInt32).toInt32) &&& (3 : Int32)))] [(.int ((56320 : Int32) ||| (p1 &&& (1023 : Int32))))]))
        refine own_st (fun _ k => XS.i2c X0.here hx rfl (hb hby d1_45) rfl k) ?_
        show own_Go p e below s _ _ _ (T0.setTop (mkF m 46 #[.val (.int p1), .val (.int (((p1.toUInt32 >>> ((16 : Int32) &&& 31).toUInt32).toInt32) &&& (3 : Int32)))] [(.int (((56320 : Int32) ||| (p1 &&& (1023 : Int32))).toUInt32.toUInt16.toUInt32.toInt32))]))
        exact own_ret X0 hx hlk e0 hret (Jvm.Free.XT.narrow_c _) (Or.inl ⟨rfl, Or.inr (Or.inr (Or.inr (Or.inl rfl))), _, rfl⟩) (hb hby d1_46) (by decide) (by decide) ⟨_, rfl, own_c16 _, N0, rfl⟩
      · refine own_st (fun _ k => XS.icmpYes X0.here hx rfl (pc0 := 34) (pc' := 47) rfl (hb hby d1_34) rfl (feq c103).2 (by decide) (by decide) k) ?_
        show own_Go p e below s _ _ _ (T0.setTop (mkF m 47 #[.val (.int p1), .val (.int (((p1.toUInt32 >>> ((16 : Int32) &&& 31).toUInt32).toInt32) &&& (3 : Int32)))] []))
        refine own_st (fun _ k => XS.iloadN X0.here hx rfl (hb hby d1_47) rfl k) ?_
        show own_Go p e below s _ _ _ (T0.setTop (mkF m 48 #[.val (.int p1), .val (.int (((p1.toUInt32 >>> ((16 : Int32) &&& 31).toUInt32).toInt32) &&& (3 : Int32)))] [(.int p1)]))
        refine own_st (fun _ k => XS.bipush X0.here hx rfl (hb hby d1_48) k) ?_
        show own_Go p e below s _ _ _ (T0.setTop (mkF m 50 #[.val (.int p1), .val (.int (((p1.toUInt32 >>> ((16 : Int32) &&& 31).toUInt32).toInt32) &&& (3 : Int32)))] [(.int (127 : Int32)), (.int p1)]))
        refine own_st (fun _ k => XS.iand X0.here hx rfl (hb hby d1_50) rfl k) ?_
        show own_Go p e below s _ _ _ (T0.setTop (mkF m 51 #[.val (.int p1), .val (.int (((p1.toUInt32 >>> ((16 : Int32) &&& 31).toUInt32).toInt32) &&& (3 : Int32)))] [(.int (p1 &&& (127 : Int32)))]))
        refine own_st (fun _ k => XS.i2c X0.here hx rfl (hb hby d1_51) rfl k) ?_
        show own_Go p e below s _ _ _ (T0.setTop (mkF m 52 #[.val (.int p1), .val (.int (((p1.toUInt32 >>> ((16 : Int32) &&& 31).toUInt32).toInt32) &&& (3 : Int32)))] [(.int ((p1 &&& (127 : Int32)).toUInt32.toUInt16.toUInt32.toInt32))]))
        exact own_ret X0 hx hlk e0 hret (Jvm.Free.XT.narrow_c _) (Or.inl ⟨rfl, Or.inr (Or.inr (Or.inr (Or.inl rfl))), _, rfl⟩) (hb hby d1_52) (by decide) (by decide) ⟨_, rfl, own_c16 _, N0, rfl⟩
theorem d4_8 : decode jdk_42_method_149_code 8 = .ok (.aload_n 0, 1) := by decide +kernel
theorem d4_9 : decode jdk_42_method_149_code 9 = .ok (.ldc 7, 2) := by decide +kernel
theorem d4_11 : decode jdk_42_method_149_code 11 = .ok (.getfield 9, 3) := by decide +kernel
theorem d4_14 : decode jdk_42_method_149_code 14 = .ok (.putfield 9, 3) := by decide +kernel
theorem d4_17 : decode jdk_42_method_149_code 17 = .ok (.aload_n 0, 1) := by decide +kernel
theorem d4_18 : decode jdk_42_method_149_code 18 = .ok (.ldc 7, 2) := by decide +kernel
theorem d4_20 : decode jdk_42_method_149_code 20 = .ok (.getfield 15, 3) := by decide +kernel
theorem d4_23 : decode jdk_42_method_149_code 23 = .ok (.putfield 15, 3) := by decide +kernel
theorem d4_26 : decode jdk_42_method_149_code 26 = .ok (.return_, 1) := by decide +kernel
theorem ef_em4 (m : MethodId) (x0 : Addr) (x1 : Addr) (x2 : Int32) (x3 : Int32) : entryFrame m #[(.ref x0), (.ref x1), (.int x2), (.int x3), .null] 6 = mkF m 0 #[.val (.ref x0), .val (.ref x1), .val (.int x2), .val (.int x3), .val .null, .unset] [] := by (first | (simp [entryFrame, mkF, argsToLocals, Value.category]; done) | rfl)
abbrev em4R : Room := { frames := 1, cells := 2, slots := 4, locals := 12 }
set_option maxRecDepth 65536 in
set_option maxHeartbeats 40000000 in
theorem em4 (l : Launch) (Z : State) (a0 : Array Value) (hw : ∀ d ∈ tables_1, d.before a0 Z = true) (a1 a2 : Nat) (u2 : Value) (h0 : Heap) (n0 : Nat) (O0 : Old Z n0 h0) (E1 : Exa Z h0 a1 "java/lang/String") (g1 : n0 ≤ a1) (F1 : Fld Z h0 a1 "java/lang/String" "value" "[B" .null) (F2 : Fld Z h0 a1 "java/lang/String" "coder" "B" u2) (lt1 : a1 < h0.size) :
    own_CW l Z (⟨"java/lang/String", "<init>", "([CIILjava/lang/Void;)V"⟩ : MethodName) jdk_42_method_149_code 6 none [] em4R #[(.ref a1), (.ref a2), (.int (0 : Int32)), (.int (0 : Int32)), .null] h0 (fun v h L => v = none ∧ Fr n0 L ∧ Keep h0 h [a1] ∧ own_Str Z h a1 []) := by
  refine own_bodyW (plainFor_of_name pn_java_lang_String) ?_
  intro p e s m below meth c T0 X0 hx hby hml hZ hown hnm hret hlk e0 hS CR
  have hEL := own_hEL hw
  have N0 := Fr.nil n0
  have zO := own_old O0
  refine own_stW (fun _ k => castTop (ef_em4 m a1 a2 (0 : Int32) (0 : Int32)) k) ?_
  show own_GoW p e below s _ _ _ _ _ (T0.setTop (mkF m 0 #[.val (.ref a1), .val (.ref a2), .val (.int (0 : Int32)), .val (.int (0 : Int32)), .val .null, .unset] []))
  refine own_stW (fun _ k => XS.aloadN X0.here hx rfl (hb hby d4_0) rfl rfl k) ?_
  show own_GoW p e below s _ _ _ _ _ (T0.setTop (mkF m 1 #[.val (.ref a1), .val (.ref a2), .val (.int (0 : Int32)), .val (.int (0 : Int32)), .val .null, .unset] [(.ref a1)]))
  obtain ⟨T101, X101, e101, st101⟩ := initO X0 hx hZ hown (hw _ (List.mem_of_getElem? (i := 19) rfl)) (hw _ (List.mem_of_getElem? (i := 20) rfl)) (hw _ (List.mem_of_getElem? (i := 21) rfl)) e0 (g := (mkF m 1 #[.val (.ref a1), .val (.ref a2), .val (.int (0 : Int32)), .val (.int (0 : Int32)), .val .null, .unset] [(.ref a1)])) rfl (by rw [hml]; rfl) rfl (hb hby d4_1) (by decide) (W := 0) (by show 2 * 0 + _ ≤ _; exact Nat.le_of_eq rfl) (by decide)
  refine own_stW st101 ?_
  show own_GoW p e below s _ _ _ _ _ (T101.setTop (mkF m 4 #[.val (.ref a1), .val (.ref a2), .val (.int (0 : Int32)), .val (.int (0 : Int32)), .val .null, .unset] []))
  refine own_stW (fun _ k => XS.iloadN X101.here hx rfl (hb hby d4_4) rfl k) ?_
  show own_GoW p e below s _ _ _ _ _ (T101.setTop (mkF m 5 #[.val (.ref a1), .val (.ref a2), .val (.int (0 : Int32)), .val (.int (0 : Int32)), .val .null, .unset] [(.int (0 : Int32))]))
  refine own_stW (fun _ k => XS.ifNo X101.here hx rfl (hb hby d4_5) rfl ((if0 _ _).trans (teq (by decide)).2) k) ?_
  show own_GoW p e below s _ _ _ _ _ (T101.setTop (mkF m 8 #[.val (.ref a1), .val (.ref a2), .val (.int (0 : Int32)), .val (.int (0 : Int32)), .val .null, .unset] []))
  refine own_stW (fun _ k => XS.aloadN X101.here hx rfl (hb hby d4_8) rfl rfl k) ?_
  show own_GoW p e below s _ _ _ _ _ (T101.setTop (mkF m 9 #[.val (.ref a1), .val (.ref a2), .val (.int (0 : Int32)), .val (.int (0 : Int32)), .val .null, .unset] [(.ref a1)]))
  obtain ⟨a102, T102, h102, kk102, bb102, kb102, X102, e102, E102, hS102, hk102, hZ102, hown102, A102, Fc102, Fv102, V102, la102, lb102, CH102, L102, sf102, st102⟩ := ldcCH X101 hx hZ hown (hw _ (List.mem_of_getElem? (i := 22) rfl)) (own_wStr hw) e101 hS (by omega) hEL (by decide) CR.1 (vs := []) (z := 0) (by decide) (by decide) (by decide) (g := (mkF m 9 #[.val (.ref a1), .val (.ref a2), .val (.int (0 : Int32)), .val (.int (0 : Int32)), .val .null, .unset] [(.ref a1)])) rfl (hb hby d4_9) (n := 0) (by decide) (by decide) (by decide) (by decide)
  replace la102 : (a102 : Nat) < Array.size h102 := la102
  have K102 : Keep h0 h102 [] := (Keep.refl _ _).ext E102
  have hS := hS102
  have hZ := hZ102
  have hown := hown102
  refine own_stW st102 ?_
  have zK102 := K102.1
  have CR103 := CR.trans CH102
  have S102 : own_Str Z h102 a102 ([] : List Int32) := own_litStr A102 Fc102 Fv102 V102 (by decide) (by decide) (by decide) (by decide)
  show own_GoW p e below s _ _ _ _ _ (T102.setTop (mkF m 11 #[.val (.ref a1), .val (.ref a2), .val (.int (0 : Int32)), .val (.int (0 : Int32)), .val .null, .unset] [(.ref a102), (.ref a1)]))
  have f104 := (E1.keep ((Keep.refl h0 []).trans K102 all0))
  have f105 := (F1.keep ((Keep.refl h0 []).trans K102 all0) nin0)
  have ne1 : a1 ≠ a102 ∧ a1 ≠ bb102 := sf102 _ (own_safeNull hZ.alike f104 f105)
  obtain ⟨T106, X106, e106, st106⟩ := getF X102 hx hZ hown (host := "") (Or.inl (hw _ (List.mem_of_getElem? (i := 28) rfl))) Via.refl e102 Fv102 (g := (mkF m 11 #[.val (.ref a1), .val (.ref a2), .val (.int (0 : Int32)), .val (.int (0 : Int32)), .val .null, .unset] [(.ref a102), (.ref a1)])) rfl rfl (hb hby d4_11)
  refine own_stW st106 ?_
  show own_GoW p e below s _ _ _ _ _ (T106.setTop (mkF m 14 #[.val (.ref a1), .val (.ref a2), .val (.int (0 : Int32)), .val (.int (0 : Int32)), .val .null, .unset] [(.ref bb102), (.ref a1)]))
  obtain ⟨T107, h107, X107, e107, W107, st107⟩ := putF X106 hx hZ hown (host := "") (Or.inl (hw _ (List.mem_of_getElem? (i := 28) rfl))) Via.refl e106 f105 f104 (Or.inr ⟨(hw _ (List.mem_of_getElem? (i := 24) rfl)), rfl, hnm⟩) (hw _ (List.mem_of_getElem? (i := 9) rfl)) (ty := (.array .byte)) (by decide) rfl rfl (g := (mkF m 14 #[.val (.ref a1), .val (.ref a2), .val (.int (0 : Int32)), .val (.int (0 : Int32)), .val .null, .unset] [(.ref bb102), (.ref a1)])) rfl rfl (hb hby d4_14)
  have F107 := f105.same W107
  have K107 := Keep.of_wr W107
  have N107 := Fr.snoc X107 N0 (by omega : n0 ≤ a1)
  refine own_stW st107 ?_
  have zK107 := K107.1
  show own_GoW p e below s _ _ _ _ _ (T107.setTop (mkF m 17 #[.val (.ref a1), .val (.ref a2), .val (.int (0 : Int32)), .val (.int (0 : Int32)), .val .null, .unset] []))
  refine own_stW (fun _ k => XS.aloadN X107.here hx rfl (hb hby d4_17) rfl rfl k) ?_
  show own_GoW p e below s _ _ _ _ _ (T107.setTop (mkF m 18 #[.val (.ref a1), .val (.ref a2), .val (.int (0 : Int32)), .val (.int (0 : Int32)), .val .null, .unset] [(.ref a1)]))
  refine own_stW (ldcAgain X107 hx hZ hown (hw _ (List.mem_of_getElem? (i := 22) rfl)) L102 (g := (mkF m 18 #[.val (.ref a1), .val (.ref a2), .val (.int (0 : Int32)), .val (.int (0 : Int32)), .val .null, .unset] [(.ref a1)])) rfl (hb hby d4_18)) ?_
  show own_GoW p e below s _ _ _ _ _ (T107.setTop (mkF m 20 #[.val (.ref a1), .val (.ref a2), .val (.int (0 : Int32)), .val (.int (0 : Int32)), .val .null, .unset] [(.ref a102), (.ref a1)]))
  have f108 := (Fc102.keep ((Keep.refl h102 [a1]).trans K107 (allS (Or.inl (by simp)) all0)) (own_ninS (by omega) nin0))
  obtain ⟨T109, X109, e109, st109⟩ := getF X107 hx hZ hown (host := "") (Or.inl (hw _ (List.mem_of_getElem? (i := 29) rfl))) Via.refl e107 f108 (g := (mkF m 20 #[.val (.ref a1), .val (.ref a2), .val (.int (0 : Int32)), .val (.int (0 : Int32)), .val .null, .unset] [(.ref a102), (.ref a1)])) rfl rfl (hb hby d4_20)
  refine own_stW st109 ?_
  show own_GoW p e below s _ _ _ _ _ (T109.setTop (mkF m 23 #[.val (.ref a1), .val (.ref a2), .val (.int (0 : Int32)), .val (.int (0 : Int32)), .val .null, .unset] [(.int (0 : Int32)), (.ref a1)]))
  have f110 := ((F2.keep K102 nin0).other W107 (Or.inr (slot_ne (Or.inr (hw _ (List.mem_of_getElem? (i := 25) rfl))) (Or.inr (hw _ (List.mem_of_getElem? (i := 24) rfl))) (by decide) (t := .byte) (t' := (.array .byte)) (by decide) (by decide))))
  have f111 := (f104.keep ((Keep.refl h102 [a1]).trans K107 (allS (Or.inl (by simp)) all0)))
  obtain ⟨T112, h112, X112, e112, W112, st112⟩ := putFN X109 hx hZ hown (hw _ (List.mem_of_getElem? (i := 29) rfl)) Via.refl e109 f110 f111 (Or.inr ⟨(hw _ (List.mem_of_getElem? (i := 25) rfl)), rfl, hnm⟩) (hw _ (List.mem_of_getElem? (i := 9) rfl)) (ty := .byte) (v' := (.int (0 : Int32))) (by decide) (by decide) (by decide) (g := (mkF m 23 #[.val (.ref a1), .val (.ref a2), .val (.int (0 : Int32)), .val (.int (0 : Int32)), .val .null, .unset] [(.int (0 : Int32)), (.ref a1)])) rfl rfl (hb hby d4_23)
  have F112 := f110.same W112
  have K112 := Keep.of_wr W112
  have N112 := Fr.snoc X112 N107 (by omega : n0 ≤ a1)
  refine own_stW st112 ?_
  have zK112 := K112.1
  show own_GoW p e below s _ _ _ _ _ (T112.setTop (mkF m 26 #[.val (.ref a1), .val (.ref a2), .val (.int (0 : Int32)), .val (.int (0 : Int32)), .val .null, .unset] []))
  have f113 := (f111.keep ((Keep.refl h107 [a1]).trans K112 (allS (Or.inl (by simp)) all0)))
  have f114 := (F107.other W112 (Or.inr (slot_ne (Or.inr (hw _ (List.mem_of_getElem? (i := 24) rfl))) (Or.inr (hw _ (List.mem_of_getElem? (i := 25) rfl))) (by decide) (t := (.array .byte)) (t' := .byte) (by decide) (by decide))))
  have f115 := (V102.keep (((Keep.refl h102 [a1]).trans K107 (allS (Or.inl (by simp)) all0)).trans K112 (allS (Or.inl (by simp)) all0)) (own_ninS (by omega) nin0))
  have CR116 := CR103.trans (CHr.keep (((Keep.refl h102 [a1]).trans K107 (allS (Or.inl (by simp)) all0)).trans K112 (allS (Or.inl (by simp)) all0)) (allS (own_safeNull hZ.alike f104 f105) all0) CR103.1)
  exact own_retVW X112 hx hlk e112 hZ hEL hS (by omega) CR116 hret (hb hby d4_26) (by decide) (by decide) ⟨rfl, N112, ((((Keep.refl h0 [a1]).trans K102 all0).trans K107 (allS (Or.inl (by simp)) all0)).trans K112 (allS (Or.inl (by simp)) all0)), own_litStr f113 F112 f114 f115 (by decide) (by decide) (by decide) (by decide)⟩
theorem ef_em1 (m : MethodId) (x0 : Addr) (x1 : Addr) : entryFrame m #[(.ref x0), (.ref x1)] 2 = mkF m 0 #[.val (.ref x0), .val (.ref x1)] [] := by (first | (simp [entryFrame, mkF, argsToLocals, Value.category]; done) | rfl)
abbrev em1R : Room := { frames := 2, cells := 2, slots := 4, locals := 29 }
set_option maxRecDepth 65536 in
set_option maxHeartbeats 40000000 in
theorem em1 (l : Launch) (Z : State) (a0 : Array Value) (hw : ∀ d ∈ tables_1, d.before a0 Z = true) (a1 a2 : Nat) (k2 : ClassId) (u2 : Value) (h0 : Heap) (n0 : Nat) (O0 : Old Z n0 h0) (E1 : Exa Z h0 a1 "java/lang/String") (g1 : n0 ≤ a1) (F1 : Fld Z h0 a1 "java/lang/String" "value" "[B" .null) (F2 : Fld Z h0 a1 "java/lang/String" "coder" "B" u2) (lt1 : a1 < h0.size) (V2 : Arv Z h0 a2 k2 .char 0 [] (.int 0)) :
    own_CW l Z (⟨"java/lang/String", "<init>", "([C)V"⟩ : MethodName) jdk_42_method_3_code 2 none [] em1R #[(.ref a1), (.ref a2)] h0 (fun v h L => v = none ∧ Fr n0 L ∧ Keep h0 h [a1] ∧ own_Str Z h a1 []) := by
  refine own_bodyW (plainFor_of_name pn_java_lang_String) ?_
  intro p e s m below meth c T0 X0 hx hby hml hZ hown hnm hret hlk e0 hS CR
  have hEL := own_hEL hw
  have N0 := Fr.nil n0
  have zO := own_old O0
  refine own_stW (fun _ k => castTop (ef_em1 m a1 a2) k) ?_
  show own_GoW p e below s _ _ _ _ _ (T0.setTop (mkF m 0 #[.val (.ref a1), .val (.ref a2)] []))
  refine own_stW (fun _ k => XS.aloadN X0.here hx rfl (hb hby d3_0) rfl rfl k) ?_
  show own_GoW p e below s _ _ _ _ _ (T0.setTop (mkF m 1 #[.val (.ref a1), .val (.ref a2)] [(.ref a1)]))
  refine own_stW (fun _ k => XS.aloadN X0.here hx rfl (hb hby d3_1) rfl rfl k) ?_
  show own_GoW p e below s _ _ _ _ _ (T0.setTop (mkF m 2 #[.val (.ref a1), .val (.ref a2)] [(.ref a2), (.ref a1)]))
  refine own_stW (fun _ k => XS.iconst X0.here hx rfl (hb hby d3_2) k) ?_
  show own_GoW p e below s _ _ _ _ _ (T0.setTop (mkF m 3 #[.val (.ref a1), .val (.ref a2)] [(.int (0 : Int32)), (.ref a2), (.ref a1)]))
  refine own_stW (fun _ k => XS.aloadN X0.here hx rfl (hb hby d3_3) rfl rfl k) ?_
  show own_GoW p e below s _ _ _ _ _ (T0.setTop (mkF m 4 #[.val (.ref a1), .val (.ref a2)] [(.ref a2), (.int (0 : Int32)), (.ref a2), (.ref a1)]))
  obtain ⟨c101, Ar101, q101, S101, M101, H101, U101⟩ := id V2
  refine own_stW (X0.arraylength hx (by rw [e0]; exact Ar101.1) (State.isArrayOf_alike hZ.alike Ar101.2.1) (g := (mkF m 4 #[.val (.ref a1), .val (.ref a2)] [(.ref a2), (.int (0 : Int32)), (.ref a2), (.ref a1)])) rfl rfl (hb hby d3_4)) ?_
  rw [len_of S101 M101]
  show own_GoW p e below s _ _ _ _ _ (T0.setTop (mkF m 5 #[.val (.ref a1), .val (.ref a2)] [(.int (0 : Int32)), (.int (0 : Int32)), (.ref a2), (.ref a1)]))
  refine own_stW (fun _ k => XS.aconstNull X0.here hx rfl (hb hby d3_5) k) ?_
  show own_GoW p e below s _ _ _ _ _ (T0.setTop (mkF m 6 #[.val (.ref a1), .val (.ref a2)] [.null, (.int (0 : Int32)), (.int (0 : Int32)), (.ref a2), (.ref a1)]))
  obtain ⟨T102, v102, L102, h102, X102, e102, q102, hS102, hZ102, hown102, CH102, st102⟩ := own_callIW X0 hx hZ (y := (⟨"java/lang/String", "<init>", "([CIILjava/lang/Void;)V"⟩ : MethodName)) rfl hown hS (by omega) (hw _ (List.mem_of_getElem? (i := 15) rfl)) (hw _ (List.mem_of_getElem? (i := 16) rfl)) (hw _ (List.mem_of_getElem? (i := 18) rfl)) (by decide) (own_bkS (W := 0) (em4 l Z a0 hw a1 a2 _ h0 n0 O0 E1 (by omega) F1 F2 (by omega)) hZ (hw _ (List.mem_of_getElem? (i := 18) rfl)) (hw _ (List.mem_of_getElem? (i := 10) rfl)) (by decide) (by decide) hEL CR.1) e0 (by decide) (by decide) (g := (mkF m 6 #[.val (.ref a1), .val (.ref a2)] [.null, (.int (0 : Int32)), (.int (0 : Int32)), (.ref a2), (.ref a1)])) rfl (by rw [hml]; rfl) (a := a1) (argsL := [(.ref a2), (.int (0 : Int32)), (.int (0 : Int32)), .null]) (rest := []) (lenOf pd__28_5bCIILjava_2flang_2fVoid_3b_29V rfl) rfl rfl (by show 2 * 0 + _ ≤ _; exact Nat.le_of_eq rfl) (hb hby d3_6)
  obtain ⟨rfl, N102q, K102, S102⟩ := q102
  have hS := hS102
  have hZ := hZ102
  have hown := hown102
  refine own_stW st102 ?_
  have zK102 := K102.1
  have CR103 := CR.trans CH102
  have N102 := Fr.app N0 N102q
  have A102 := S102.1
  show own_GoW p e below s _ _ _ _ _ (T102.setTop (mkF m 9 #[.val (.ref a1), .val (.ref a2)] []))
  exact own_retVW X102 hx hlk e102 hZ hEL hS (by omega) CR103 hret (hb hby d3_9) (by decide) (by decide) ⟨rfl, N102, ((Keep.refl h0 [a1]).trans K102 (allS (Or.inl (by simp)) all0)), S102⟩
theorem own_two (a b : Int32) : (255 : Int32) < a ∨ (¬ (255 : Int32) < a ∧ (255 : Int32) < b) ∨ (¬ (255 : Int32) < a ∧ ¬ (255 : Int32) < b) := by
  by_cases h : (255 : Int32) < a
  · exact Or.inl h
  · by_cases g : (255 : Int32) < b
    · exact Or.inr (Or.inl ⟨h, g⟩)
    · exact Or.inr (Or.inr ⟨h, g⟩)
theorem d2_0 : decode method_3_code 0 = .ok (.iload_n 0, 1) := by decide +kernel
theorem d2_1 : decode method_3_code 1 = .ok (.ifCond .ne 14, 3) := by decide +kernel
theorem d2_4 : decode method_3_code 4 = .ok (.new 10, 3) := by decide +kernel
theorem d2_7 : decode method_3_code 7 = .ok (.dup, 1) := by decide +kernel
theorem d2_8 : decode method_3_code 8 = .ok (.iconst 0, 1) := by decide +kernel
theorem d2_9 : decode method_3_code 9 = .ok (.newarray .char, 2) := by decide +kernel
theorem pd__28_5bC_29V : parseMethodDescriptor "([C)V" = some ⟨[(.array .char)], none⟩ := by decide +kernel
theorem d2_11 : decode method_3_code 11 = .ok (.invokespecial 12, 3) := by decide +kernel
theorem d2_14 : decode method_3_code 14 = .ok (.areturn, 1) := by decide +kernel
theorem d2_15 : decode method_3_code 15 = .ok (.iload_n 0, 1) := by decide +kernel
theorem d2_16 : decode method_3_code 16 = .ok (.iconst 1, 1) := by decide +kernel
theorem d2_17 : decode method_3_code 17 = .ok (.if_icmp .ne 18, 3) := by decide +kernel
theorem d2_20 : decode method_3_code 20 = .ok (.new 10, 3) := by decide +kernel
theorem d2_23 : decode method_3_code 23 = .ok (.dup, 1) := by decide +kernel
theorem d2_24 : decode method_3_code 24 = .ok (.iconst 1, 1) := by decide +kernel
theorem d2_25 : decode method_3_code 25 = .ok (.newarray .char, 2) := by decide +kernel
theorem d2_27 : decode method_3_code 27 = .ok (.dup, 1) := by decide +kernel
theorem d2_28 : decode method_3_code 28 = .ok (.iconst 0, 1) := by decide +kernel
theorem d2_29 : decode method_3_code 29 = .ok (.iload_n 1, 1) := by decide +kernel
theorem d2_30 : decode method_3_code 30 = .ok (.castore, 1) := by decide +kernel
theorem d2_31 : decode method_3_code 31 = .ok (.invokespecial 12, 3) := by decide +kernel
theorem d2_34 : decode method_3_code 34 = .ok (.areturn, 1) := by decide +kernel
theorem d2_35 : decode method_3_code 35 = .ok (.new 10, 3) := by decide +kernel
theorem d2_38 : decode method_3_code 38 = .ok (.dup, 1) := by decide +kernel
theorem d2_39 : decode method_3_code 39 = .ok (.iconst 2, 1) := by decide +kernel
theorem d2_40 : decode method_3_code 40 = .ok (.newarray .char, 2) := by decide +kernel
theorem d2_42 : decode method_3_code 42 = .ok (.dup, 1) := by decide +kernel
theorem d2_43 : decode method_3_code 43 = .ok (.iconst 0, 1) := by decide +kernel
theorem d2_44 : decode method_3_code 44 = .ok (.iload_n 1, 1) := by decide +kernel
theorem d2_45 : decode method_3_code 45 = .ok (.castore, 1) := by decide +kernel
theorem d2_46 : decode method_3_code 46 = .ok (.dup, 1) := by decide +kernel
theorem d2_47 : decode method_3_code 47 = .ok (.iconst 1, 1) := by decide +kernel
theorem d2_48 : decode method_3_code 48 = .ok (.iload_n 2, 1) := by decide +kernel
theorem d2_49 : decode method_3_code 49 = .ok (.castore, 1) := by decide +kernel
theorem d2_50 : decode method_3_code 50 = .ok (.invokespecial 12, 3) := by decide +kernel
theorem d2_53 : decode method_3_code 53 = .ok (.areturn, 1) := by decide +kernel
theorem ef_mkW (m : MethodId) (x0 : Int32) (x1 : Int32) (x2 : Int32) : entryFrame m #[(.int x0), (.int x1), (.int x2)] 3 = mkF m 0 #[.val (.int x0), .val (.int x1), .val (.int x2)] [] := by (first | (simp [entryFrame, mkF, argsToLocals, Value.category]; done) | rfl)
abbrev mkWR : Room := { frames := 6, cells := 4, slots := 12, locals := 88 }
set_option maxRecDepth 65536 in
set_option maxHeartbeats 40000000 in
theorem mkW (l : Launch) (Z : State) (a0 : Array Value) (hw : ∀ d ∈ tables_1, d.before a0 Z = true) (n c0 c1 : Int32) (h0 : Heap) (n0 : Nat) (O0 : Old Z n0 h0) (CS : own_CS Z) (UT : own_U16 Z) (hc0 : ¬ c0 < 0 ∧ ¬ (65535 : Int32) < c0) (hc1 : ¬ c1 < 0 ∧ ¬ (65535 : Int32) < c1) :
    own_CW l Z (⟨"com/example/vetch/vetch/util/CharacterOrderComparePinLaw", "make", "(ICC)Ljava/lang/String;"⟩ : MethodName) method_3_code 3 (some (.object "java/lang/String")) [] mkWR #[(.int n), (.int c0), (.int c1)] h0 (fun v h L => Fr n0 L ∧ ∃ b : Nat, v = some (.ref b) ∧ Keep h0 h [] ∧ own_Str Z h b (own_mk n c0 c1)) := by
  refine own_bodyW (plainFor_of_name pn_com_example_vetch_vetch_util_CharacterOrderComparePinLaw) ?_
  intro p e s m below meth c T0 X0 hx hby hml hZ hown hnm hret hlk e0 hS CR
  have hEL := own_hEL hw
  have N0 := Fr.nil n0
  have zO := own_old O0
  refine own_stW (fun _ k => castTop (ef_mkW m n c0 c1) k) ?_
  show own_GoW p e below s _ _ _ _ _ (T0.setTop (mkF m 0 #[.val (.int n), .val (.int c0), .val (.int c1)] []))
  refine own_stW (fun _ k => XS.iloadN X0.here hx rfl (hb hby d2_0) rfl k) ?_
  show own_GoW p e below s _ _ _ _ _ (T0.setTop (mkF m 1 #[.val (.int n), .val (.int c0), .val (.int c1)] [(.int n)]))
  by_cases c101 : n = (0 : Int32)
  · refine own_stW (fun _ k => XS.ifNo X0.here hx rfl (hb hby d2_1) rfl ((if0 _ _).trans (teq c101).2) k) ?_
    show own_GoW p e below s _ _ _ _ _ (T0.setTop (mkF m 4 #[.val (.int n), .val (.int c0), .val (.int c1)] []))
    obtain ⟨T102, h102, X102, e102, E102, A102, D102, -, st102⟩ := newO X0 hx hZ hown (hw _ (List.mem_of_getElem? (i := 8) rfl)) (hw _ (List.mem_of_getElem? (i := 9) rfl)) (hw _ (List.mem_of_getElem? (i := 10) rfl)) e0 (g := (mkF m 4 #[.val (.int n), .val (.int c0), .val (.int c1)] [])) rfl (hb hby d2_4) (by decide) (by decide)
    obtain ⟨b102, g102⟩ : ∃ z, z = h0.size := ⟨_, rfl⟩
    rw [← g102] at A102 D102 st102
    have K102 : Keep h0 h102 [] := (Keep.refl _ _).ext E102
    have l102 : b102 < h102.size := A102.lt
    refine own_stW st102 ?_
    have zK102 := K102.1
    show own_GoW p e below s _ _ _ _ _ (T102.setTop (mkF m 7 #[.val (.int n), .val (.int c0), .val (.int c1)] [(.ref b102)]))
    refine own_stW (fun _ k => XS.dup X102.here hx rfl (hb hby d2_7) rfl rfl k) ?_
    show own_GoW p e below s _ _ _ _ _ (T102.setTop (mkF m 8 #[.val (.int n), .val (.int c0), .val (.int c1)] [(.ref b102), (.ref b102)]))
    refine own_stW (fun _ k => XS.iconst X102.here hx rfl (hb hby d2_8) k) ?_
    show own_GoW p e below s _ _ _ _ _ (T102.setTop (mkF m 9 #[.val (.int n), .val (.int c0), .val (.int c1)] [(.int (0 : Int32)), (.ref b102), (.ref b102)]))
    obtain ⟨T103, h103, k103, X103, e103, E103, A103, st103⟩ := newP X102 hx hZ (hw _ (List.mem_of_getElem? (i := 11) rfl)) e102 (g := (mkF m 9 #[.val (.int n), .val (.int c0), .val (.int c1)] [(.int (0 : Int32)), (.ref b102), (.ref b102)])) rfl (hb hby d2_9) rfl (by decide) (cap := 0) (by decide) (by decide) (by decide) (by decide)
    obtain ⟨b103, g103⟩ : ∃ z, z = h102.size := ⟨_, rfl⟩
    rw [← g103] at A103 st103
    have K103 : Keep h102 h103 [] := (Keep.refl _ _).ext E103
    have l103 : b103 < h103.size := A103.lt
    refine own_stW st103 ?_
    have zK103 := K103.1
    have V103 : Arv Z h103 b103 k103 .char (0 : Int32) [] (.int (0 : Int32)) := (Arv.new A103 (by decide)).pad (pad_rep [] (.int (0 : Int32)) 0)
    show own_GoW p e below s _ _ _ _ _ (T103.setTop (mkF m 11 #[.val (.int n), .val (.int c0), .val (.int c1)] [(.ref b103), (.ref b102), (.ref b102)]))
    have O104 : Old Z n0 h103 := O0.keep (((Keep.refl h0 []).trans K102 all0).trans K103 all0) all0
    have F_value_b102 : Fld Z h102 b102 "java/lang/String" "value" "[B" .null := D102 (Or.inr (hw _ (List.mem_of_getElem? (i := 24) rfl))) (ty := (.array .byte)) (by decide)
    have F_coder_b102 : Fld Z h102 b102 "java/lang/String" "coder" "B" (.int (0 : Int32)) := D102 (Or.inr (hw _ (List.mem_of_getElem? (i := 25) rfl))) (ty := .byte) (by decide)
    have f105 := (A102.keep ((Keep.refl h102 []).trans K103 all0))
    have f106 := (F_value_b102.keep ((Keep.refl h102 []).trans K103 all0) nin0)
    have f107 := (F_coder_b102.keep ((Keep.refl h102 []).trans K103 all0) nin0)
    have CR109 := CR.trans (CHr.keep (((Keep.refl h0 []).trans K102 all0).trans K103 all0) all0 CR.1)
    obtain ⟨T108, v108, L108, h108, X108, e108, q108, hS108, hZ108, hown108, CH108, st108⟩ := own_callIW X103 hx hZ (y := (⟨"java/lang/String", "<init>", "([C)V"⟩ : MethodName)) rfl hown hS (by omega) (hw _ (List.mem_of_getElem? (i := 12) rfl)) (hw _ (List.mem_of_getElem? (i := 13) rfl)) (hw _ (List.mem_of_getElem? (i := 14) rfl)) (by decide) (own_bkS (W := 1) (em1 l Z a0 hw b102 b103 _ _ h103 n0 O104 f105 (by omega) f106 f107 (by omega) V103) hZ (hw _ (List.mem_of_getElem? (i := 14) rfl)) (hw _ (List.mem_of_getElem? (i := 10) rfl)) (by decide) (by decide) hEL CR109.1) e103 (by decide) (by decide) (g := (mkF m 11 #[.val (.int n), .val (.int c0), .val (.int c1)] [(.ref b103), (.ref b102), (.ref b102)])) rfl (by rw [hml]; rfl) (a := b102) (argsL := [(.ref b103)]) (rest := [(.ref b102)]) (lenOf pd__28_5bC_29V rfl) rfl rfl (by show 2 * 0 + _ ≤ _; exact Nat.le_of_eq rfl) (hb hby d2_11)
    obtain ⟨rfl, N108q, K108, S108⟩ := q108
    have hS := hS108
    have hZ := hZ108
    have hown := hown108
    refine own_stW st108 ?_
    have zK108 := K108.1
    have CR110 := CR109.trans CH108
    have N108 := Fr.app N0 N108q
    have A108 := S108.1
    show own_GoW p e below s _ _ _ _ _ (T108.setTop (mkF m 14 #[.val (.int n), .val (.int c0), .val (.int c1)] [(.ref b102)]))
    exact own_retW X108 hx hlk e108 hZ hEL hS (by omega) CR110 hret rfl (Or.inr (Or.inr (Or.inr (Or.inr ⟨rfl, rfl, rfl⟩)))) (hb hby d2_14) (by decide) (by decide) ⟨N108, b102, rfl, ((((Keep.refl h0 []).trans K102 all0).trans K103 all0).trans K108 (allS (Or.inr (by omega)) all0)), (by unfold own_mk; rw [if_pos c101]; exact S108)⟩
  · refine own_stW (fun _ k => XS.ifYes X0.here hx rfl (pc0 := 1) (pc' := 15) rfl (hb hby d2_1) rfl ((if0 _ _).trans (feq c101).2) (by decide) (by decide) k) ?_
    show own_GoW p e below s _ _ _ _ _ (T0.setTop (mkF m 15 #[.val (.int n), .val (.int c0), .val (.int c1)] []))
    refine own_stW (fun _ k => XS.iloadN X0.here hx rfl (hb hby d2_15) rfl k) ?_
    show own_GoW p e below s _ _ _ _ _ (T0.setTop (mkF m 16 #[.val (.int n), .val (.int c0), .val (.int c1)] [(.int n)]))
    refine own_stW (fun _ k => XS.iconst X0.here hx rfl (hb hby d2_16) k) ?_
    show own_GoW p e below s _ _ _ _ _ (T0.setTop (mkF m 17 #[.val (.int n), .val (.int c0), .val (.int c1)] [(.int (1 : Int32)), (.int n)]))
    by_cases c111 : n = (1 : Int32)
    · refine own_stW (fun _ k => XS.icmpNo X0.here hx rfl (hb hby d2_17) rfl (teq c111).2 k) ?_
      show own_GoW p e below s _ _ _ _ _ (T0.setTop (mkF m 20 #[.val (.int n), .val (.int c0), .val (.int c1)] []))
      obtain ⟨T112, h112, X112, e112, E112, A112, D112, -, st112⟩ := newO X0 hx hZ hown (hw _ (List.mem_of_getElem? (i := 8) rfl)) (hw _ (List.mem_of_getElem? (i := 9) rfl)) (hw _ (List.mem_of_getElem? (i := 10) rfl)) e0 (g := (mkF m 20 #[.val (.int n), .val (.int c0), .val (.int c1)] [])) rfl (hb hby d2_20) (by decide) (by decide)
      obtain ⟨b112, g112⟩ : ∃ z, z = h0.size := ⟨_, rfl⟩
      rw [← g112] at A112 D112 st112
      have K112 : Keep h0 h112 [] := (Keep.refl _ _).ext E112
      have l112 : b112 < h112.size := A112.lt
      refine own_stW st112 ?_
      have zK112 := K112.1
      show own_GoW p e below s _ _ _ _ _ (T112.setTop (mkF m 23 #[.val (.int n), .val (.int c0), .val (.int c1)] [(.ref b112)]))
      refine own_stW (fun _ k => XS.dup X112.here hx rfl (hb hby d2_23) rfl rfl k) ?_
      show own_GoW p e below s _ _ _ _ _ (T112.setTop (mkF m 24 #[.val (.int n), .val (.int c0), .val (.int c1)] [(.ref b112), (.ref b112)]))
      refine own_stW (fun _ k => XS.iconst X112.here hx rfl (hb hby d2_24) k) ?_
      show own_GoW p e below s _ _ _ _ _ (T112.setTop (mkF m 25 #[.val (.int n), .val (.int c0), .val (.int c1)] [(.int (1 : Int32)), (.ref b112), (.ref b112)]))
      obtain ⟨T113, h113, k113, X113, e113, E113, A113, st113⟩ := newP X112 hx hZ (hw _ (List.mem_of_getElem? (i := 11) rfl)) e112 (g := (mkF m 25 #[.val (.int n), .val (.int c0), .val (.int c1)] [(.int (1 : Int32)), (.ref b112), (.ref b112)])) rfl (hb hby d2_25) rfl (by decide) (cap := 1) (by decide) (by decide) (by decide) (by decide)
      obtain ⟨b113, g113⟩ : ∃ z, z = h112.size := ⟨_, rfl⟩
      rw [← g113] at A113 st113
      have K113 : Keep h112 h113 [] := (Keep.refl _ _).ext E113
      have l113 : b113 < h113.size := A113.lt
      refine own_stW st113 ?_
      have zK113 := K113.1
      have V113 : Arv Z h113 b113 k113 .char (1 : Int32) [(.int (0 : Int32))] (.int (0 : Int32)) := (Arv.new A113 (by decide)).pad (pad_rep [] (.int (0 : Int32)) 1)
      show own_GoW p e below s _ _ _ _ _ (T113.setTop (mkF m 27 #[.val (.int n), .val (.int c0), .val (.int c1)] [(.ref b113), (.ref b112), (.ref b112)]))
      refine own_stW (fun _ k => XS.dup X113.here hx rfl (hb hby d2_27) rfl rfl k) ?_
      show own_GoW p e below s _ _ _ _ _ (T113.setTop (mkF m 28 #[.val (.int n), .val (.int c0), .val (.int c1)] [(.ref b113), (.ref b113), (.ref b112), (.ref b112)]))
      refine own_stW (fun _ k => XS.iconst X113.here hx rfl (hb hby d2_28) k) ?_
      show own_GoW p e below s _ _ _ _ _ (T113.setTop (mkF m 29 #[.val (.int n), .val (.int c0), .val (.int c1)] [(.int (0 : Int32)), (.ref b113), (.ref b113), (.ref b112), (.ref b112)]))
      refine own_stW (fun _ k => XS.iloadN X113.here hx rfl (hb hby d2_29) rfl k) ?_
      show own_GoW p e below s _ _ _ _ _ (T113.setTop (mkF m 30 #[.val (.int n), .val (.int c0), .val (.int c1)] [(.int c0), (.int (0 : Int32)), (.ref b113), (.ref b113), (.ref b112), (.ref b112)]))
      obtain ⟨c114, Ar114, q114, S114, M114, H114, U114⟩ := V113
      obtain ⟨T114, h114, X114, e114, W114, st114⟩ := stC X113 hx hZ e113 Ar114 (j := (0 : Int32)) (inb_of S114 ⟨by decide, by decide⟩) (g := (mkF m 30 #[.val (.int n), .val (.int c0), .val (.int c1)] [(.int c0), (.int (0 : Int32)), (.ref b113), (.ref b113), (.ref b112), (.ref b112)])) rfl rfl (hb hby d2_30)
      have V114 : Arv Z h114 b113 k113 .char (1 : Int32) [(.int c0)] (.int (0 : Int32)) := by
        have q := Arv.set Ar114 q114 S114 M114 H114 U114 (fits_nar_char _) W114 0 rfl (Nat.le_of_ble_eq_true rfl)
        rw [own_narC hc0] at q
        exact q
      have K114 := Keep.of_wr W114
      have N114 := Fr.snoc X114 N0 (by omega : n0 ≤ b113)
      refine own_stW st114 ?_
      have zK114 := K114.1
      show own_GoW p e below s _ _ _ _ _ (T114.setTop (mkF m 31 #[.val (.int n), .val (.int c0), .val (.int c1)] [(.ref b113), (.ref b112), (.ref b112)]))
      rcases (Decidable.em ((255 : Int32) < c0)) with hw0 | hn0
      · have O115 : Old Z n0 h114 := O0.keep ((((Keep.refl h0 []).trans K112 all0).trans K113 all0).trans K114 (allS (Or.inr (by omega)) all0)) all0
        have F_value_b112 : Fld Z h112 b112 "java/lang/String" "value" "[B" .null := D112 (Or.inr (hw _ (List.mem_of_getElem? (i := 24) rfl))) (ty := (.array .byte)) (by decide)
        have F_coder_b112 : Fld Z h112 b112 "java/lang/String" "coder" "B" (.int (0 : Int32)) := D112 (Or.inr (hw _ (List.mem_of_getElem? (i := 25) rfl))) (ty := .byte) (by decide)
        have f116 := (A112.keep (((Keep.refl h112 []).trans K113 all0).trans K114 (allS (Or.inr (by omega)) all0)))
        have f117 := (F_value_b112.keep (((Keep.refl h112 []).trans K113 all0).trans K114 (allS (Or.inr (by omega)) all0)) nin0)
        have f118 := (F_coder_b112.keep (((Keep.refl h112 []).trans K113 all0).trans K114 (allS (Or.inr (by omega)) all0)) nin0)
        obtain ⟨T119, v119, L119, h119, X119, e119, q119, st119⟩ := own_callI X114 hx hZ (y := (⟨"java/lang/String", "<init>", "([C)V"⟩ : MethodName)) rfl hown (hw _ (List.mem_of_getElem? (i := 12) rfl)) (hw _ (List.mem_of_getElem? (i := 13) rfl)) (hw _ (List.mem_of_getElem? (i := 14) rfl)) (by decide) (own_bk (W := 1) (iu10 l Z a0 hw b112 b113 _ _ _ c0 h114 n0 O115 CS UT hc0 hw0 f116 (by omega) f117 f118 V114) hZ (hw _ (List.mem_of_getElem? (i := 14) rfl)) (hw _ (List.mem_of_getElem? (i := 10) rfl)) (by decide) (by decide)) e114 (by decide) (by decide) (g := (mkF m 31 #[.val (.int n), .val (.int c0), .val (.int c1)] [(.ref b113), (.ref b112), (.ref b112)])) rfl (by rw [hml]; rfl) (a := b112) (argsL := [(.ref b113)]) (rest := [(.ref b112)]) (lenOf pd__28_5bC_29V rfl) rfl rfl (by show 2 * 0 + _ ≤ _; exact Nat.le_of_eq rfl) (hb hby d2_31)
        obtain ⟨rfl, N119q, K119, S119⟩ := q119
        refine own_stW st119 ?_
        have zK119 := K119.1
        have N119 := Fr.app N114 N119q
        have A119 := S119.1
        show own_GoW p e below s _ _ _ _ _ (T119.setTop (mkF m 34 #[.val (.int n), .val (.int c0), .val (.int c1)] [(.ref b112)]))
        have CR120 := CR.trans (CHr.keep (((((Keep.refl h0 []).trans K112 all0).trans K113 all0).trans K114 (allS (Or.inr (by omega)) all0)).trans K119 (allS (Or.inr (by omega)) all0)) all0 CR.1)
        exact own_retW X119 hx hlk e119 hZ hEL hS (by omega) CR120 hret rfl (Or.inr (Or.inr (Or.inr (Or.inr ⟨rfl, rfl, rfl⟩)))) (hb hby d2_34) (by decide) (by decide) ⟨N119, b112, rfl, (((((Keep.refl h0 []).trans K112 all0).trans K113 all0).trans K114 (allS (Or.inr (by omega)) all0)).trans K119 (allS (Or.inr (by omega)) all0)), (by unfold own_mk; rw [if_neg c101, if_pos c111]; exact S119)⟩
      · have F_value_b112 : Fld Z h112 b112 "java/lang/String" "value" "[B" .null := D112 (Or.inr (hw _ (List.mem_of_getElem? (i := 24) rfl))) (ty := (.array .byte)) (by decide)
        have F_coder_b112 : Fld Z h112 b112 "java/lang/String" "coder" "B" (.int (0 : Int32)) := D112 (Or.inr (hw _ (List.mem_of_getElem? (i := 25) rfl))) (ty := .byte) (by decide)
        have f121 := (A112.keep (((Keep.refl h112 []).trans K113 all0).trans K114 (allS (Or.inr (by omega)) all0)))
        have f122 := (F_value_b112.keep (((Keep.refl h112 []).trans K113 all0).trans K114 (allS (Or.inr (by omega)) all0)) nin0)
        have f123 := (F_coder_b112.keep (((Keep.refl h112 []).trans K113 all0).trans K114 (allS (Or.inr (by omega)) all0)) nin0)
        have O124 : Old Z n0 h114 := O0.keep ((((Keep.refl h0 []).trans K112 all0).trans K113 all0).trans K114 (allS (Or.inr (by omega)) all0)) all0
        obtain ⟨T125, v125, L125, h125, X125, e125, q125, st125⟩ := own_callI X114 hx hZ (y := (⟨"java/lang/String", "<init>", "([C)V"⟩ : MethodName)) rfl hown (hw _ (List.mem_of_getElem? (i := 12) rfl)) (hw _ (List.mem_of_getElem? (i := 13) rfl)) (hw _ (List.mem_of_getElem? (i := 14) rfl)) (by decide) (own_nsB (W := 1) hZ (own_wNew hw) (kI := 4) (hw _ (List.mem_of_getElem? (i := 9) rfl)) (cs := [c0]) (n := 1) (by omega : n0 ≤ b112) O124 CS f121 f122 f123 V114 rfl rfl (by decide) (by decide) (own_all1 ⟨hc0.1, hn0⟩) (by decide) (by decide)) e114 (by decide) (by decide) (g := (mkF m 31 #[.val (.int n), .val (.int c0), .val (.int c1)] [(.ref b113), (.ref b112), (.ref b112)])) rfl (by rw [hml]; rfl) (a := b112) (argsL := [(.ref b113)]) (rest := [(.ref b112)]) (lenOf pd__28_5bC_29V rfl) rfl rfl (by show 2 * 0 + _ ≤ _; exact Nat.le_of_eq rfl) (hb hby d2_31)
        obtain ⟨rfl, N125q, K125, S125⟩ := q125
        refine own_stW st125 ?_
        have zK125 := K125.1
        have N125 := Fr.app N114 N125q
        have A125 := S125.1
        show own_GoW p e below s _ _ _ _ _ (T125.setTop (mkF m 34 #[.val (.int n), .val (.int c0), .val (.int c1)] [(.ref b112)]))
        have CR126 := CR.trans (CHr.keep (((((Keep.refl h0 []).trans K112 all0).trans K113 all0).trans K114 (allS (Or.inr (by omega)) all0)).trans K125 (allS (Or.inr (by omega)) all0)) all0 CR.1)
        exact own_retW X125 hx hlk e125 hZ hEL hS (by omega) CR126 hret rfl (Or.inr (Or.inr (Or.inr (Or.inr ⟨rfl, rfl, rfl⟩)))) (hb hby d2_34) (by decide) (by decide) ⟨N125, b112, rfl, (((((Keep.refl h0 []).trans K112 all0).trans K113 all0).trans K114 (allS (Or.inr (by omega)) all0)).trans K125 (allS (Or.inr (by omega)) all0)), (by unfold own_mk; rw [if_neg c101, if_pos c111]; exact S125)⟩
    · refine own_stW (fun _ k => XS.icmpYes X0.here hx rfl (pc0 := 17) (pc' := 35) rfl (hb hby d2_17) rfl (feq c111).2 (by decide) (by decide) k) ?_
      show own_GoW p e below s _ _ _ _ _ (T0.setTop (mkF m 35 #[.val (.int n), .val (.int c0), .val (.int c1)] []))
      obtain ⟨T127, h127, X127, e127, E127, A127, D127, -, st127⟩ := newO X0 hx hZ hown (hw _ (List.mem_of_getElem? (i := 8) rfl)) (hw _ (List.mem_of_getElem? (i := 9) rfl)) (hw _ (List.mem_of_getElem? (i := 10) rfl)) e0 (g := (mkF m 35 #[.val (.int n), .val (.int c0), .val (.int c1)] [])) rfl (hb hby d2_35) (by decide) (by decide)
      obtain ⟨b127, g127⟩ : ∃ z, z = h0.size := ⟨_, rfl⟩
      rw [← g127] at A127 D127 st127
      have K127 : Keep h0 h127 [] := (Keep.refl _ _).ext E127
      have l127 : b127 < h127.size := A127.lt
      refine own_stW st127 ?_
      have zK127 := K127.1
      show own_GoW p e below s _ _ _ _ _ (T127.setTop (mkF m 38 #[.val (.int n), .val (.int c0), .val (.int c1)] [(.ref b127)]))
      refine own_stW (fun _ k => XS.dup X127.here hx rfl (hb hby d2_38) rfl rfl k) ?_
      show own_GoW p e below s _ _ _ _ _ (T127.setTop (mkF m 39 #[.val (.int n), .val (.int c0), .val (.int c1)] [(.ref b127), (.ref b127)]))
      refine own_stW (fun _ k => XS.iconst X127.here hx rfl (hb hby d2_39) k) ?_
      show own_GoW p e below s _ _ _ _ _ (T127.setTop (mkF m 40 #[.val (.int n), .val (.int c0), .val (.int c1)] [(.int (2 : Int32)), (.ref b127), (.ref b127)]))
      obtain ⟨T128, h128, k128, X128, e128, E128, A128, st128⟩ := newP X127 hx hZ (hw _ (List.mem_of_getElem? (i := 11) rfl)) e127 (g := (mkF m 40 #[.val (.int n), .val (.int c0), .val (.int c1)] [(.int (2 : Int32)), (.ref b127), (.ref b127)])) rfl (hb hby d2_40) rfl (by decide) (cap := 2) (by decide) (by decide) (by decide) (by decide)
      obtain ⟨b128, g128⟩ : ∃ z, z = h127.size := ⟨_, rfl⟩
      rw [← g128] at A128 st128
      have K128 : Keep h127 h128 [] := (Keep.refl _ _).ext E128
      have l128 : b128 < h128.size := A128.lt
      refine own_stW st128 ?_
      have zK128 := K128.1
      have V128 : Arv Z h128 b128 k128 .char (2 : Int32) [(.int (0 : Int32)), (.int (0 : Int32))] (.int (0 : Int32)) := (Arv.new A128 (by decide)).pad (pad_rep [] (.int (0 : Int32)) 2)
      show own_GoW p e below s _ _ _ _ _ (T128.setTop (mkF m 42 #[.val (.int n), .val (.int c0), .val (.int c1)] [(.ref b128), (.ref b127), (.ref b127)]))
      refine own_stW (fun _ k => XS.dup X128.here hx rfl (hb hby d2_42) rfl rfl k) ?_
      show own_GoW p e below s _ _ _ _ _ (T128.setTop (mkF m 43 #[.val (.int n), .val (.int c0), .val (.int c1)] [(.ref b128), (.ref b128), (.ref b127), (.ref b127)]))
      refine own_stW (fun _ k => XS.iconst X128.here hx rfl (hb hby d2_43) k) ?_
      show own_GoW p e below s _ _ _ _ _ (T128.setTop (mkF m 44 #[.val (.int n), .val (.int c0), .val (.int c1)] [(.int (0 : Int32)), (.ref b128), (.ref b128), (.ref b127), (.ref b127)]))
      refine own_stW (fun _ k => XS.iloadN X128.here hx rfl (hb hby d2_44) rfl k) ?_
      show own_GoW p e below s _ _ _ _ _ (T128.setTop (mkF m 45 #[.val (.int n), .val (.int c0), .val (.int c1)] [(.int c0), (.int (0 : Int32)), (.ref b128), (.ref b128), (.ref b127), (.ref b127)]))
      obtain ⟨c129, Ar129, q129, S129, M129, H129, U129⟩ := V128
      obtain ⟨T129, h129, X129, e129, W129, st129⟩ := stC X128 hx hZ e128 Ar129 (j := (0 : Int32)) (inb_of S129 ⟨by decide, by decide⟩) (g := (mkF m 45 #[.val (.int n), .val (.int c0), .val (.int c1)] [(.int c0), (.int (0 : Int32)), (.ref b128), (.ref b128), (.ref b127), (.ref b127)])) rfl rfl (hb hby d2_45)
      have V129 : Arv Z h129 b128 k128 .char (2 : Int32) [(.int c0), (.int (0 : Int32))] (.int (0 : Int32)) := by
        have q := Arv.set Ar129 q129 S129 M129 H129 U129 (fits_nar_char _) W129 0 rfl (Nat.le_of_ble_eq_true rfl)
        rw [own_narC hc0] at q
        exact q
      have K129 := Keep.of_wr W129
      have N129 := Fr.snoc X129 N0 (by omega : n0 ≤ b128)
      refine own_stW st129 ?_
      have zK129 := K129.1
      show own_GoW p e below s _ _ _ _ _ (T129.setTop (mkF m 46 #[.val (.int n), .val (.int c0), .val (.int c1)] [(.ref b128), (.ref b127), (.ref b127)]))
      refine own_stW (fun _ k => XS.dup X129.here hx rfl (hb hby d2_46) rfl rfl k) ?_
      show own_GoW p e below s _ _ _ _ _ (T129.setTop (mkF m 47 #[.val (.int n), .val (.int c0), .val (.int c1)] [(.ref b128), (.ref b128), (.ref b127), (.ref b127)]))
      refine own_stW (fun _ k => XS.iconst X129.here hx rfl (hb hby d2_47) k) ?_
      show own_GoW p e below s _ _ _ _ _ (T129.setTop (mkF m 48 #[.val (.int n), .val (.int c0), .val (.int c1)] [(.int (1 : Int32)), (.ref b128), (.ref b128), (.ref b127), (.ref b127)]))
      refine own_stW (fun _ k => XS.iloadN X129.here hx rfl (hb hby d2_48) rfl k) ?_
      show own_GoW p e below s _ _ _ _ _ (T129.setTop (mkF m 49 #[.val (.int n), .val (.int c0), .val (.int c1)] [(.int c1), (.int (1 : Int32)), (.ref b128), (.ref b128), (.ref b127), (.ref b127)]))
      obtain ⟨c130, Ar130, q130, S130, M130, H130, U130⟩ := V129
      obtain ⟨T130, h130, X130, e130, W130, st130⟩ := stC X129 hx hZ e129 Ar130 (j := (1 : Int32)) (inb_of S130 ⟨by decide, by decide⟩) (g := (mkF m 49 #[.val (.int n), .val (.int c0), .val (.int c1)] [(.int c1), (.int (1 : Int32)), (.ref b128), (.ref b128), (.ref b127), (.ref b127)])) rfl rfl (hb hby d2_49)
      have V130 : Arv Z h130 b128 k128 .char (2 : Int32) [(.int c0), (.int c1)] (.int (0 : Int32)) := by
        have q := Arv.set Ar130 q130 S130 M130 H130 U130 (fits_nar_char _) W130 1 rfl (Nat.le_of_ble_eq_true rfl)
        rw [own_narC hc1] at q
        exact q
      have K130 := Keep.of_wr W130
      have N130 := Fr.snoc X130 N129 (by omega : n0 ≤ b128)
      refine own_stW st130 ?_
      have zK130 := K130.1
      show own_GoW p e below s _ _ _ _ _ (T130.setTop (mkF m 50 #[.val (.int n), .val (.int c0), .val (.int c1)] [(.ref b128), (.ref b127), (.ref b127)]))
      rcases (own_two c0 c1) with hw0 | ⟨hn0, hw1⟩ | ⟨hn0, hn1⟩
      · have O131 : Old Z n0 h130 := O0.keep (((((Keep.refl h0 []).trans K127 all0).trans K128 all0).trans K129 (allS (Or.inr (by omega)) all0)).trans K130 (allS (Or.inr (by omega)) all0)) all0
        have F_value_b127 : Fld Z h127 b127 "java/lang/String" "value" "[B" .null := D127 (Or.inr (hw _ (List.mem_of_getElem? (i := 24) rfl))) (ty := (.array .byte)) (by decide)
        have F_coder_b127 : Fld Z h127 b127 "java/lang/String" "coder" "B" (.int (0 : Int32)) := D127 (Or.inr (hw _ (List.mem_of_getElem? (i := 25) rfl))) (ty := .byte) (by decide)
        have f132 := (A127.keep ((((Keep.refl h127 []).trans K128 all0).trans K129 (allS (Or.inr (by omega)) all0)).trans K130 (allS (Or.inr (by omega)) all0)))
        have f133 := (F_value_b127.keep ((((Keep.refl h127 []).trans K128 all0).trans K129 (allS (Or.inr (by omega)) all0)).trans K130 (allS (Or.inr (by omega)) all0)) nin0)
        have f134 := (F_coder_b127.keep ((((Keep.refl h127 []).trans K128 all0).trans K129 (allS (Or.inr (by omega)) all0)).trans K130 (allS (Or.inr (by omega)) all0)) nin0)
        obtain ⟨T135, v135, L135, h135, X135, e135, q135, st135⟩ := own_callI X130 hx hZ (y := (⟨"java/lang/String", "<init>", "([C)V"⟩ : MethodName)) rfl hown (hw _ (List.mem_of_getElem? (i := 12) rfl)) (hw _ (List.mem_of_getElem? (i := 13) rfl)) (hw _ (List.mem_of_getElem? (i := 14) rfl)) (by decide) (own_bk (W := 1) (iu20 l Z a0 hw b127 b128 _ _ _ c0 c1 h130 n0 O131 CS UT hc0 hc1 hw0 f132 (by omega) f133 f134 V130) hZ (hw _ (List.mem_of_getElem? (i := 14) rfl)) (hw _ (List.mem_of_getElem? (i := 10) rfl)) (by decide) (by decide)) e130 (by decide) (by decide) (g := (mkF m 50 #[.val (.int n), .val (.int c0), .val (.int c1)] [(.ref b128), (.ref b127), (.ref b127)])) rfl (by rw [hml]; rfl) (a := b127) (argsL := [(.ref b128)]) (rest := [(.ref b127)]) (lenOf pd__28_5bC_29V rfl) rfl rfl (by show 2 * 0 + _ ≤ _; exact Nat.le_of_eq rfl) (hb hby d2_50)
        obtain ⟨rfl, N135q, K135, S135⟩ := q135
        refine own_stW st135 ?_
        have zK135 := K135.1
        have N135 := Fr.app N130 N135q
        have A135 := S135.1
        show own_GoW p e below s _ _ _ _ _ (T135.setTop (mkF m 53 #[.val (.int n), .val (.int c0), .val (.int c1)] [(.ref b127)]))
        have CR136 := CR.trans (CHr.keep ((((((Keep.refl h0 []).trans K127 all0).trans K128 all0).trans K129 (allS (Or.inr (by omega)) all0)).trans K130 (allS (Or.inr (by omega)) all0)).trans K135 (allS (Or.inr (by omega)) all0)) all0 CR.1)
        exact own_retW X135 hx hlk e135 hZ hEL hS (by omega) CR136 hret rfl (Or.inr (Or.inr (Or.inr (Or.inr ⟨rfl, rfl, rfl⟩)))) (hb hby d2_53) (by decide) (by decide) ⟨N135, b127, rfl, ((((((Keep.refl h0 []).trans K127 all0).trans K128 all0).trans K129 (allS (Or.inr (by omega)) all0)).trans K130 (allS (Or.inr (by omega)) all0)).trans K135 (allS (Or.inr (by omega)) all0)), (by unfold own_mk; rw [if_neg c101, if_neg c111]; exact S135)⟩
      · have O137 : Old Z n0 h130 := O0.keep (((((Keep.refl h0 []).trans K127 all0).trans K128 all0).trans K129 (allS (Or.inr (by omega)) all0)).trans K130 (allS (Or.inr (by omega)) all0)) all0
        have F_value_b127 : Fld Z h127 b127 "java/lang/String" "value" "[B" .null := D127 (Or.inr (hw _ (List.mem_of_getElem? (i := 24) rfl))) (ty := (.array .byte)) (by decide)
        have F_coder_b127 : Fld Z h127 b127 "java/lang/String" "coder" "B" (.int (0 : Int32)) := D127 (Or.inr (hw _ (List.mem_of_getElem? (i := 25) rfl))) (ty := .byte) (by decide)
        have f138 := (A127.keep ((((Keep.refl h127 []).trans K128 all0).trans K129 (allS (Or.inr (by omega)) all0)).trans K130 (allS (Or.inr (by omega)) all0)))
        have f139 := (F_value_b127.keep ((((Keep.refl h127 []).trans K128 all0).trans K129 (allS (Or.inr (by omega)) all0)).trans K130 (allS (Or.inr (by omega)) all0)) nin0)
        have f140 := (F_coder_b127.keep ((((Keep.refl h127 []).trans K128 all0).trans K129 (allS (Or.inr (by omega)) all0)).trans K130 (allS (Or.inr (by omega)) all0)) nin0)
        obtain ⟨T141, v141, L141, h141, X141, e141, q141, st141⟩ := own_callI X130 hx hZ (y := (⟨"java/lang/String", "<init>", "([C)V"⟩ : MethodName)) rfl hown (hw _ (List.mem_of_getElem? (i := 12) rfl)) (hw _ (List.mem_of_getElem? (i := 13) rfl)) (hw _ (List.mem_of_getElem? (i := 14) rfl)) (by decide) (own_bk (W := 1) (iu21 l Z a0 hw b127 b128 _ _ _ c0 c1 h130 n0 O137 CS UT hc0 hc1 hn0 hw1 f138 (by omega) f139 f140 V130) hZ (hw _ (List.mem_of_getElem? (i := 14) rfl)) (hw _ (List.mem_of_getElem? (i := 10) rfl)) (by decide) (by decide)) e130 (by decide) (by decide) (g := (mkF m 50 #[.val (.int n), .val (.int c0), .val (.int c1)] [(.ref b128), (.ref b127), (.ref b127)])) rfl (by rw [hml]; rfl) (a := b127) (argsL := [(.ref b128)]) (rest := [(.ref b127)]) (lenOf pd__28_5bC_29V rfl) rfl rfl (by show 2 * 0 + _ ≤ _; exact Nat.le_of_eq rfl) (hb hby d2_50)
        obtain ⟨rfl, N141q, K141, S141⟩ := q141
        refine own_stW st141 ?_
        have zK141 := K141.1
        have N141 := Fr.app N130 N141q
        have A141 := S141.1
        show own_GoW p e below s _ _ _ _ _ (T141.setTop (mkF m 53 #[.val (.int n), .val (.int c0), .val (.int c1)] [(.ref b127)]))
        have CR142 := CR.trans (CHr.keep ((((((Keep.refl h0 []).trans K127 all0).trans K128 all0).trans K129 (allS (Or.inr (by omega)) all0)).trans K130 (allS (Or.inr (by omega)) all0)).trans K141 (allS (Or.inr (by omega)) all0)) all0 CR.1)
        exact own_retW X141 hx hlk e141 hZ hEL hS (by omega) CR142 hret rfl (Or.inr (Or.inr (Or.inr (Or.inr ⟨rfl, rfl, rfl⟩)))) (hb hby d2_53) (by decide) (by decide) ⟨N141, b127, rfl, ((((((Keep.refl h0 []).trans K127 all0).trans K128 all0).trans K129 (allS (Or.inr (by omega)) all0)).trans K130 (allS (Or.inr (by omega)) all0)).trans K141 (allS (Or.inr (by omega)) all0)), (by unfold own_mk; rw [if_neg c101, if_neg c111]; exact S141)⟩
      · have F_value_b127 : Fld Z h127 b127 "java/lang/String" "value" "[B" .null := D127 (Or.inr (hw _ (List.mem_of_getElem? (i := 24) rfl))) (ty := (.array .byte)) (by decide)
        have F_coder_b127 : Fld Z h127 b127 "java/lang/String" "coder" "B" (.int (0 : Int32)) := D127 (Or.inr (hw _ (List.mem_of_getElem? (i := 25) rfl))) (ty := .byte) (by decide)
        have f143 := (A127.keep ((((Keep.refl h127 []).trans K128 all0).trans K129 (allS (Or.inr (by omega)) all0)).trans K130 (allS (Or.inr (by omega)) all0)))
        have f144 := (F_value_b127.keep ((((Keep.refl h127 []).trans K128 all0).trans K129 (allS (Or.inr (by omega)) all0)).trans K130 (allS (Or.inr (by omega)) all0)) nin0)
        have f145 := (F_coder_b127.keep ((((Keep.refl h127 []).trans K128 all0).trans K129 (allS (Or.inr (by omega)) all0)).trans K130 (allS (Or.inr (by omega)) all0)) nin0)
        have O146 : Old Z n0 h130 := O0.keep (((((Keep.refl h0 []).trans K127 all0).trans K128 all0).trans K129 (allS (Or.inr (by omega)) all0)).trans K130 (allS (Or.inr (by omega)) all0)) all0
        obtain ⟨T147, v147, L147, h147, X147, e147, q147, st147⟩ := own_callI X130 hx hZ (y := (⟨"java/lang/String", "<init>", "([C)V"⟩ : MethodName)) rfl hown (hw _ (List.mem_of_getElem? (i := 12) rfl)) (hw _ (List.mem_of_getElem? (i := 13) rfl)) (hw _ (List.mem_of_getElem? (i := 14) rfl)) (by decide) (own_nsB (W := 1) hZ (own_wNew hw) (kI := 4) (hw _ (List.mem_of_getElem? (i := 9) rfl)) (cs := [c0, c1]) (n := 2) (by omega : n0 ≤ b127) O146 CS f143 f144 f145 V130 rfl rfl (by decide) (by decide) (own_allC ⟨hc0.1, hn0⟩ (own_all1 ⟨hc1.1, hn1⟩)) (by decide) (by decide)) e130 (by decide) (by decide) (g := (mkF m 50 #[.val (.int n), .val (.int c0), .val (.int c1)] [(.ref b128), (.ref b127), (.ref b127)])) rfl (by rw [hml]; rfl) (a := b127) (argsL := [(.ref b128)]) (rest := [(.ref b127)]) (lenOf pd__28_5bC_29V rfl) rfl rfl (by show 2 * 0 + _ ≤ _; exact Nat.le_of_eq rfl) (hb hby d2_50)
        obtain ⟨rfl, N147q, K147, S147⟩ := q147
        refine own_stW st147 ?_
        have zK147 := K147.1
        have N147 := Fr.app N130 N147q
        have A147 := S147.1
        show own_GoW p e below s _ _ _ _ _ (T147.setTop (mkF m 53 #[.val (.int n), .val (.int c0), .val (.int c1)] [(.ref b127)]))
        have CR148 := CR.trans (CHr.keep ((((((Keep.refl h0 []).trans K127 all0).trans K128 all0).trans K129 (allS (Or.inr (by omega)) all0)).trans K130 (allS (Or.inr (by omega)) all0)).trans K147 (allS (Or.inr (by omega)) all0)) all0 CR.1)
        exact own_retW X147 hx hlk e147 hZ hEL hS (by omega) CR148 hret rfl (Or.inr (Or.inr (Or.inr (Or.inr ⟨rfl, rfl, rfl⟩)))) (hb hby d2_53) (by decide) (by decide) ⟨N147, b127, rfl, ((((((Keep.refl h0 []).trans K127 all0).trans K128 all0).trans K129 (allS (Or.inr (by omega)) all0)).trans K130 (allS (Or.inr (by omega)) all0)).trans K147 (allS (Or.inr (by omega)) all0)), (by unfold own_mk; rw [if_neg c101, if_neg c111]; exact S147)⟩
theorem d6_0 : decode method_4_code 0 = .ok (.iconst 3, 1) := by decide +kernel
theorem d6_1 : decode method_4_code 1 = .ok (.newarray .int, 2) := by decide +kernel
theorem d6_3 : decode method_4_code 3 = .ok (.astore_n 3, 1) := by decide +kernel
theorem d6_4 : decode method_4_code 4 = .ok (.iload_n 0, 1) := by decide +kernel
theorem d6_5 : decode method_4_code 5 = .ok (.iconst 1, 1) := by decide +kernel
theorem d6_6 : decode method_4_code 6 = .ok (.if_icmp .ne 14, 3) := by decide +kernel
theorem d6_9 : decode method_4_code 9 = .ok (.aload_n 3, 1) := by decide +kernel
theorem d6_10 : decode method_4_code 10 = .ok (.iconst 0, 1) := by decide +kernel
theorem d6_11 : decode method_4_code 11 = .ok (.iconst 1, 1) := by decide +kernel
theorem d6_12 : decode method_4_code 12 = .ok (.iastore, 1) := by decide +kernel
theorem d6_13 : decode method_4_code 13 = .ok (.aload_n 3, 1) := by decide +kernel
theorem d6_14 : decode method_4_code 14 = .ok (.iconst 1, 1) := by decide +kernel
theorem d6_15 : decode method_4_code 15 = .ok (.iload_n 1, 1) := by decide +kernel
theorem d6_16 : decode method_4_code 16 = .ok (.iastore, 1) := by decide +kernel
theorem d6_17 : decode method_4_code 17 = .ok (.goto 69, 3) := by decide +kernel
theorem d6_86 : decode method_4_code 86 = .ok (.aload_n 3, 1) := by decide +kernel
theorem d6_87 : decode method_4_code 87 = .ok (.areturn, 1) := by decide +kernel
theorem d6_20 : decode method_4_code 20 = .ok (.iload_n 0, 1) := by decide +kernel
theorem d6_21 : decode method_4_code 21 = .ok (.iconst 2, 1) := by decide +kernel
theorem d6_22 : decode method_4_code 22 = .ok (.if_icmp .ne 64, 3) := by decide +kernel
theorem d6_25 : decode method_4_code 25 = .ok (.iload_n 1, 1) := by decide +kernel
theorem d6_26 : decode method_4_code 26 = .ok (.ldc 8, 2) := by decide +kernel
theorem d6_28 : decode method_4_code 28 = .ok (.if_icmp .lt 46, 3) := by decide +kernel
theorem d6_74 : decode method_4_code 74 = .ok (.aload_n 3, 1) := by decide +kernel
theorem d6_75 : decode method_4_code 75 = .ok (.iconst 0, 1) := by decide +kernel
theorem d6_76 : decode method_4_code 76 = .ok (.iconst 2, 1) := by decide +kernel
theorem d6_77 : decode method_4_code 77 = .ok (.iastore, 1) := by decide +kernel
theorem d6_78 : decode method_4_code 78 = .ok (.aload_n 3, 1) := by decide +kernel
theorem d6_79 : decode method_4_code 79 = .ok (.iconst 1, 1) := by decide +kernel
theorem d6_80 : decode method_4_code 80 = .ok (.iload_n 1, 1) := by decide +kernel
theorem d6_81 : decode method_4_code 81 = .ok (.iastore, 1) := by decide +kernel
theorem d6_82 : decode method_4_code 82 = .ok (.aload_n 3, 1) := by decide +kernel
theorem d6_83 : decode method_4_code 83 = .ok (.iconst 2, 1) := by decide +kernel
theorem d6_84 : decode method_4_code 84 = .ok (.iload_n 2, 1) := by decide +kernel
theorem d6_85 : decode method_4_code 85 = .ok (.iastore, 1) := by decide +kernel
theorem d6_31 : decode method_4_code 31 = .ok (.iload_n 1, 1) := by decide +kernel
theorem d6_32 : decode method_4_code 32 = .ok (.ldc 15, 2) := by decide +kernel
theorem d6_34 : decode method_4_code 34 = .ok (.if_icmp .gt 40, 3) := by decide +kernel
theorem d6_37 : decode method_4_code 37 = .ok (.iload_n 2, 1) := by decide +kernel
theorem d6_38 : decode method_4_code 38 = .ok (.ldc 9, 2) := by decide +kernel
theorem d6_40 : decode method_4_code 40 = .ok (.if_icmp .lt 34, 3) := by decide +kernel
theorem d6_43 : decode method_4_code 43 = .ok (.iload_n 2, 1) := by decide +kernel
theorem d6_44 : decode method_4_code 44 = .ok (.ldc 16, 2) := by decide +kernel
theorem d6_46 : decode method_4_code 46 = .ok (.if_icmp .gt 28, 3) := by decide +kernel
theorem d6_49 : decode method_4_code 49 = .ok (.aload_n 3, 1) := by decide +kernel
theorem d6_50 : decode method_4_code 50 = .ok (.iconst 0, 1) := by decide +kernel
theorem d6_51 : decode method_4_code 51 = .ok (.iconst 1, 1) := by decide +kernel
theorem d6_52 : decode method_4_code 52 = .ok (.iastore, 1) := by decide +kernel
theorem d6_53 : decode method_4_code 53 = .ok (.aload_n 3, 1) := by decide +kernel
theorem d6_54 : decode method_4_code 54 = .ok (.iconst 1, 1) := by decide +kernel
theorem d6_55 : decode method_4_code 55 = .ok (.ldc 17, 2) := by decide +kernel
theorem d6_57 : decode method_4_code 57 = .ok (.iload_n 1, 1) := by decide +kernel
theorem d6_58 : decode method_4_code 58 = .ok (.ldc 8, 2) := by decide +kernel
theorem d6_60 : decode method_4_code 60 = .ok (.isub, 1) := by decide +kernel
theorem d6_61 : decode method_4_code 61 = .ok (.bipush 10, 2) := by decide +kernel
theorem d6_63 : decode method_4_code 63 = .ok (.ishl, 1) := by decide +kernel
theorem d6_64 : decode method_4_code 64 = .ok (.iadd, 1) := by decide +kernel
theorem d6_65 : decode method_4_code 65 = .ok (.iload_n 2, 1) := by decide +kernel
theorem d6_66 : decode method_4_code 66 = .ok (.ldc 9, 2) := by decide +kernel
theorem d6_68 : decode method_4_code 68 = .ok (.isub, 1) := by decide +kernel
theorem d6_69 : decode method_4_code 69 = .ok (.iadd, 1) := by decide +kernel
theorem d6_70 : decode method_4_code 70 = .ok (.iastore, 1) := by decide +kernel
theorem d6_71 : decode method_4_code 71 = .ok (.goto 15, 3) := by decide +kernel
theorem ef_ptW (m : MethodId) (x0 : Int32) (x1 : Int32) (x2 : Int32) : entryFrame m #[(.int x0), (.int x1), (.int x2)] 4 = mkF m 0 #[.val (.int x0), .val (.int x1), .val (.int x2), .unset] [] := by (first | (simp [entryFrame, mkF, argsToLocals, Value.category]; done) | rfl)
abbrev ptWR : Room := { frames := 0, cells := 1, slots := 3, locals := 0 }
set_option maxRecDepth 65536 in
set_option maxHeartbeats 40000000 in
theorem ptW (l : Launch) (Z : State) (a0 : Array Value) (hw : ∀ d ∈ tables_1, d.before a0 Z = true) (n c0 c1 : Int32) (h0 : Heap) (n0 : Nat) (O0 : Old Z n0 h0)  :
    own_C l Z (⟨"com/example/vetch/vetch/util/CharacterOrderComparePinLaw", "points", "(ICC)[I"⟩ : MethodName) method_4_code 4 (some (.array .int)) [] ptWR #[(.int n), (.int c0), (.int c1)] h0 (fun v h L => Fr n0 L ∧ ∃ (b : Nat) (kb : ClassId), v = some (.ref b) ∧ Keep h0 h [] ∧ h0.size ≤ b ∧ b < h.size ∧ Arv Z h b kb .int 3 ((own_pts n c0 c1).map Value.int) (.int 0)) := by
  refine own_body (plainFor_of_name pn_com_example_vetch_vetch_util_CharacterOrderComparePinLaw) ?_
  intro p e s m below meth c T0 X0 hx hby hml hZ hown hnm hret hlk e0
  have N0 := Fr.nil n0
  have zO := own_old O0
  refine own_st (fun _ k => castTop (ef_ptW m n c0 c1) k) ?_
  show own_Go p e below s _ _ _ (T0.setTop (mkF m 0 #[.val (.int n), .val (.int c0), .val (.int c1), .unset] []))
  refine own_st (fun _ k => XS.iconst X0.here hx rfl (hb hby d6_0) k) ?_
  show own_Go p e below s _ _ _ (T0.setTop (mkF m 1 #[.val (.int n), .val (.int c0), .val (.int c1), .unset] [(.int (3 : Int32))]))
  obtain ⟨T101, h101, k101, X101, e101, E101, A101, st101⟩ := newP X0 hx hZ (hw _ (List.mem_of_getElem? (i := 33) rfl)) e0 (g := (mkF m 1 #[.val (.int n), .val (.int c0), .val (.int c1), .unset] [(.int (3 : Int32))])) rfl (hb hby d6_1) rfl (by decide) (cap := 3) (by decide) (by decide) (by decide) (by decide)
  obtain ⟨b101, g101⟩ : ∃ z, z = h0.size := ⟨_, rfl⟩
  rw [← g101] at A101 st101
  have K101 : Keep h0 h101 [] := (Keep.refl _ _).ext E101
  have l101 : b101 < h101.size := A101.lt
  refine own_st st101 ?_
  have zK101 := K101.1
  have V101 : Arv Z h101 b101 k101 .int (3 : Int32) [(.int (0 : Int32)), (.int (0 : Int32)), (.int (0 : Int32))] (.int (0 : Int32)) := (Arv.new A101 (by decide)).pad (pad_rep [] (.int (0 : Int32)) 3)
  show own_Go p e below s _ _ _ (T101.setTop (mkF m 3 #[.val (.int n), .val (.int c0), .val (.int c1), .unset] [(.ref b101)]))
  refine own_st (fun _ k => XS.astoreN X101.here hx rfl (hb hby d6_3) rfl rfl (l' := #[.val (.int n), .val (.int c0), .val (.int c1), .val (.ref b101)]) rfl k) ?_
  show own_Go p e below s _ _ _ (T101.setTop (mkF m 4 #[.val (.int n), .val (.int c0), .val (.int c1), .val (.ref b101)] []))
  refine own_st (fun _ k => XS.iloadN X101.here hx rfl (hb hby d6_4) rfl k) ?_
  show own_Go p e below s _ _ _ (T101.setTop (mkF m 5 #[.val (.int n), .val (.int c0), .val (.int c1), .val (.ref b101)] [(.int n)]))
  refine own_st (fun _ k => XS.iconst X101.here hx rfl (hb hby d6_5) k) ?_
  show own_Go p e below s _ _ _ (T101.setTop (mkF m 6 #[.val (.int n), .val (.int c0), .val (.int c1), .val (.ref b101)] [(.int (1 : Int32)), (.int n)]))
  by_cases c102 : n = (1 : Int32)
  · refine own_st (fun _ k => XS.icmpNo X101.here hx rfl (hb hby d6_6) rfl (teq c102).2 k) ?_
    show own_Go p e below s _ _ _ (T101.setTop (mkF m 9 #[.val (.int n), .val (.int c0), .val (.int c1), .val (.ref b101)] []))
    refine own_st (fun _ k => XS.aloadN X101.here hx rfl (hb hby d6_9) rfl rfl k) ?_
    show own_Go p e below s _ _ _ (T101.setTop (mkF m 10 #[.val (.int n), .val (.int c0), .val (.int c1), .val (.ref b101)] [(.ref b101)]))
    refine own_st (fun _ k => XS.iconst X101.here hx rfl (hb hby d6_10) k) ?_
    show own_Go p e below s _ _ _ (T101.setTop (mkF m 11 #[.val (.int n), .val (.int c0), .val (.int c1), .val (.ref b101)] [(.int (0 : Int32)), (.ref b101)]))
    refine own_st (fun _ k => XS.iconst X101.here hx rfl (hb hby d6_11) k) ?_
    show own_Go p e below s _ _ _ (T101.setTop (mkF m 12 #[.val (.int n), .val (.int c0), .val (.int c1), .val (.ref b101)] [(.int (1 : Int32)), (.int (0 : Int32)), (.ref b101)]))
    obtain ⟨c103, Ar103, q103, S103, M103, H103, U103⟩ := V101
    obtain ⟨T103, h103, X103, e103, W103, st103⟩ := stI X101 hx hZ e101 Ar103 (j := (0 : Int32)) (inb_of S103 ⟨by decide, by decide⟩) (g := (mkF m 12 #[.val (.int n), .val (.int c0), .val (.int c1), .val (.ref b101)] [(.int (1 : Int32)), (.int (0 : Int32)), (.ref b101)])) rfl rfl (hb hby d6_12)
    have V103 := Arv.set Ar103 q103 S103 M103 H103 U103 rfl W103 0 rfl (Nat.le_of_ble_eq_true rfl)
    have K103 := Keep.of_wr W103
    have N103 := Fr.snoc X103 N0 (by omega : n0 ≤ b101)
    refine own_st st103 ?_
    have zK103 := K103.1
    show own_Go p e below s _ _ _ (T103.setTop (mkF m 13 #[.val (.int n), .val (.int c0), .val (.int c1), .val (.ref b101)] []))
    refine own_st (fun _ k => XS.aloadN X103.here hx rfl (hb hby d6_13) rfl rfl k) ?_
    show own_Go p e below s _ _ _ (T103.setTop (mkF m 14 #[.val (.int n), .val (.int c0), .val (.int c1), .val (.ref b101)] [(.ref b101)]))
    refine own_st (fun _ k => XS.iconst X103.here hx rfl (hb hby d6_14) k) ?_
    show own_Go p e below s _ _ _ (T103.setTop (mkF m 15 #[.val (.int n), .val (.int c0), .val (.int c1), .val (.ref b101)] [(.int (1 : Int32)), (.ref b101)]))
    refine own_st (fun _ k => XS.iloadN X103.here hx rfl (hb hby d6_15) rfl k) ?_
    show own_Go p e below s _ _ _ (T103.setTop (mkF m 16 #[.val (.int n), .val (.int c0), .val (.int c1), .val (.ref b101)] [(.int c0), (.int (1 : Int32)), (.ref b101)]))
    obtain ⟨c104, Ar104, q104, S104, M104, H104, U104⟩ := V103
    obtain ⟨T104, h104, X104, e104, W104, st104⟩ := stI X103 hx hZ e103 Ar104 (j := (1 : Int32)) (inb_of S104 ⟨by decide, by decide⟩) (g := (mkF m 16 #[.val (.int n), .val (.int c0), .val (.int c1), .val (.ref b101)] [(.int c0), (.int (1 : Int32)), (.ref b101)])) rfl rfl (hb hby d6_16)
    have V104 := Arv.set Ar104 q104 S104 M104 H104 U104 rfl W104 1 rfl (Nat.le_of_ble_eq_true rfl)
    have K104 := Keep.of_wr W104
    have N104 := Fr.snoc X104 N103 (by omega : n0 ≤ b101)
    refine own_st st104 ?_
    have zK104 := K104.1
    show own_Go p e below s _ _ _ (T104.setTop (mkF m 17 #[.val (.int n), .val (.int c0), .val (.int c1), .val (.ref b101)] []))
    refine own_st (fun _ k => XS.goto X104.here hx rfl (pc0 := 17) (pc' := 86) rfl (hb hby d6_17) (by decide) (by decide) k) ?_
    show own_Go p e below s _ _ _ (T104.setTop (mkF m 86 #[.val (.int n), .val (.int c0), .val (.int c1), .val (.ref b101)] []))
    refine own_st (fun _ k => XS.aloadN X104.here hx rfl (hb hby d6_86) rfl rfl k) ?_
    show own_Go p e below s _ _ _ (T104.setTop (mkF m 87 #[.val (.int n), .val (.int c0), .val (.int c1), .val (.ref b101)] [(.ref b101)]))
    exact own_ret X104 hx hlk e104 hret rfl (Or.inr (Or.inr (Or.inr (Or.inr ⟨rfl, rfl, rfl⟩)))) (hb hby d6_87) (by decide) (by decide) ⟨N104, b101, _, rfl, ((((Keep.refl h0 []).trans K101 all0).trans K103 (allS (Or.inr (by omega)) all0)).trans K104 (allS (Or.inr (by omega)) all0)), by omega, V104.lt, (by unfold own_pts; rw [if_pos c102]; exact V104)⟩
  · refine own_st (fun _ k => XS.icmpYes X101.here hx rfl (pc0 := 6) (pc' := 20) rfl (hb hby d6_6) rfl (feq c102).2 (by decide) (by decide) k) ?_
    show own_Go p e below s _ _ _ (T101.setTop (mkF m 20 #[.val (.int n), .val (.int c0), .val (.int c1), .val (.ref b101)] []))
    refine own_st (fun _ k => XS.iloadN X101.here hx rfl (hb hby d6_20) rfl k) ?_
    show own_Go p e below s _ _ _ (T101.setTop (mkF m 21 #[.val (.int n), .val (.int c0), .val (.int c1), .val (.ref b101)] [(.int n)]))
    refine own_st (fun _ k => XS.iconst X101.here hx rfl (hb hby d6_21) k) ?_
    show own_Go p e below s _ _ _ (T101.setTop (mkF m 22 #[.val (.int n), .val (.int c0), .val (.int c1), .val (.ref b101)] [(.int (2 : Int32)), (.int n)]))
    by_cases c105 : n = (2 : Int32)
    · refine own_st (fun _ k => XS.icmpNo X101.here hx rfl (hb hby d6_22) rfl (teq c105).2 k) ?_
      show own_Go p e below s _ _ _ (T101.setTop (mkF m 25 #[.val (.int n), .val (.int c0), .val (.int c1), .val (.ref b101)] []))
      refine own_st (fun _ k => XS.iloadN X101.here hx rfl (hb hby d6_25) rfl k) ?_
      show own_Go p e below s _ _ _ (T101.setTop (mkF m 26 #[.val (.int n), .val (.int c0), .val (.int c1), .val (.ref b101)] [(.int c0)]))
      refine own_st (X101.ldcInt hx hown (mvT hZ (hw _ (List.mem_of_getElem? (i := 73) rfl))) (g := (mkF m 26 #[.val (.int n), .val (.int c0), .val (.int c1), .val (.ref b101)] [(.int c0)])) rfl (hb hby d6_26)) ?_
      show own_Go p e below s _ _ _ (T101.setTop (mkF m 28 #[.val (.int n), .val (.int c0), .val (.int c1), .val (.ref b101)] [(.int (55296 : Int32)), (.int c0)]))
      by_cases c106 : c0 < (55296 : Int32)
      · refine own_st (fun _ k => XS.icmpYes X101.here hx rfl (pc0 := 28) (pc' := 74) rfl (hb hby d6_28) rfl (tlt c106).1 (by decide) (by decide) k) ?_
        show own_Go p e below s _ _ _ (T101.setTop (mkF m 74 #[.val (.int n), .val (.int c0), .val (.int c1), .val (.ref b101)] []))
        refine own_st (fun _ k => XS.aloadN X101.here hx rfl (hb hby d6_74) rfl rfl k) ?_
        show own_Go p e below s _ _ _ (T101.setTop (mkF m 75 #[.val (.int n), .val (.int c0), .val (.int c1), .val (.ref b101)] [(.ref b101)]))
        refine own_st (fun _ k => XS.iconst X101.here hx rfl (hb hby d6_75) k) ?_
        show own_Go p e below s _ _ _ (T101.setTop (mkF m 76 #[.val (.int n), .val (.int c0), .val (.int c1), .val (.ref b101)] [(.int (0 : Int32)), (.ref b101)]))
        refine own_st (fun _ k => XS.iconst X101.here hx rfl (hb hby d6_76) k) ?_
        show own_Go p e below s _ _ _ (T101.setTop (mkF m 77 #[.val (.int n), .val (.int c0), .val (.int c1), .val (.ref b101)] [(.int (2 : Int32)), (.int (0 : Int32)), (.ref b101)]))
        obtain ⟨c107, Ar107, q107, S107, M107, H107, U107⟩ := V101
        obtain ⟨T107, h107, X107, e107, W107, st107⟩ := stI X101 hx hZ e101 Ar107 (j := (0 : Int32)) (inb_of S107 ⟨by decide, by decide⟩) (g := (mkF m 77 #[.val (.int n), .val (.int c0), .val (.int c1), .val (.ref b101)] [(.int (2 : Int32)), (.int (0 : Int32)), (.ref b101)])) rfl rfl (hb hby d6_77)
        have V107 := Arv.set Ar107 q107 S107 M107 H107 U107 rfl W107 0 rfl (Nat.le_of_ble_eq_true rfl)
        have K107 := Keep.of_wr W107
        have N107 := Fr.snoc X107 N0 (by omega : n0 ≤ b101)
        refine own_st st107 ?_
        have zK107 := K107.1
        show own_Go p e below s _ _ _ (T107.setTop (mkF m 78 #[.val (.int n), .val (.int c0), .val (.int c1), .val (.ref b101)] []))
        refine own_st (fun _ k => XS.aloadN X107.here hx rfl (hb hby d6_78) rfl rfl k) ?_
        show own_Go p e below s _ _ _ (T107.setTop (mkF m 79 #[.val (.int n), .val (.int c0), .val (.int c1), .val (.ref b101)] [(.ref b101)]))
        refine own_st (fun _ k => XS.iconst X107.here hx rfl (hb hby d6_79) k) ?_
        show own_Go p e below s _ _ _ (T107.setTop (mkF m 80 #[.val (.int n), .val (.int c0), .val (.int c1), .val (.ref b101)] [(.int (1 : Int32)), (.ref b101)]))
        refine own_st (fun _ k => XS.iloadN X107.here hx rfl (hb hby d6_80) rfl k) ?_
        show own_Go p e below s _ _ _ (T107.setTop (mkF m 81 #[.val (.int n), .val (.int c0), .val (.int c1), .val (.ref b101)] [(.int c0), (.int (1 : Int32)), (.ref b101)]))
        obtain ⟨c108, Ar108, q108, S108, M108, H108, U108⟩ := V107
        obtain ⟨T108, h108, X108, e108, W108, st108⟩ := stI X107 hx hZ e107 Ar108 (j := (1 : Int32)) (inb_of S108 ⟨by decide, by decide⟩) (g := (mkF m 81 #[.val (.int n), .val (.int c0), .val (.int c1), .val (.ref b101)] [(.int c0), (.int (1 : Int32)), (.ref b101)])) rfl rfl (hb hby d6_81)
        have V108 := Arv.set Ar108 q108 S108 M108 H108 U108 rfl W108 1 rfl (Nat.le_of_ble_eq_true rfl)
        have K108 := Keep.of_wr W108
        have N108 := Fr.snoc X108 N107 (by omega : n0 ≤ b101)
        refine own_st st108 ?_
        have zK108 := K108.1
        show own_Go p e below s _ _ _ (T108.setTop (mkF m 82 #[.val (.int n), .val (.int c0), .val (.int c1), .val (.ref b101)] []))
        refine own_st (fun _ k => XS.aloadN X108.here hx rfl (hb hby d6_82) rfl rfl k) ?_
        show own_Go p e below s _ _ _ (T108.setTop (mkF m 83 #[.val (.int n), .val (.int c0), .val (.int c1), .val (.ref b101)] [(.ref b101)]))
        refine own_st (fun _ k => XS.iconst X108.here hx rfl (hb hby d6_83) k) ?_
        show own_Go p e below s _ _ _ (T108.setTop (mkF m 84 #[.val (.int n), .val (.int c0), .val (.int c1), .val (.ref b101)] [(.int (2 : Int32)), (.ref b101)]))
        refine own_st (fun _ k => XS.iloadN X108.here hx rfl (hb hby d6_84) rfl k) ?_
        show own_Go p e below s _ _ _ (T108.setTop (mkF m 85 #[.val (.int n), .val (.int c0), .val (.int c1), .val (.ref b101)] [(.int c1), (.int (2 : Int32)), (.ref b101)]))
        obtain ⟨c109, Ar109, q109, S109, M109, H109, U109⟩ := V108
        obtain ⟨T109, h109, X109, e109, W109, st109⟩ := stI X108 hx hZ e108 Ar109 (j := (2 : Int32)) (inb_of S109 ⟨by decide, by decide⟩) (g := (mkF m 85 #[.val (.int n), .val (.int c0), .val (.int c1), .val (.ref b101)] [(.int c1), (.int (2 : Int32)), (.ref b101)])) rfl rfl (hb hby d6_85)
        have V109 := Arv.set Ar109 q109 S109 M109 H109 U109 rfl W109 2 rfl (Nat.le_of_ble_eq_true rfl)
        have K109 := Keep.of_wr W109
        have N109 := Fr.snoc X109 N108 (by omega : n0 ≤ b101)
        refine own_st st109 ?_
        have zK109 := K109.1
        show own_Go p e below s _ _ _ (T109.setTop (mkF m 86 #[.val (.int n), .val (.int c0), .val (.int c1), .val (.ref b101)] []))
        refine own_st (fun _ k => XS.aloadN X109.here hx rfl (hb hby d6_86) rfl rfl k) ?_
        show own_Go p e below s _ _ _ (T109.setTop (mkF m 87 #[.val (.int n), .val (.int c0), .val (.int c1), .val (.ref b101)] [(.ref b101)]))
        exact own_ret X109 hx hlk e109 hret rfl (Or.inr (Or.inr (Or.inr (Or.inr ⟨rfl, rfl, rfl⟩)))) (hb hby d6_87) (by decide) (by decide) ⟨N109, b101, _, rfl, (((((Keep.refl h0 []).trans K101 all0).trans K107 (allS (Or.inr (by omega)) all0)).trans K108 (allS (Or.inr (by omega)) all0)).trans K109 (allS (Or.inr (by omega)) all0)), by omega, V109.lt, (by unfold own_pts; rw [if_neg c102, if_pos c105, if_pos c106]; exact V109)⟩
      · refine own_st (fun _ k => XS.icmpNo X101.here hx rfl (hb hby d6_28) rfl (flt c106).1 k) ?_
        show own_Go p e below s _ _ _ (T101.setTop (mkF m 31 #[.val (.int n), .val (.int c0), .val (.int c1), .val (.ref b101)] []))
        refine own_st (fun _ k => XS.iloadN X101.here hx rfl (hb hby d6_31) rfl k) ?_
        show own_Go p e below s _ _ _ (T101.setTop (mkF m 32 #[.val (.int n), .val (.int c0), .val (.int c1), .val (.ref b101)] [(.int c0)]))
        refine own_st (X101.ldcInt hx hown (mvT hZ (hw _ (List.mem_of_getElem? (i := 123) rfl))) (g := (mkF m 32 #[.val (.int n), .val (.int c0), .val (.int c1), .val (.ref b101)] [(.int c0)])) rfl (hb hby d6_32)) ?_
        show own_Go p e below s _ _ _ (T101.setTop (mkF m 34 #[.val (.int n), .val (.int c0), .val (.int c1), .val (.ref b101)] [(.int (56319 : Int32)), (.int c0)]))
        by_cases c110 : (56319 : Int32) < c0
        · refine own_st (fun _ k => XS.icmpYes X101.here hx rfl (pc0 := 34) (pc' := 74) rfl (hb hby d6_34) rfl (tlt c110).2.2.1 (by decide) (by decide) k) ?_
          show own_Go p e below s _ _ _ (T101.setTop (mkF m 74 #[.val (.int n), .val (.int c0), .val (.int c1), .val (.ref b101)] []))
          refine own_st (fun _ k => XS.aloadN X101.here hx rfl (hb hby d6_74) rfl rfl k) ?_
          show own_Go p e below s _ _ _ (T101.setTop (mkF m 75 #[.val (.int n), .val (.int c0), .val (.int c1), .val (.ref b101)] [(.ref b101)]))
          refine own_st (fun _ k => XS.iconst X101.here hx rfl (hb hby d6_75) k) ?_
          show own_Go p e below s _ _ _ (T101.setTop (mkF m 76 #[.val (.int n), .val (.int c0), .val (.int c1), .val (.ref b101)] [(.int (0 : Int32)), (.ref b101)]))
          refine own_st (fun _ k => XS.iconst X101.here hx rfl (hb hby d6_76) k) ?_
          show own_Go p e below s _ _ _ (T101.setTop (mkF m 77 #[.val (.int n), .val (.int c0), .val (.int c1), .val (.ref b101)] [(.int (2 : Int32)), (.int (0 : Int32)), (.ref b101)]))
          obtain ⟨c111, Ar111, q111, S111, M111, H111, U111⟩ := V101
          obtain ⟨T111, h111, X111, e111, W111, st111⟩ := stI X101 hx hZ e101 Ar111 (j := (0 : Int32)) (inb_of S111 ⟨by decide, by decide⟩) (g := (mkF m 77 #[.val (.int n), .val (.int c0), .val (.int c1), .val (.ref b101)] [(.int (2 : Int32)), (.int (0 : Int32)), (.ref b101)])) rfl rfl (hb hby d6_77)
          have V111 := Arv.set Ar111 q111 S111 M111 H111 U111 rfl W111 0 rfl (Nat.le_of_ble_eq_true rfl)
          have K111 := Keep.of_wr W111
          have N111 := Fr.snoc X111 N0 (by omega : n0 ≤ b101)
          refine own_st st111 ?_
          have zK111 := K111.1
          show own_Go p e below s _ _ _ (T111.setTop (mkF m 78 #[.val (.int n), .val (.int c0), .val (.int c1), .val (.ref b101)] []))
          refine own_st (fun _ k => XS.aloadN X111.here hx rfl (hb hby d6_78) rfl rfl k) ?_
          show own_Go p e below s _ _ _ (T111.setTop (mkF m 79 #[.val (.int n), .val (.int c0), .val (.int c1), .val (.ref b101)] [(.ref b101)]))
          refine own_st (fun _ k => XS.iconst X111.here hx rfl (hb hby d6_79) k) ?_
          show own_Go p e below s _ _ _ (T111.setTop (mkF m 80 #[.val (.int n), .val (.int c0), .val (.int c1), .val (.ref b101)] [(.int (1 : Int32)), (.ref b101)]))
          refine own_st (fun _ k => XS.iloadN X111.here hx rfl (hb hby d6_80) rfl k) ?_
          show own_Go p e below s _ _ _ (T111.setTop (mkF m 81 #[.val (.int n), .val (.int c0), .val (.int c1), .val (.ref b101)] [(.int c0), (.int (1 : Int32)), (.ref b101)]))
          obtain ⟨c112, Ar112, q112, S112, M112, H112, U112⟩ := V111
          obtain ⟨T112, h112, X112, e112, W112, st112⟩ := stI X111 hx hZ e111 Ar112 (j := (1 : Int32)) (inb_of S112 ⟨by decide, by decide⟩) (g := (mkF m 81 #[.val (.int n), .val (.int c0), .val (.int c1), .val (.ref b101)] [(.int c0), (.int (1 : Int32)), (.ref b101)])) rfl rfl (hb hby d6_81)
          have V112 := Arv.set Ar112 q112 S112 M112 H112 U112 rfl W112 1 rfl (Nat.le_of_ble_eq_true rfl)
          have K112 := Keep.of_wr W112
          have N112 := Fr.snoc X112 N111 (by omega : n0 ≤ b101)
          refine own_st st112 ?_
          have zK112 := K112.1
          show own_Go p e below s _ _ _ (T112.setTop (mkF m 82 #[.val (.int n), .val (.int c0), .val (.int c1), .val (.ref b101)] []))
          refine own_st (fun _ k => XS.aloadN X112.here hx rfl (hb hby d6_82) rfl rfl k) ?_
          show own_Go p e below s _ _ _ (T112.setTop (mkF m 83 #[.val (.int n), .val (.int c0), .val (.int c1), .val (.ref b101)] [(.ref b101)]))
          refine own_st (fun _ k => XS.iconst X112.here hx rfl (hb hby d6_83) k) ?_
          show own_Go p e below s _ _ _ (T112.setTop (mkF m 84 #[.val (.int n), .val (.int c0), .val (.int c1), .val (.ref b101)] [(.int (2 : Int32)), (.ref b101)]))
          refine own_st (fun _ k => XS.iloadN X112.here hx rfl (hb hby d6_84) rfl k) ?_
          show own_Go p e below s _ _ _ (T112.setTop (mkF m 85 #[.val (.int n), .val (.int c0), .val (.int c1), .val (.ref b101)] [(.int c1), (.int (2 : Int32)), (.ref b101)]))
          obtain ⟨c113, Ar113, q113, S113, M113, H113, U113⟩ := V112
          obtain ⟨T113, h113, X113, e113, W113, st113⟩ := stI X112 hx hZ e112 Ar113 (j := (2 : Int32)) (inb_of S113 ⟨by decide, by decide⟩) (g := (mkF m 85 #[.val (.int n), .val (.int c0), .val (.int c1), .val (.ref b101)] [(.int c1), (.int (2 : Int32)), (.ref b101)])) rfl rfl (hb hby d6_85)
          have V113 := Arv.set Ar113 q113 S113 M113 H113 U113 rfl W113 2 rfl (Nat.le_of_ble_eq_true rfl)
          have K113 := Keep.of_wr W113
          have N113 := Fr.snoc X113 N112 (by omega : n0 ≤ b101)
          refine own_st st113 ?_
          have zK113 := K113.1
          show own_Go p e below s _ _ _ (T113.setTop (mkF m 86 #[.val (.int n), .val (.int c0), .val (.int c1), .val (.ref b101)] []))
          refine own_st (fun _ k => XS.aloadN X113.here hx rfl (hb hby d6_86) rfl rfl k) ?_
          show own_Go p e below s _ _ _ (T113.setTop (mkF m 87 #[.val (.int n), .val (.int c0), .val (.int c1), .val (.ref b101)] [(.ref b101)]))
          exact own_ret X113 hx hlk e113 hret rfl (Or.inr (Or.inr (Or.inr (Or.inr ⟨rfl, rfl, rfl⟩)))) (hb hby d6_87) (by decide) (by decide) ⟨N113, b101, _, rfl, (((((Keep.refl h0 []).trans K101 all0).trans K111 (allS (Or.inr (by omega)) all0)).trans K112 (allS (Or.inr (by omega)) all0)).trans K113 (allS (Or.inr (by omega)) all0)), by omega, V113.lt, (by unfold own_pts; rw [if_neg c102, if_pos c105, if_neg c106, if_pos c110]; exact V113)⟩
        · refine own_st (fun _ k => XS.icmpNo X101.here hx rfl (hb hby d6_34) rfl (flt c110).2.2.1 k) ?_
          show own_Go p e below s _ _ _ (T101.setTop (mkF m 37 #[.val (.int n), .val (.int c0), .val (.int c1), .val (.ref b101)] []))
          refine own_st (fun _ k => XS.iloadN X101.here hx rfl (hb hby d6_37) rfl k) ?_
          show own_Go p e below s _ _ _ (T101.setTop (mkF m 38 #[.val (.int n), .val (.int c0), .val (.int c1), .val (.ref b101)] [(.int c1)]))
          refine own_st (X101.ldcInt hx hown (mvT hZ (hw _ (List.mem_of_getElem? (i := 74) rfl))) (g := (mkF m 38 #[.val (.int n), .val (.int c0), .val (.int c1), .val (.ref b101)] [(.int c1)])) rfl (hb hby d6_38)) ?_
          show own_Go p e below s _ _ _ (T101.setTop (mkF m 40 #[.val (.int n), .val (.int c0), .val (.int c1), .val (.ref b101)] [(.int (56320 : Int32)), (.int c1)]))
          by_cases c114 : c1 < (56320 : Int32)
          · refine own_st (fun _ k => XS.icmpYes X101.here hx rfl (pc0 := 40) (pc' := 74) rfl (hb hby d6_40) rfl (tlt c114).1 (by decide) (by decide) k) ?_
            show own_Go p e below s _ _ _ (T101.setTop (mkF m 74 #[.val (.int n), .val (.int c0), .val (.int c1), .val (.ref b101)] []))
            refine own_st (fun _ k => XS.aloadN X101.here hx rfl (hb hby d6_74) rfl rfl k) ?_
            show own_Go p e below s _ _ _ (T101.setTop (mkF m 75 #[.val (.int n), .val (.int c0), .val (.int c1), .val (.ref b101)] [(.ref b101)]))
            refine own_st (fun _ k => XS.iconst X101.here hx rfl (hb hby d6_75) k) ?_
            show own_Go p e below s _ _ _ (T101.setTop (mkF m 76 #[.val (.int n), .val (.int c0), .val (.int c1), .val (.ref b101)] [(.int (0 : Int32)), (.ref b101)]))
            refine own_st (fun _ k => XS.iconst X101.here hx rfl (hb hby d6_76) k) ?_
            show own_Go p e below s _ _ _ (T101.setTop (mkF m 77 #[.val (.int n), .val (.int c0), .val (.int c1), .val (.ref b101)] [(.int (2 : Int32)), (.int (0 : Int32)), (.ref b101)]))
            obtain ⟨c115, Ar115, q115, S115, M115, H115, U115⟩ := V101
            obtain ⟨T115, h115, X115, e115, W115, st115⟩ := stI X101 hx hZ e101 Ar115 (j := (0 : Int32)) (inb_of S115 ⟨by decide, by decide⟩) (g := (mkF m 77 #[.val (.int n), .val (.int c0), .val (.int c1), .val (.ref b101)] [(.int (2 : Int32)), (.int (0 : Int32)), (.ref b101)])) rfl rfl (hb hby d6_77)
            have V115 := Arv.set Ar115 q115 S115 M115 H115 U115 rfl W115 0 rfl (Nat.le_of_ble_eq_true rfl)
            have K115 := Keep.of_wr W115
            have N115 := Fr.snoc X115 N0 (by omega : n0 ≤ b101)
            refine own_st st115 ?_
            have zK115 := K115.1
            show own_Go p e below s _ _ _ (T115.setTop (mkF m 78 #[.val (.int n), .val (.int c0), .val (.int c1), .val (.ref b101)] []))
            refine own_st (fun _ k => XS.aloadN X115.here hx rfl (hb hby d6_78) rfl rfl k) ?_
            show own_Go p e below s _ _ _ (T115.setTop (mkF m 79 #[.val (.int n), .val (.int c0), .val (.int c1), .val (.ref b101)] [(.ref b101)]))
            refine own_st (fun _ k => XS.iconst X115.here hx rfl (hb hby d6_79) k) ?_
            show own_Go p e below s _ _ _ (T115.setTop (mkF m 80 #[.val (.int n), .val (.int c0), .val (.int c1), .val (.ref b101)] [(.int (1 : Int32)), (.ref b101)]))
            refine own_st (fun _ k => XS.iloadN X115.here hx rfl (hb hby d6_80) rfl k) ?_
            show own_Go p e below s _ _ _ (T115.setTop (mkF m 81 #[.val (.int n), .val (.int c0), .val (.int c1), .val (.ref b101)] [(.int c0), (.int (1 : Int32)), (.ref b101)]))
            obtain ⟨c116, Ar116, q116, S116, M116, H116, U116⟩ := V115
            obtain ⟨T116, h116, X116, e116, W116, st116⟩ := stI X115 hx hZ e115 Ar116 (j := (1 : Int32)) (inb_of S116 ⟨by decide, by decide⟩) (g := (mkF m 81 #[.val (.int n), .val (.int c0), .val (.int c1), .val (.ref b101)] [(.int c0), (.int (1 : Int32)), (.ref b101)])) rfl rfl (hb hby d6_81)
            have V116 := Arv.set Ar116 q116 S116 M116 H116 U116 rfl W116 1 rfl (Nat.le_of_ble_eq_true rfl)
            have K116 := Keep.of_wr W116
            have N116 := Fr.snoc X116 N115 (by omega : n0 ≤ b101)
            refine own_st st116 ?_
            have zK116 := K116.1
            show own_Go p e below s _ _ _ (T116.setTop (mkF m 82 #[.val (.int n), .val (.int c0), .val (.int c1), .val (.ref b101)] []))
            refine own_st (fun _ k => XS.aloadN X116.here hx rfl (hb hby d6_82) rfl rfl k) ?_
            show own_Go p e below s _ _ _ (T116.setTop (mkF m 83 #[.val (.int n), .val (.int c0), .val (.int c1), .val (.ref b101)] [(.ref b101)]))
            refine own_st (fun _ k => XS.iconst X116.here hx rfl (hb hby d6_83) k) ?_
            show own_Go p e below s _ _ _ (T116.setTop (mkF m 84 #[.val (.int n), .val (.int c0), .val (.int c1), .val (.ref b101)] [(.int (2 : Int32)), (.ref b101)]))
            refine own_st (fun _ k => XS.iloadN X116.here hx rfl (hb hby d6_84) rfl k) ?_
            show own_Go p e below s _ _ _ (T116.setTop (mkF m 85 #[.val (.int n), .val (.int c0), .val (.int c1), .val (.ref b101)] [(.int c1), (.int (2 : Int32)), (.ref b101)]))
            obtain ⟨c117, Ar117, q117, S117, M117, H117, U117⟩ := V116
            obtain ⟨T117, h117, X117, e117, W117, st117⟩ := stI X116 hx hZ e116 Ar117 (j := (2 : Int32)) (inb_of S117 ⟨by decide, by decide⟩) (g := (mkF m 85 #[.val (.int n), .val (.int c0), .val (.int c1), .val (.ref b101)] [(.int c1), (.int (2 : Int32)), (.ref b101)])) rfl rfl (hb hby d6_85)
            have V117 := Arv.set Ar117 q117 S117 M117 H117 U117 rfl W117 2 rfl (Nat.le_of_ble_eq_true rfl)
            have K117 := Keep.of_wr W117
            have N117 := Fr.snoc X117 N116 (by omega : n0 ≤ b101)
            refine own_st st117 ?_
            have zK117 := K117.1
            show own_Go p e below s _ _ _ (T117.setTop (mkF m 86 #[.val (.int n), .val (.int c0), .val (.int c1), .val (.ref b101)] []))
            refine own_st (fun _ k => XS.aloadN X117.here hx rfl (hb hby d6_86) rfl rfl k) ?_
            show own_Go p e below s _ _ _ (T117.setTop (mkF m 87 #[.val (.int n), .val (.int c0), .val (.int c1), .val (.ref b101)] [(.ref b101)]))
            exact own_ret X117 hx hlk e117 hret rfl (Or.inr (Or.inr (Or.inr (Or.inr ⟨rfl, rfl, rfl⟩)))) (hb hby d6_87) (by decide) (by decide) ⟨N117, b101, _, rfl, (((((Keep.refl h0 []).trans K101 all0).trans K115 (allS (Or.inr (by omega)) all0)).trans K116 (allS (Or.inr (by omega)) all0)).trans K117 (allS (Or.inr (by omega)) all0)), by omega, V117.lt, (by unfold own_pts; rw [if_neg c102, if_pos c105, if_neg c106, if_neg c110, if_pos c114]; exact V117)⟩
          · refine own_st (fun _ k => XS.icmpNo X101.here hx rfl (hb hby d6_40) rfl (flt c114).1 k) ?_
            show own_Go p e below s _ _ _ (T101.setTop (mkF m 43 #[.val (.int n), .val (.int c0), .val (.int c1), .val (.ref b101)] []))
            refine own_st (fun _ k => XS.iloadN X101.here hx rfl (hb hby d6_43) rfl k) ?_
            show own_Go p e below s _ _ _ (T101.setTop (mkF m 44 #[.val (.int n), .val (.int c0), .val (.int c1), .val (.ref b101)] [(.int c1)]))
            refine own_st (X101.ldcInt hx hown (mvT hZ (hw _ (List.mem_of_getElem? (i := 129) rfl))) (g := (mkF m 44 #[.val (.int n), .val (.int c0), .val (.int c1), .val (.ref b101)] [(.int c1)])) rfl (hb hby d6_44)) ?_
            show own_Go p e below s _ _ _ (T101.setTop (mkF m 46 #[.val (.int n), .val (.int c0), .val (.int c1), .val (.ref b101)] [(.int (57343 : Int32)), (.int c1)]))
            by_cases c118 : (57343 : Int32) < c1
            · refine own_st (fun _ k => XS.icmpYes X101.here hx rfl (pc0 := 46) (pc' := 74) rfl (hb hby d6_46) rfl (tlt c118).2.2.1 (by decide) (by decide) k) ?_
              show own_Go p e below s _ _ _ (T101.setTop (mkF m 74 #[.val (.int n), .val (.int c0), .val (.int c1), .val (.ref b101)] []))
              refine own_st (fun _ k => XS.aloadN X101.here hx rfl (hb hby d6_74) rfl rfl k) ?_
              show own_Go p e below s _ _ _ (T101.setTop (mkF m 75 #[.val (.int n), .val (.int c0), .val (.int c1), .val (.ref b101)] [(.ref b101)]))
              refine own_st (fun _ k => XS.iconst X101.here hx rfl (hb hby d6_75) k) ?_
              show own_Go p e below s _ _ _ (T101.setTop (mkF m 76 #[.val (.int n), .val (.int c0), .val (.int c1), .val (.ref b101)] [(.int (0 : Int32)), (.ref b101)]))
              refine own_st (fun _ k => XS.iconst X101.here hx rfl (hb hby d6_76) k) ?_
              show own_Go p e below s _ _ _ (T101.setTop (mkF m 77 #[.val (.int n), .val (.int c0), .val (.int c1), .val (.ref b101)] [(.int (2 : Int32)), (.int (0 : Int32)), (.ref b101)]))
              obtain ⟨c119, Ar119, q119, S119, M119, H119, U119⟩ := V101
              obtain ⟨T119, h119, X119, e119, W119, st119⟩ := stI X101 hx hZ e101 Ar119 (j := (0 : Int32)) (inb_of S119 ⟨by decide, by decide⟩) (g := (mkF m 77 #[.val (.int n), .val (.int c0), .val (.int c1), .val (.ref b101)] [(.int (2 : Int32)), (.int (0 : Int32)), (.ref b101)])) rfl rfl (hb hby d6_77)
              have V119 := Arv.set Ar119 q119 S119 M119 H119 U119 rfl W119 0 rfl (Nat.le_of_ble_eq_true rfl)
              have K119 := Keep.of_wr W119
              have N119 := Fr.snoc X119 N0 (by omega : n0 ≤ b101)
              refine own_st st119 ?_
              have zK119 := K119.1
              show own_Go p e below s _ _ _ (T119.setTop (mkF m 78 #[.val (.int n), .val (.int c0), .val (.int c1), .val (.ref b101)] []))
              refine own_st (fun _ k => XS.aloadN X119.here hx rfl (hb hby d6_78) rfl rfl k) ?_
              show own_Go p e below s _ _ _ (T119.setTop (mkF m 79 #[.val (.int n), .val (.int c0), .val (.int c1), .val (.ref b101)] [(.ref b101)]))
              refine own_st (fun _ k => XS.iconst X119.here hx rfl (hb hby d6_79) k) ?_
              show own_Go p e below s _ _ _ (T119.setTop (mkF m 80 #[.val (.int n), .val (.int c0), .val (.int c1), .val (.ref b101)] [(.int (1 : Int32)), (.ref b101)]))
              refine own_st (fun _ k => XS.iloadN X119.here hx rfl (hb hby d6_80) rfl k) ?_
              show own_Go p e below s _ _ _ (T119.setTop (mkF m 81 #[.val (.int n), .val (.int c0), .val (.int c1), .val (.ref b101)] [(.int c0), (.int (1 : Int32)), (.ref b101)]))
              obtain ⟨c120, Ar120, q120, S120, M120, H120, U120⟩ := V119
              obtain ⟨T120, h120, X120, e120, W120, st120⟩ := stI X119 hx hZ e119 Ar120 (j := (1 : Int32)) (inb_of S120 ⟨by decide, by decide⟩) (g := (mkF m 81 #[.val (.int n), .val (.int c0), .val (.int c1), .val (.ref b101)] [(.int c0), (.int (1 : Int32)), (.ref b101)])) rfl rfl (hb hby d6_81)
              have V120 := Arv.set Ar120 q120 S120 M120 H120 U120 rfl W120 1 rfl (Nat.le_of_ble_eq_true rfl)
              have K120 := Keep.of_wr W120
              have N120 := Fr.snoc X120 N119 (by omega : n0 ≤ b101)
              refine own_st st120 ?_
              have zK120 := K120.1
              show own_Go p e below s _ _ _ (T120.setTop (mkF m 82 #[.val (.int n), .val (.int c0), .val (.int c1), .val (.ref b101)] []))
              refine own_st (fun _ k => XS.aloadN X120.here hx rfl (hb hby d6_82) rfl rfl k) ?_
              show own_Go p e below s _ _ _ (T120.setTop (mkF m 83 #[.val (.int n), .val (.int c0), .val (.int c1), .val (.ref b101)] [(.ref b101)]))
              refine own_st (fun _ k => XS.iconst X120.here hx rfl (hb hby d6_83) k) ?_
              show own_Go p e below s _ _ _ (T120.setTop (mkF m 84 #[.val (.int n), .val (.int c0), .val (.int c1), .val (.ref b101)] [(.int (2 : Int32)), (.ref b101)]))
              refine own_st (fun _ k => XS.iloadN X120.here hx rfl (hb hby d6_84) rfl k) ?_
              show own_Go p e below s _ _ _ (T120.setTop (mkF m 85 #[.val (.int n), .val (.int c0), .val (.int c1), .val (.ref b101)] [(.int c1), (.int (2 : Int32)), (.ref b101)]))
              obtain ⟨c121, Ar121, q121, S121, M121, H121, U121⟩ := V120
              obtain ⟨T121, h121, X121, e121, W121, st121⟩ := stI X120 hx hZ e120 Ar121 (j := (2 : Int32)) (inb_of S121 ⟨by decide, by decide⟩) (g := (mkF m 85 #[.val (.int n), .val (.int c0), .val (.int c1), .val (.ref b101)] [(.int c1), (.int (2 : Int32)), (.ref b101)])) rfl rfl (hb hby d6_85)
              have V121 := Arv.set Ar121 q121 S121 M121 H121 U121 rfl W121 2 rfl (Nat.le_of_ble_eq_true rfl)
              have K121 := Keep.of_wr W121
              have N121 := Fr.snoc X121 N120 (by omega : n0 ≤ b101)
              refine own_st st121 ?_
              have zK121 := K121.1
              show own_Go p e below s _ _ _ (T121.setTop (mkF m 86 #[.val (.int n), .val (.int c0), .val (.int c1), .val (.ref b101)] []))
              refine own_st (fun _ k => XS.aloadN X121.here hx rfl (hb hby d6_86) rfl rfl k) ?_
              show own_Go p e below s _ _ _ (T121.setTop (mkF m 87 #[.val (.int n), .val (.int c0), .val (.int c1), .val (.ref b101)] [(.ref b101)]))
              exact own_ret X121 hx hlk e121 hret rfl (Or.inr (Or.inr (Or.inr (Or.inr ⟨rfl, rfl, rfl⟩)))) (hb hby d6_87) (by decide) (by decide) ⟨N121, b101, _, rfl, (((((Keep.refl h0 []).trans K101 all0).trans K119 (allS (Or.inr (by omega)) all0)).trans K120 (allS (Or.inr (by omega)) all0)).trans K121 (allS (Or.inr (by omega)) all0)), by omega, V121.lt, (by unfold own_pts; rw [if_neg c102, if_pos c105, if_neg c106, if_neg c110, if_neg c114, if_pos c118]; exact V121)⟩
            · refine own_st (fun _ k => XS.icmpNo X101.here hx rfl (hb hby d6_46) rfl (flt c118).2.2.1 k) ?_
              show own_Go p e below s _ _ _ (T101.setTop (mkF m 49 #[.val (.int n), .val (.int c0), .val (.int c1), .val (.ref b101)] []))
              refine own_st (fun _ k => XS.aloadN X101.here hx rfl (hb hby d6_49) rfl rfl k) ?_
              show own_Go p e below s _ _ _ (T101.setTop (mkF m 50 #[.val (.int n), .val (.int c0), .val (.int c1), .val (.ref b101)] [(.ref b101)]))
              refine own_st (fun _ k => XS.iconst X101.here hx rfl (hb hby d6_50) k) ?_
              show own_Go p e below s _ _ _ (T101.setTop (mkF m 51 #[.val (.int n), .val (.int c0), .val (.int c1), .val (.ref b101)] [(.int (0 : Int32)), (.ref b101)]))
              refine own_st (fun _ k => XS.iconst X101.here hx rfl (hb hby d6_51) k) ?_
              show own_Go p e below s _ _ _ (T101.setTop (mkF m 52 #[.val (.int n), .val (.int c0), .val (.int c1), .val (.ref b101)] [(.int (1 : Int32)), (.int (0 : Int32)), (.ref b101)]))
              obtain ⟨c122, Ar122, q122, S122, M122, H122, U122⟩ := V101
              obtain ⟨T122, h122, X122, e122, W122, st122⟩ := stI X101 hx hZ e101 Ar122 (j := (0 : Int32)) (inb_of S122 ⟨by decide, by decide⟩) (g := (mkF m 52 #[.val (.int n), .val (.int c0), .val (.int c1), .val (.ref b101)] [(.int (1 : Int32)), (.int (0 : Int32)), (.ref b101)])) rfl rfl (hb hby d6_52)
              have V122 := Arv.set Ar122 q122 S122 M122 H122 U122 rfl W122 0 rfl (Nat.le_of_ble_eq_true rfl)
              have K122 := Keep.of_wr W122
              have N122 := Fr.snoc X122 N0 (by omega : n0 ≤ b101)
              refine own_st st122 ?_
              have zK122 := K122.1
              show own_Go p e below s _ _ _ (T122.setTop (mkF m 53 #[.val (.int n), .val (.int c0), .val (.int c1), .val (.ref b101)] []))
              refine own_st (fun _ k => XS.aloadN X122.here hx rfl (hb hby d6_53) rfl rfl k) ?_
              show own_Go p e below s _ _ _ (T122.setTop (mkF m 54 #[.val (.int n), .val (.int c0), .val (.int c1), .val (.ref b101)] [(.ref b101)]))
              refine own_st (fun _ k => XS.iconst X122.here hx rfl (hb hby d6_54) k) ?_
              show own_Go p e below s _ _ _ (T122.setTop (mkF m 55 #[.val (.int n), .val (.int c0), .val (.int c1), .val (.ref b101)] [(.int (1 : Int32)), (.ref b101)]))
              refine own_st (X122.ldcInt hx hown (mvT hZ (hw _ (List.mem_of_getElem? (i := 130) rfl))) (g := (mkF m 55 #[.val (.int n), .val (.int c0), .val (.int c1), .val (.ref b101)] [(.int (1 : Int32)), (.ref b101)])) rfl (hb hby d6_55)) ?_
              show own_Go p e below s _ _ _ (T122.setTop (mkF m 57 #[.val (.int n), .val (.int c0), .val (.int c1), .val (.ref b101)] [(.int (65536 : Int32)), (.int (1 : Int32)), (.ref b101)]))
              refine own_st (fun _ k => XS.iloadN X122.here hx rfl (hb hby d6_57) rfl k) ?_
              show own_Go p e below s _ _ _ (T122.setTop (mkF m 58 #[.val (.int n), .val (.int c0), .val (.int c1), .val (.ref b101)] [(.int c0), (.int (65536 : Int32)), (.int (1 : Int32)), (.ref b101)]))
              refine own_st (X122.ldcInt hx hown (mvT hZ (hw _ (List.mem_of_getElem? (i := 73) rfl))) (g := (mkF m 58 #[.val (.int n), .val (.int c0), .val (.int c1), .val (.ref b101)] [(.int c0), (.int (65536 : Int32)), (.int (1 : Int32)), (.ref b101)])) rfl (hb hby d6_58)) ?_
              show own_Go p e below s _ _ _ (T122.setTop (mkF m 60 #[.val (.int n), .val (.int c0), .val (.int c1), .val (.ref b101)] [(.int (55296 : Int32)), (.int c0), (.int (65536 : Int32)), (.int (1 : Int32)), (.ref b101)]))
              refine own_st (fun _ k => XS.isub X122.here hx rfl (hb hby d6_60) rfl k) ?_
              show own_Go p e below s _ _ _ (T122.setTop (mkF m 61 #[.val (.int n), .val (.int c0), .val (.int c1), .val (.ref b101)] [(.int (c0 - (55296 : Int32))), (.int (65536 : Int32)), (.int (1 : Int32)), (.ref b101)]))
              refine own_st (fun _ k => XS.bipush X122.here hx rfl (hb hby d6_61) k) ?_
              show own_Go p e below s _ _ _ (T122.setTop (mkF m 63 #[.val (.int n), .val (.int c0), .val (.int c1), .val (.ref b101)] [(.int (10 : Int32)), (.int (c0 - (55296 : Int32))), (.int (65536 : Int32)), (.int (1 : Int32)), (.ref b101)]))
              refine own_st (fun _ k => XS.ishl X122.here hx rfl (hb hby d6_63) rfl k) ?_
              show own_Go p e below s _ _ _ (T122.setTop (mkF m 64 #[.val (.int n), .val (.int c0), .val (.int c1), .val (.ref b101)] [(.int ((c0 - (55296 : Int32)) <<< ((10 : Int32) &&& 31))), (.int (65536 : Int32)), (.int (1 : Int32)), (.ref b101)]))
              refine own_st (fun _ k => XS.iadd X122.here hx rfl (hb hby d6_64) rfl k) ?_
              show own_Go p e below s _ _ _ (T122.setTop (mkF m 65 #[.val (.int n), .val (.int c0), .val (.int c1), .val (.ref b101)] [(.int ((65536 : Int32) + ((c0 - (55296 : Int32)) <<< ((10 : Int32) &&& 31)))), (.int (1 : Int32)), (.ref b101)]))
              refine own_st (fun _ k => XS.iloadN X122.here hx rfl (hb hby d6_65) rfl k) ?_
              show own_Go p e below s _ _ _ (T122.setTop (mkF m 66 #[.val (.int n), .val (.int c0), .val (.int c1), .val (.ref b101)] [(.int c1), (.int ((65536 : Int32) + ((c0 - (55296 : Int32)) <<< ((10 : Int32) &&& 31)))), (.int (1 : Int32)), (.ref b101)]))
              refine own_st (X122.ldcInt hx hown (mvT hZ (hw _ (List.mem_of_getElem? (i := 74) rfl))) (g := (mkF m 66 #[.val (.int n), .val (.int c0), .val (.int c1), .val (.ref b101)] [(.int c1), (.int ((65536 : Int32) + ((c0 - (55296 : Int32)) <<< ((10 : Int32) &&& 31)))), (.int (1 : Int32)), (.ref b101)])) rfl (hb hby d6_66)) ?_
              show own_Go p e below s _ _ _ (T122.setTop (mkF m 68 #[.val (.int n), .val (.int c0), .val (.int c1), .val (.ref b101)] [(.int (56320 : Int32)), (.int c1), (.int ((65536 : Int32) + ((c0 - (55296 : Int32)) <<< ((10 : Int32) &&& 31)))), (.int (1 : Int32)), (.ref b101)]))
              refine own_st (fun _ k => XS.isub X122.here hx rfl (hb hby d6_68) rfl k) ?_
              show own_Go p e below s _ _ _ (T122.setTop (mkF m 69 #[.val (.int n), .val (.int c0), .val (.int c1), .val (.ref b101)] [(.int (c1 - (56320 : Int32))), (.int ((65536 : Int32) + ((c0 - (55296 : Int32)) <<< ((10 : Int32) &&& 31)))), (.int (1 : Int32)), (.ref b101)]))
              refine own_st (fun _ k => XS.iadd X122.here hx rfl (hb hby d6_69) rfl k) ?_
              show own_Go p e below s _ _ _ (T122.setTop (mkF m 70 #[.val (.int n), .val (.int c0), .val (.int c1), .val (.ref b101)] [(.int (((65536 : Int32) + ((c0 - (55296 : Int32)) <<< ((10 : Int32) &&& 31))) + (c1 - (56320 : Int32)))), (.int (1 : Int32)), (.ref b101)]))
              obtain ⟨c123, Ar123, q123, S123, M123, H123, U123⟩ := V122
              obtain ⟨T123, h123, X123, e123, W123, st123⟩ := stI X122 hx hZ e122 Ar123 (j := (1 : Int32)) (inb_of S123 ⟨by decide, by decide⟩) (g := (mkF m 70 #[.val (.int n), .val (.int c0), .val (.int c1), .val (.ref b101)] [(.int (((65536 : Int32) + ((c0 - (55296 : Int32)) <<< ((10 : Int32) &&& 31))) + (c1 - (56320 : Int32)))), (.int (1 : Int32)), (.ref b101)])) rfl rfl (hb hby d6_70)
              have V123 := Arv.set Ar123 q123 S123 M123 H123 U123 rfl W123 1 rfl (Nat.le_of_ble_eq_true rfl)
              have K123 := Keep.of_wr W123
              have N123 := Fr.snoc X123 N122 (by omega : n0 ≤ b101)
              refine own_st st123 ?_
              have zK123 := K123.1
              show own_Go p e below s _ _ _ (T123.setTop (mkF m 71 #[.val (.int n), .val (.int c0), .val (.int c1), .val (.ref b101)] []))
              refine own_st (fun _ k => XS.goto X123.here hx rfl (pc0 := 71) (pc' := 86) rfl (hb hby d6_71) (by decide) (by decide) k) ?_
              show own_Go p e below s _ _ _ (T123.setTop (mkF m 86 #[.val (.int n), .val (.int c0), .val (.int c1), .val (.ref b101)] []))
              refine own_st (fun _ k => XS.aloadN X123.here hx rfl (hb hby d6_86) rfl rfl k) ?_
              show own_Go p e below s _ _ _ (T123.setTop (mkF m 87 #[.val (.int n), .val (.int c0), .val (.int c1), .val (.ref b101)] [(.ref b101)]))
              exact own_ret X123 hx hlk e123 hret rfl (Or.inr (Or.inr (Or.inr (Or.inr ⟨rfl, rfl, rfl⟩)))) (hb hby d6_87) (by decide) (by decide) ⟨N123, b101, _, rfl, ((((Keep.refl h0 []).trans K101 all0).trans K122 (allS (Or.inr (by omega)) all0)).trans K123 (allS (Or.inr (by omega)) all0)), by omega, V123.lt, (by unfold own_pts; rw [if_neg c102, if_pos c105, if_neg c106, if_neg c110, if_neg c114, if_neg c118]; exact V123)⟩
    · refine own_st (fun _ k => XS.icmpYes X101.here hx rfl (pc0 := 22) (pc' := 86) rfl (hb hby d6_22) rfl (feq c105).2 (by decide) (by decide) k) ?_
      show own_Go p e below s _ _ _ (T101.setTop (mkF m 86 #[.val (.int n), .val (.int c0), .val (.int c1), .val (.ref b101)] []))
      refine own_st (fun _ k => XS.aloadN X101.here hx rfl (hb hby d6_86) rfl rfl k) ?_
      show own_Go p e below s _ _ _ (T101.setTop (mkF m 87 #[.val (.int n), .val (.int c0), .val (.int c1), .val (.ref b101)] [(.ref b101)]))
      exact own_ret X101 hx hlk e101 hret rfl (Or.inr (Or.inr (Or.inr (Or.inr ⟨rfl, rfl, rfl⟩)))) (hb hby d6_87) (by decide) (by decide) ⟨N0, b101, _, rfl, ((Keep.refl h0 []).trans K101 all0), by omega, V101.lt, (by unfold own_pts; rw [if_neg c102, if_neg c105]; exact V101)⟩
theorem d7_0 : decode method_6_code 0 = .ok (.aload_n 0, 1) := by decide +kernel
theorem d7_1 : decode method_6_code 1 = .ok (.iconst 0, 1) := by decide +kernel
theorem d7_2 : decode method_6_code 2 = .ok (.iaload, 1) := by decide +kernel
theorem d7_3 : decode method_6_code 3 = .ok (.iconst 1, 1) := by decide +kernel
theorem d7_4 : decode method_6_code 4 = .ok (.if_icmp .lt 72, 3) := by decide +kernel
theorem d7_76 : decode method_6_code 76 = .ok (.aload_n 0, 1) := by decide +kernel
theorem d7_77 : decode method_6_code 77 = .ok (.iconst 0, 1) := by decide +kernel
theorem d7_78 : decode method_6_code 78 = .ok (.iaload, 1) := by decide +kernel
theorem d7_79 : decode method_6_code 79 = .ok (.aload_n 1, 1) := by decide +kernel
theorem d7_80 : decode method_6_code 80 = .ok (.iconst 0, 1) := by decide +kernel
theorem d7_81 : decode method_6_code 81 = .ok (.iaload, 1) := by decide +kernel
theorem d7_82 : decode method_6_code 82 = .ok (.if_icmp .ge 7, 3) := by decide +kernel
theorem d7_85 : decode method_6_code 85 = .ok (.iconst (-1), 1) := by decide +kernel
theorem d7_86 : decode method_6_code 86 = .ok (.goto 17, 3) := by decide +kernel
theorem d7_103 : decode method_6_code 103 = .ok (.ireturn, 1) := by decide +kernel
theorem d7_89 : decode method_6_code 89 = .ok (.aload_n 0, 1) := by decide +kernel
theorem d7_90 : decode method_6_code 90 = .ok (.iconst 0, 1) := by decide +kernel
theorem d7_91 : decode method_6_code 91 = .ok (.iaload, 1) := by decide +kernel
theorem d7_92 : decode method_6_code 92 = .ok (.aload_n 1, 1) := by decide +kernel
theorem d7_93 : decode method_6_code 93 = .ok (.iconst 0, 1) := by decide +kernel
theorem d7_94 : decode method_6_code 94 = .ok (.iaload, 1) := by decide +kernel
theorem d7_95 : decode method_6_code 95 = .ok (.if_icmp .le 7, 3) := by decide +kernel
theorem d7_98 : decode method_6_code 98 = .ok (.iconst 1, 1) := by decide +kernel
theorem d7_99 : decode method_6_code 99 = .ok (.goto 4, 3) := by decide +kernel
theorem d7_102 : decode method_6_code 102 = .ok (.iconst 0, 1) := by decide +kernel
theorem d7_7 : decode method_6_code 7 = .ok (.aload_n 1, 1) := by decide +kernel
theorem d7_8 : decode method_6_code 8 = .ok (.iconst 0, 1) := by decide +kernel
theorem d7_9 : decode method_6_code 9 = .ok (.iaload, 1) := by decide +kernel
theorem d7_10 : decode method_6_code 10 = .ok (.iconst 1, 1) := by decide +kernel
theorem d7_11 : decode method_6_code 11 = .ok (.if_icmp .lt 65, 3) := by decide +kernel
theorem d7_14 : decode method_6_code 14 = .ok (.aload_n 0, 1) := by decide +kernel
theorem d7_15 : decode method_6_code 15 = .ok (.iconst 1, 1) := by decide +kernel
theorem d7_16 : decode method_6_code 16 = .ok (.iaload, 1) := by decide +kernel
theorem d7_17 : decode method_6_code 17 = .ok (.aload_n 1, 1) := by decide +kernel
theorem d7_18 : decode method_6_code 18 = .ok (.iconst 1, 1) := by decide +kernel
theorem d7_19 : decode method_6_code 19 = .ok (.iaload, 1) := by decide +kernel
theorem d7_20 : decode method_6_code 20 = .ok (.if_icmp .eq 18, 3) := by decide +kernel
theorem d7_38 : decode method_6_code 38 = .ok (.aload_n 0, 1) := by decide +kernel
theorem d7_39 : decode method_6_code 39 = .ok (.iconst 0, 1) := by decide +kernel
theorem d7_40 : decode method_6_code 40 = .ok (.iaload, 1) := by decide +kernel
theorem d7_41 : decode method_6_code 41 = .ok (.iconst 2, 1) := by decide +kernel
theorem d7_42 : decode method_6_code 42 = .ok (.if_icmp .lt 34, 3) := by decide +kernel
theorem d7_45 : decode method_6_code 45 = .ok (.aload_n 1, 1) := by decide +kernel
theorem d7_46 : decode method_6_code 46 = .ok (.iconst 0, 1) := by decide +kernel
theorem d7_47 : decode method_6_code 47 = .ok (.iaload, 1) := by decide +kernel
theorem d7_48 : decode method_6_code 48 = .ok (.iconst 2, 1) := by decide +kernel
theorem d7_49 : decode method_6_code 49 = .ok (.if_icmp .lt 27, 3) := by decide +kernel
theorem d7_52 : decode method_6_code 52 = .ok (.aload_n 0, 1) := by decide +kernel
theorem d7_53 : decode method_6_code 53 = .ok (.iconst 2, 1) := by decide +kernel
theorem d7_54 : decode method_6_code 54 = .ok (.iaload, 1) := by decide +kernel
theorem d7_55 : decode method_6_code 55 = .ok (.aload_n 1, 1) := by decide +kernel
theorem d7_56 : decode method_6_code 56 = .ok (.iconst 2, 1) := by decide +kernel
theorem d7_57 : decode method_6_code 57 = .ok (.iaload, 1) := by decide +kernel
theorem d7_58 : decode method_6_code 58 = .ok (.if_icmp .eq 18, 3) := by decide +kernel
theorem d7_61 : decode method_6_code 61 = .ok (.aload_n 0, 1) := by decide +kernel
theorem d7_62 : decode method_6_code 62 = .ok (.iconst 2, 1) := by decide +kernel
theorem d7_63 : decode method_6_code 63 = .ok (.iaload, 1) := by decide +kernel
theorem d7_64 : decode method_6_code 64 = .ok (.aload_n 1, 1) := by decide +kernel
theorem d7_65 : decode method_6_code 65 = .ok (.iconst 2, 1) := by decide +kernel
theorem d7_66 : decode method_6_code 66 = .ok (.iaload, 1) := by decide +kernel
theorem d7_67 : decode method_6_code 67 = .ok (.if_icmp .ge 7, 3) := by decide +kernel
theorem d7_70 : decode method_6_code 70 = .ok (.iconst (-1), 1) := by decide +kernel
theorem d7_71 : decode method_6_code 71 = .ok (.goto 4, 3) := by decide +kernel
theorem d7_75 : decode method_6_code 75 = .ok (.ireturn, 1) := by decide +kernel
theorem d7_74 : decode method_6_code 74 = .ok (.iconst 1, 1) := by decide +kernel
theorem d7_23 : decode method_6_code 23 = .ok (.aload_n 0, 1) := by decide +kernel
theorem d7_24 : decode method_6_code 24 = .ok (.iconst 1, 1) := by decide +kernel
theorem d7_25 : decode method_6_code 25 = .ok (.iaload, 1) := by decide +kernel
theorem d7_26 : decode method_6_code 26 = .ok (.aload_n 1, 1) := by decide +kernel
theorem d7_27 : decode method_6_code 27 = .ok (.iconst 1, 1) := by decide +kernel
theorem d7_28 : decode method_6_code 28 = .ok (.iaload, 1) := by decide +kernel
theorem d7_29 : decode method_6_code 29 = .ok (.if_icmp .ge 7, 3) := by decide +kernel
theorem d7_32 : decode method_6_code 32 = .ok (.iconst (-1), 1) := by decide +kernel
theorem d7_33 : decode method_6_code 33 = .ok (.goto 4, 3) := by decide +kernel
theorem d7_37 : decode method_6_code 37 = .ok (.ireturn, 1) := by decide +kernel
theorem d7_36 : decode method_6_code 36 = .ok (.iconst 1, 1) := by decide +kernel
theorem ef_exW (m : MethodId) (x0 : Addr) (x1 : Addr) : entryFrame m #[(.ref x0), (.ref x1)] 2 = mkF m 0 #[.val (.ref x0), .val (.ref x1)] [] := by (first | (simp [entryFrame, mkF, argsToLocals, Value.category]; done) | rfl)
abbrev exWR : Room := { frames := 0, cells := 0, slots := 0, locals := 0 }
set_option maxRecDepth 65536 in
set_option maxHeartbeats 40000000 in
theorem exW (l : Launch) (Z : State) (a0 : Array Value) (hw : ∀ d ∈ tables_1, d.before a0 Z = true) (a1 a2 : Nat) (k1 k2 : ClassId) (la lb : List Int32) (h0 : Heap) (n0 : Nat) (O0 : Old Z n0 h0) (V1 : Arv Z h0 a1 k1 .int 3 (la.map Value.int) (.int 0)) (V2 : Arv Z h0 a2 k2 .int 3 (lb.map Value.int) (.int 0)) :
    own_C l Z (⟨"com/example/vetch/vetch/util/CharacterOrderComparePinLaw", "expected", "([I[I)I"⟩ : MethodName) method_6_code 2 (some .int) [] exWR #[(.ref a1), (.ref a2)] h0 (fun v h L => v = some (.int (own_exp la lb)) ∧ Fr n0 L ∧ h = h0) := by
  refine own_body (plainFor_of_name pn_com_example_vetch_vetch_util_CharacterOrderComparePinLaw) ?_
  intro p e s m below meth c T0 X0 hx hby hml hZ hown hnm hret hlk e0
  have N0 := Fr.nil n0
  have zO := own_old O0
  refine own_st (fun _ k => castTop (ef_exW m a1 a2) k) ?_
  show own_Go p e below s _ _ _ (T0.setTop (mkF m 0 #[.val (.ref a1), .val (.ref a2)] []))
  refine own_st (fun _ k => XS.aloadN X0.here hx rfl (hb hby d7_0) rfl rfl k) ?_
  show own_Go p e below s _ _ _ (T0.setTop (mkF m 1 #[.val (.ref a1), .val (.ref a2)] [(.ref a1)]))
  refine own_st (fun _ k => XS.iconst X0.here hx rfl (hb hby d7_1) k) ?_
  show own_Go p e below s _ _ _ (T0.setTop (mkF m 2 #[.val (.ref a1), .val (.ref a2)] [(.int (0 : Int32)), (.ref a1)]))
  obtain ⟨c101, Ar101, q101, S101, M101, H101, U101⟩ := id V1
  have hi101 := inb_of (j := (0 : Int32)) S101 ⟨by decide, by decide⟩
  refine own_st (X0.iaload hx (j := (0 : Int32)) (v := (.int (la.getD 0 0))) (by rw [e0]; exact Ar101.1) (State.isArrayOf_alike hZ.alike Ar101.2.1) Ar101.2.2 hi101 (H101.at hi101 (own_gm la 0)) (g := (mkF m 2 #[.val (.ref a1), .val (.ref a2)] [(.int (0 : Int32)), (.ref a1)])) rfl rfl (hb hby d7_2)) ?_
  show own_Go p e below s _ _ _ (T0.setTop (mkF m 3 #[.val (.ref a1), .val (.ref a2)] [(.int (la.getD 0 0))]))
  refine own_st (fun _ k => XS.iconst X0.here hx rfl (hb hby d7_3) k) ?_
  show own_Go p e below s _ _ _ (T0.setTop (mkF m 4 #[.val (.ref a1), .val (.ref a2)] [(.int (1 : Int32)), (.int (la.getD 0 0))]))
  by_cases c102 : (la.getD 0 0) < (1 : Int32)
  · refine own_st (fun _ k => XS.icmpYes X0.here hx rfl (pc0 := 4) (pc' := 76) rfl (hb hby d7_4) rfl (tlt c102).1 (by decide) (by decide) k) ?_
    show own_Go p e below s _ _ _ (T0.setTop (mkF m 76 #[.val (.ref a1), .val (.ref a2)] []))
    refine own_st (fun _ k => XS.aloadN X0.here hx rfl (hb hby d7_76) rfl rfl k) ?_
    show own_Go p e below s _ _ _ (T0.setTop (mkF m 77 #[.val (.ref a1), .val (.ref a2)] [(.ref a1)]))
    refine own_st (fun _ k => XS.iconst X0.here hx rfl (hb hby d7_77) k) ?_
    show own_Go p e below s _ _ _ (T0.setTop (mkF m 78 #[.val (.ref a1), .val (.ref a2)] [(.int (0 : Int32)), (.ref a1)]))
    obtain ⟨c103, Ar103, q103, S103, M103, H103, U103⟩ := id V1
    have hi103 := inb_of (j := (0 : Int32)) S103 ⟨by decide, by decide⟩
    refine own_st (X0.iaload hx (j := (0 : Int32)) (v := (.int (la.getD 0 0))) (by rw [e0]; exact Ar103.1) (State.isArrayOf_alike hZ.alike Ar103.2.1) Ar103.2.2 hi103 (H103.at hi103 (own_gm la 0)) (g := (mkF m 78 #[.val (.ref a1), .val (.ref a2)] [(.int (0 : Int32)), (.ref a1)])) rfl rfl (hb hby d7_78)) ?_
    show own_Go p e below s _ _ _ (T0.setTop (mkF m 79 #[.val (.ref a1), .val (.ref a2)] [(.int (la.getD 0 0))]))
    refine own_st (fun _ k => XS.aloadN X0.here hx rfl (hb hby d7_79) rfl rfl k) ?_
    show own_Go p e below s _ _ _ (T0.setTop (mkF m 80 #[.val (.ref a1), .val (.ref a2)] [(.ref a2), (.int (la.getD 0 0))]))
    refine own_st (fun _ k => XS.iconst X0.here hx rfl (hb hby d7_80) k) ?_
    show own_Go p e below s _ _ _ (T0.setTop (mkF m 81 #[.val (.ref a1), .val (.ref a2)] [(.int (0 : Int32)), (.ref a2), (.int (la.getD 0 0))]))
    obtain ⟨c104, Ar104, q104, S104, M104, H104, U104⟩ := id V2
    have hi104 := inb_of (j := (0 : Int32)) S104 ⟨by decide, by decide⟩
    refine own_st (X0.iaload hx (j := (0 : Int32)) (v := (.int (lb.getD 0 0))) (by rw [e0]; exact Ar104.1) (State.isArrayOf_alike hZ.alike Ar104.2.1) Ar104.2.2 hi104 (H104.at hi104 (own_gm lb 0)) (g := (mkF m 81 #[.val (.ref a1), .val (.ref a2)] [(.int (0 : Int32)), (.ref a2), (.int (la.getD 0 0))])) rfl rfl (hb hby d7_81)) ?_
    show own_Go p e below s _ _ _ (T0.setTop (mkF m 82 #[.val (.ref a1), .val (.ref a2)] [(.int (lb.getD 0 0)), (.int (la.getD 0 0))]))
    by_cases c105 : (la.getD 0 0) < (lb.getD 0 0)
    · refine own_st (fun _ k => XS.icmpNo X0.here hx rfl (hb hby d7_82) rfl (tlt c105).2.1 k) ?_
      show own_Go p e below s _ _ _ (T0.setTop (mkF m 85 #[.val (.ref a1), .val (.ref a2)] []))
      refine own_st (fun _ k => XS.iconst X0.here hx rfl (hb hby d7_85) k) ?_
      show own_Go p e below s _ _ _ (T0.setTop (mkF m 86 #[.val (.ref a1), .val (.ref a2)] [(.int (-1 : Int32))]))
      refine own_st (fun _ k => XS.goto X0.here hx rfl (pc0 := 86) (pc' := 103) rfl (hb hby d7_86) (by decide) (by decide) k) ?_
      show own_Go p e below s _ _ _ (T0.setTop (mkF m 103 #[.val (.ref a1), .val (.ref a2)] [(.int (-1 : Int32))]))
      exact own_ret X0 hx hlk e0 hret rfl (Or.inl ⟨rfl, Or.inl rfl, _, rfl⟩) (hb hby d7_103) (by decide) (by decide) ⟨by unfold own_exp own_ln; rw [if_pos c102, if_pos c105], N0, rfl⟩
    · refine own_st (fun _ k => XS.icmpYes X0.here hx rfl (pc0 := 82) (pc' := 89) rfl (hb hby d7_82) rfl (flt c105).2.1 (by decide) (by decide) k) ?_
      show own_Go p e below s _ _ _ (T0.setTop (mkF m 89 #[.val (.ref a1), .val (.ref a2)] []))
      refine own_st (fun _ k => XS.aloadN X0.here hx rfl (hb hby d7_89) rfl rfl k) ?_
      show own_Go p e below s _ _ _ (T0.setTop (mkF m 90 #[.val (.ref a1), .val (.ref a2)] [(.ref a1)]))
      refine own_st (fun _ k => XS.iconst X0.here hx rfl (hb hby d7_90) k) ?_
      show own_Go p e below s _ _ _ (T0.setTop (mkF m 91 #[.val (.ref a1), .val (.ref a2)] [(.int (0 : Int32)), (.ref a1)]))
      obtain ⟨c106, Ar106, q106, S106, M106, H106, U106⟩ := id V1
      have hi106 := inb_of (j := (0 : Int32)) S106 ⟨by decide, by decide⟩
      refine own_st (X0.iaload hx (j := (0 : Int32)) (v := (.int (la.getD 0 0))) (by rw [e0]; exact Ar106.1) (State.isArrayOf_alike hZ.alike Ar106.2.1) Ar106.2.2 hi106 (H106.at hi106 (own_gm la 0)) (g := (mkF m 91 #[.val (.ref a1), .val (.ref a2)] [(.int (0 : Int32)), (.ref a1)])) rfl rfl (hb hby d7_91)) ?_
      show own_Go p e below s _ _ _ (T0.setTop (mkF m 92 #[.val (.ref a1), .val (.ref a2)] [(.int (la.getD 0 0))]))
      refine own_st (fun _ k => XS.aloadN X0.here hx rfl (hb hby d7_92) rfl rfl k) ?_
      show own_Go p e below s _ _ _ (T0.setTop (mkF m 93 #[.val (.ref a1), .val (.ref a2)] [(.ref a2), (.int (la.getD 0 0))]))
      refine own_st (fun _ k => XS.iconst X0.here hx rfl (hb hby d7_93) k) ?_
      show own_Go p e below s _ _ _ (T0.setTop (mkF m 94 #[.val (.ref a1), .val (.ref a2)] [(.int (0 : Int32)), (.ref a2), (.int (la.getD 0 0))]))
      obtain ⟨c107, Ar107, q107, S107, M107, H107, U107⟩ := id V2
      have hi107 := inb_of (j := (0 : Int32)) S107 ⟨by decide, by decide⟩
      refine own_st (X0.iaload hx (j := (0 : Int32)) (v := (.int (lb.getD 0 0))) (by rw [e0]; exact Ar107.1) (State.isArrayOf_alike hZ.alike Ar107.2.1) Ar107.2.2 hi107 (H107.at hi107 (own_gm lb 0)) (g := (mkF m 94 #[.val (.ref a1), .val (.ref a2)] [(.int (0 : Int32)), (.ref a2), (.int (la.getD 0 0))])) rfl rfl (hb hby d7_94)) ?_
      show own_Go p e below s _ _ _ (T0.setTop (mkF m 95 #[.val (.ref a1), .val (.ref a2)] [(.int (lb.getD 0 0)), (.int (la.getD 0 0))]))
      by_cases c108 : (lb.getD 0 0) < (la.getD 0 0)
      · refine own_st (fun _ k => XS.icmpNo X0.here hx rfl (hb hby d7_95) rfl (tlt c108).2.2.2 k) ?_
        show own_Go p e below s _ _ _ (T0.setTop (mkF m 98 #[.val (.ref a1), .val (.ref a2)] []))
        refine own_st (fun _ k => XS.iconst X0.here hx rfl (hb hby d7_98) k) ?_
        show own_Go p e below s _ _ _ (T0.setTop (mkF m 99 #[.val (.ref a1), .val (.ref a2)] [(.int (1 : Int32))]))
        refine own_st (fun _ k => XS.goto X0.here hx rfl (pc0 := 99) (pc' := 103) rfl (hb hby d7_99) (by decide) (by decide) k) ?_
        show own_Go p e below s _ _ _ (T0.setTop (mkF m 103 #[.val (.ref a1), .val (.ref a2)] [(.int (1 : Int32))]))
        exact own_ret X0 hx hlk e0 hret rfl (Or.inl ⟨rfl, Or.inl rfl, _, rfl⟩) (hb hby d7_103) (by decide) (by decide) ⟨by unfold own_exp own_ln; rw [if_pos c102, if_neg c105, if_pos c108], N0, rfl⟩
      · refine own_st (fun _ k => XS.icmpYes X0.here hx rfl (pc0 := 95) (pc' := 102) rfl (hb hby d7_95) rfl (flt c108).2.2.2 (by decide) (by decide) k) ?_
        show own_Go p e below s _ _ _ (T0.setTop (mkF m 102 #[.val (.ref a1), .val (.ref a2)] []))
        refine own_st (fun _ k => XS.iconst X0.here hx rfl (hb hby d7_102) k) ?_
        show own_Go p e below s _ _ _ (T0.setTop (mkF m 103 #[.val (.ref a1), .val (.ref a2)] [(.int (0 : Int32))]))
        exact own_ret X0 hx hlk e0 hret rfl (Or.inl ⟨rfl, Or.inl rfl, _, rfl⟩) (hb hby d7_103) (by decide) (by decide) ⟨by unfold own_exp own_ln; rw [if_pos c102, if_neg c105, if_neg c108], N0, rfl⟩
  · refine own_st (fun _ k => XS.icmpNo X0.here hx rfl (hb hby d7_4) rfl (flt c102).1 k) ?_
    show own_Go p e below s _ _ _ (T0.setTop (mkF m 7 #[.val (.ref a1), .val (.ref a2)] []))
    refine own_st (fun _ k => XS.aloadN X0.here hx rfl (hb hby d7_7) rfl rfl k) ?_
    show own_Go p e below s _ _ _ (T0.setTop (mkF m 8 #[.val (.ref a1), .val (.ref a2)] [(.ref a2)]))
    refine own_st (fun _ k => XS.iconst X0.here hx rfl (hb hby d7_8) k) ?_
    show own_Go p e below s _ _ _ (T0.setTop (mkF m 9 #[.val (.ref a1), .val (.ref a2)] [(.int (0 : Int32)), (.ref a2)]))
    obtain ⟨c109, Ar109, q109, S109, M109, H109, U109⟩ := id V2
    have hi109 := inb_of (j := (0 : Int32)) S109 ⟨by decide, by decide⟩
    refine own_st (X0.iaload hx (j := (0 : Int32)) (v := (.int (lb.getD 0 0))) (by rw [e0]; exact Ar109.1) (State.isArrayOf_alike hZ.alike Ar109.2.1) Ar109.2.2 hi109 (H109.at hi109 (own_gm lb 0)) (g := (mkF m 9 #[.val (.ref a1), .val (.ref a2)] [(.int (0 : Int32)), (.ref a2)])) rfl rfl (hb hby d7_9)) ?_
    show own_Go p e below s _ _ _ (T0.setTop (mkF m 10 #[.val (.ref a1), .val (.ref a2)] [(.int (lb.getD 0 0))]))
    refine own_st (fun _ k => XS.iconst X0.here hx rfl (hb hby d7_10) k) ?_
    show own_Go p e below s _ _ _ (T0.setTop (mkF m 11 #[.val (.ref a1), .val (.ref a2)] [(.int (1 : Int32)), (.int (lb.getD 0 0))]))
    by_cases c110 : (lb.getD 0 0) < (1 : Int32)
    · refine own_st (fun _ k => XS.icmpYes X0.here hx rfl (pc0 := 11) (pc' := 76) rfl (hb hby d7_11) rfl (tlt c110).1 (by decide) (by decide) k) ?_
      show own_Go p e below s _ _ _ (T0.setTop (mkF m 76 #[.val (.ref a1), .val (.ref a2)] []))
      refine own_st (fun _ k => XS.aloadN X0.here hx rfl (hb hby d7_76) rfl rfl k) ?_
      show own_Go p e below s _ _ _ (T0.setTop (mkF m 77 #[.val (.ref a1), .val (.ref a2)] [(.ref a1)]))
      refine own_st (fun _ k => XS.iconst X0.here hx rfl (hb hby d7_77) k) ?_
      show own_Go p e below s _ _ _ (T0.setTop (mkF m 78 #[.val (.ref a1), .val (.ref a2)] [(.int (0 : Int32)), (.ref a1)]))
      obtain ⟨c111, Ar111, q111, S111, M111, H111, U111⟩ := id V1
      have hi111 := inb_of (j := (0 : Int32)) S111 ⟨by decide, by decide⟩
      refine own_st (X0.iaload hx (j := (0 : Int32)) (v := (.int (la.getD 0 0))) (by rw [e0]; exact Ar111.1) (State.isArrayOf_alike hZ.alike Ar111.2.1) Ar111.2.2 hi111 (H111.at hi111 (own_gm la 0)) (g := (mkF m 78 #[.val (.ref a1), .val (.ref a2)] [(.int (0 : Int32)), (.ref a1)])) rfl rfl (hb hby d7_78)) ?_
      show own_Go p e below s _ _ _ (T0.setTop (mkF m 79 #[.val (.ref a1), .val (.ref a2)] [(.int (la.getD 0 0))]))
      refine own_st (fun _ k => XS.aloadN X0.here hx rfl (hb hby d7_79) rfl rfl k) ?_
      show own_Go p e below s _ _ _ (T0.setTop (mkF m 80 #[.val (.ref a1), .val (.ref a2)] [(.ref a2), (.int (la.getD 0 0))]))
      refine own_st (fun _ k => XS.iconst X0.here hx rfl (hb hby d7_80) k) ?_
      show own_Go p e below s _ _ _ (T0.setTop (mkF m 81 #[.val (.ref a1), .val (.ref a2)] [(.int (0 : Int32)), (.ref a2), (.int (la.getD 0 0))]))
      obtain ⟨c112, Ar112, q112, S112, M112, H112, U112⟩ := id V2
      have hi112 := inb_of (j := (0 : Int32)) S112 ⟨by decide, by decide⟩
      refine own_st (X0.iaload hx (j := (0 : Int32)) (v := (.int (lb.getD 0 0))) (by rw [e0]; exact Ar112.1) (State.isArrayOf_alike hZ.alike Ar112.2.1) Ar112.2.2 hi112 (H112.at hi112 (own_gm lb 0)) (g := (mkF m 81 #[.val (.ref a1), .val (.ref a2)] [(.int (0 : Int32)), (.ref a2), (.int (la.getD 0 0))])) rfl rfl (hb hby d7_81)) ?_
      show own_Go p e below s _ _ _ (T0.setTop (mkF m 82 #[.val (.ref a1), .val (.ref a2)] [(.int (lb.getD 0 0)), (.int (la.getD 0 0))]))
      by_cases c113 : (la.getD 0 0) < (lb.getD 0 0)
      · refine own_st (fun _ k => XS.icmpNo X0.here hx rfl (hb hby d7_82) rfl (tlt c113).2.1 k) ?_
        show own_Go p e below s _ _ _ (T0.setTop (mkF m 85 #[.val (.ref a1), .val (.ref a2)] []))
        refine own_st (fun _ k => XS.iconst X0.here hx rfl (hb hby d7_85) k) ?_
        show own_Go p e below s _ _ _ (T0.setTop (mkF m 86 #[.val (.ref a1), .val (.ref a2)] [(.int (-1 : Int32))]))
        refine own_st (fun _ k => XS.goto X0.here hx rfl (pc0 := 86) (pc' := 103) rfl (hb hby d7_86) (by decide) (by decide) k) ?_
        show own_Go p e below s _ _ _ (T0.setTop (mkF m 103 #[.val (.ref a1), .val (.ref a2)] [(.int (-1 : Int32))]))
        exact own_ret X0 hx hlk e0 hret rfl (Or.inl ⟨rfl, Or.inl rfl, _, rfl⟩) (hb hby d7_103) (by decide) (by decide) ⟨by unfold own_exp own_ln; rw [if_neg c102, if_pos c110, if_pos c113], N0, rfl⟩
      · refine own_st (fun _ k => XS.icmpYes X0.here hx rfl (pc0 := 82) (pc' := 89) rfl (hb hby d7_82) rfl (flt c113).2.1 (by decide) (by decide) k) ?_
        show own_Go p e below s _ _ _ (T0.setTop (mkF m 89 #[.val (.ref a1), .val (.ref a2)] []))
        refine own_st (fun _ k => XS.aloadN X0.here hx rfl (hb hby d7_89) rfl rfl k) ?_
        show own_Go p e below s _ _ _ (T0.setTop (mkF m 90 #[.val (.ref a1), .val (.ref a2)] [(.ref a1)]))
        refine own_st (fun _ k => XS.iconst X0.here hx rfl (hb hby d7_90) k) ?_
        show own_Go p e below s _ _ _ (T0.setTop (mkF m 91 #[.val (.ref a1), .val (.ref a2)] [(.int (0 : Int32)), (.ref a1)]))
        obtain ⟨c114, Ar114, q114, S114, M114, H114, U114⟩ := id V1
        have hi114 := inb_of (j := (0 : Int32)) S114 ⟨by decide, by decide⟩
        refine own_st (X0.iaload hx (j := (0 : Int32)) (v := (.int (la.getD 0 0))) (by rw [e0]; exact Ar114.1) (State.isArrayOf_alike hZ.alike Ar114.2.1) Ar114.2.2 hi114 (H114.at hi114 (own_gm la 0)) (g := (mkF m 91 #[.val (.ref a1), .val (.ref a2)] [(.int (0 : Int32)), (.ref a1)])) rfl rfl (hb hby d7_91)) ?_
        show own_Go p e below s _ _ _ (T0.setTop (mkF m 92 #[.val (.ref a1), .val (.ref a2)] [(.int (la.getD 0 0))]))
        refine own_st (fun _ k => XS.aloadN X0.here hx rfl (hb hby d7_92) rfl rfl k) ?_
        show own_Go p e below s _ _ _ (T0.setTop (mkF m 93 #[.val (.ref a1), .val (.ref a2)] [(.ref a2), (.int (la.getD 0 0))]))
        refine own_st (fun _ k => XS.iconst X0.here hx rfl (hb hby d7_93) k) ?_
        show own_Go p e below s _ _ _ (T0.setTop (mkF m 94 #[.val (.ref a1), .val (.ref a2)] [(.int (0 : Int32)), (.ref a2), (.int (la.getD 0 0))]))
        obtain ⟨c115, Ar115, q115, S115, M115, H115, U115⟩ := id V2
        have hi115 := inb_of (j := (0 : Int32)) S115 ⟨by decide, by decide⟩
        refine own_st (X0.iaload hx (j := (0 : Int32)) (v := (.int (lb.getD 0 0))) (by rw [e0]; exact Ar115.1) (State.isArrayOf_alike hZ.alike Ar115.2.1) Ar115.2.2 hi115 (H115.at hi115 (own_gm lb 0)) (g := (mkF m 94 #[.val (.ref a1), .val (.ref a2)] [(.int (0 : Int32)), (.ref a2), (.int (la.getD 0 0))])) rfl rfl (hb hby d7_94)) ?_
        show own_Go p e below s _ _ _ (T0.setTop (mkF m 95 #[.val (.ref a1), .val (.ref a2)] [(.int (lb.getD 0 0)), (.int (la.getD 0 0))]))
        by_cases c116 : (lb.getD 0 0) < (la.getD 0 0)
        · refine own_st (fun _ k => XS.icmpNo X0.here hx rfl (hb hby d7_95) rfl (tlt c116).2.2.2 k) ?_
          show own_Go p e below s _ _ _ (T0.setTop (mkF m 98 #[.val (.ref a1), .val (.ref a2)] []))
          refine own_st (fun _ k => XS.iconst X0.here hx rfl (hb hby d7_98) k) ?_
          show own_Go p e below s _ _ _ (T0.setTop (mkF m 99 #[.val (.ref a1), .val (.ref a2)] [(.int (1 : Int32))]))
          refine own_st (fun _ k => XS.goto X0.here hx rfl (pc0 := 99) (pc' := 103) rfl (hb hby d7_99) (by decide) (by decide) k) ?_
          show own_Go p e below s _ _ _ (T0.setTop (mkF m 103 #[.val (.ref a1), .val (.ref a2)] [(.int (1 : Int32))]))
          exact own_ret X0 hx hlk e0 hret rfl (Or.inl ⟨rfl, Or.inl rfl, _, rfl⟩) (hb hby d7_103) (by decide) (by decide) ⟨by unfold own_exp own_ln; rw [if_neg c102, if_pos c110, if_neg c113, if_pos c116], N0, rfl⟩
        · refine own_st (fun _ k => XS.icmpYes X0.here hx rfl (pc0 := 95) (pc' := 102) rfl (hb hby d7_95) rfl (flt c116).2.2.2 (by decide) (by decide) k) ?_
          show own_Go p e below s _ _ _ (T0.setTop (mkF m 102 #[.val (.ref a1), .val (.ref a2)] []))
          refine own_st (fun _ k => XS.iconst X0.here hx rfl (hb hby d7_102) k) ?_
          show own_Go p e below s _ _ _ (T0.setTop (mkF m 103 #[.val (.ref a1), .val (.ref a2)] [(.int (0 : Int32))]))
          exact own_ret X0 hx hlk e0 hret rfl (Or.inl ⟨rfl, Or.inl rfl, _, rfl⟩) (hb hby d7_103) (by decide) (by decide) ⟨by unfold own_exp own_ln; rw [if_neg c102, if_pos c110, if_neg c113, if_neg c116], N0, rfl⟩
    · refine own_st (fun _ k => XS.icmpNo X0.here hx rfl (hb hby d7_11) rfl (flt c110).1 k) ?_
      show own_Go p e below s _ _ _ (T0.setTop (mkF m 14 #[.val (.ref a1), .val (.ref a2)] []))
      refine own_st (fun _ k => XS.aloadN X0.here hx rfl (hb hby d7_14) rfl rfl k) ?_
      show own_Go p e below s _ _ _ (T0.setTop (mkF m 15 #[.val (.ref a1), .val (.ref a2)] [(.ref a1)]))
      refine own_st (fun _ k => XS.iconst X0.here hx rfl (hb hby d7_15) k) ?_
      show own_Go p e below s _ _ _ (T0.setTop (mkF m 16 #[.val (.ref a1), .val (.ref a2)] [(.int (1 : Int32)), (.ref a1)]))
      obtain ⟨c117, Ar117, q117, S117, M117, H117, U117⟩ := id V1
      have hi117 := inb_of (j := (1 : Int32)) S117 ⟨by decide, by decide⟩
      refine own_st (X0.iaload hx (j := (1 : Int32)) (v := (.int (la.getD 1 0))) (by rw [e0]; exact Ar117.1) (State.isArrayOf_alike hZ.alike Ar117.2.1) Ar117.2.2 hi117 (H117.at hi117 (own_gm la 1)) (g := (mkF m 16 #[.val (.ref a1), .val (.ref a2)] [(.int (1 : Int32)), (.ref a1)])) rfl rfl (hb hby d7_16)) ?_
      show own_Go p e below s _ _ _ (T0.setTop (mkF m 17 #[.val (.ref a1), .val (.ref a2)] [(.int (la.getD 1 0))]))
      refine own_st (fun _ k => XS.aloadN X0.here hx rfl (hb hby d7_17) rfl rfl k) ?_
      show own_Go p e below s _ _ _ (T0.setTop (mkF m 18 #[.val (.ref a1), .val (.ref a2)] [(.ref a2), (.int (la.getD 1 0))]))
      refine own_st (fun _ k => XS.iconst X0.here hx rfl (hb hby d7_18) k) ?_
      show own_Go p e below s _ _ _ (T0.setTop (mkF m 19 #[.val (.ref a1), .val (.ref a2)] [(.int (1 : Int32)), (.ref a2), (.int (la.getD 1 0))]))
      obtain ⟨c118, Ar118, q118, S118, M118, H118, U118⟩ := id V2
      have hi118 := inb_of (j := (1 : Int32)) S118 ⟨by decide, by decide⟩
      refine own_st (X0.iaload hx (j := (1 : Int32)) (v := (.int (lb.getD 1 0))) (by rw [e0]; exact Ar118.1) (State.isArrayOf_alike hZ.alike Ar118.2.1) Ar118.2.2 hi118 (H118.at hi118 (own_gm lb 1)) (g := (mkF m 19 #[.val (.ref a1), .val (.ref a2)] [(.int (1 : Int32)), (.ref a2), (.int (la.getD 1 0))])) rfl rfl (hb hby d7_19)) ?_
      show own_Go p e below s _ _ _ (T0.setTop (mkF m 20 #[.val (.ref a1), .val (.ref a2)] [(.int (lb.getD 1 0)), (.int (la.getD 1 0))]))
      by_cases c119 : (la.getD 1 0) = (lb.getD 1 0)
      · refine own_st (fun _ k => XS.icmpYes X0.here hx rfl (pc0 := 20) (pc' := 38) rfl (hb hby d7_20) rfl (teq c119).1 (by decide) (by decide) k) ?_
        show own_Go p e below s _ _ _ (T0.setTop (mkF m 38 #[.val (.ref a1), .val (.ref a2)] []))
        refine own_st (fun _ k => XS.aloadN X0.here hx rfl (hb hby d7_38) rfl rfl k) ?_
        show own_Go p e below s _ _ _ (T0.setTop (mkF m 39 #[.val (.ref a1), .val (.ref a2)] [(.ref a1)]))
        refine own_st (fun _ k => XS.iconst X0.here hx rfl (hb hby d7_39) k) ?_
        show own_Go p e below s _ _ _ (T0.setTop (mkF m 40 #[.val (.ref a1), .val (.ref a2)] [(.int (0 : Int32)), (.ref a1)]))
        obtain ⟨c120, Ar120, q120, S120, M120, H120, U120⟩ := id V1
        have hi120 := inb_of (j := (0 : Int32)) S120 ⟨by decide, by decide⟩
        refine own_st (X0.iaload hx (j := (0 : Int32)) (v := (.int (la.getD 0 0))) (by rw [e0]; exact Ar120.1) (State.isArrayOf_alike hZ.alike Ar120.2.1) Ar120.2.2 hi120 (H120.at hi120 (own_gm la 0)) (g := (mkF m 40 #[.val (.ref a1), .val (.ref a2)] [(.int (0 : Int32)), (.ref a1)])) rfl rfl (hb hby d7_40)) ?_
        show own_Go p e below s _ _ _ (T0.setTop (mkF m 41 #[.val (.ref a1), .val (.ref a2)] [(.int (la.getD 0 0))]))
        refine own_st (fun _ k => XS.iconst X0.here hx rfl (hb hby d7_41) k) ?_
        show own_Go p e below s _ _ _ (T0.setTop (mkF m 42 #[.val (.ref a1), .val (.ref a2)] [(.int (2 : Int32)), (.int (la.getD 0 0))]))
        by_cases c121 : (la.getD 0 0) < (2 : Int32)
        · refine own_st (fun _ k => XS.icmpYes X0.here hx rfl (pc0 := 42) (pc' := 76) rfl (hb hby d7_42) rfl (tlt c121).1 (by decide) (by decide) k) ?_
          show own_Go p e below s _ _ _ (T0.setTop (mkF m 76 #[.val (.ref a1), .val (.ref a2)] []))
          refine own_st (fun _ k => XS.aloadN X0.here hx rfl (hb hby d7_76) rfl rfl k) ?_
          show own_Go p e below s _ _ _ (T0.setTop (mkF m 77 #[.val (.ref a1), .val (.ref a2)] [(.ref a1)]))
          refine own_st (fun _ k => XS.iconst X0.here hx rfl (hb hby d7_77) k) ?_
          show own_Go p e below s _ _ _ (T0.setTop (mkF m 78 #[.val (.ref a1), .val (.ref a2)] [(.int (0 : Int32)), (.ref a1)]))
          obtain ⟨c122, Ar122, q122, S122, M122, H122, U122⟩ := id V1
          have hi122 := inb_of (j := (0 : Int32)) S122 ⟨by decide, by decide⟩
          refine own_st (X0.iaload hx (j := (0 : Int32)) (v := (.int (la.getD 0 0))) (by rw [e0]; exact Ar122.1) (State.isArrayOf_alike hZ.alike Ar122.2.1) Ar122.2.2 hi122 (H122.at hi122 (own_gm la 0)) (g := (mkF m 78 #[.val (.ref a1), .val (.ref a2)] [(.int (0 : Int32)), (.ref a1)])) rfl rfl (hb hby d7_78)) ?_
          show own_Go p e below s _ _ _ (T0.setTop (mkF m 79 #[.val (.ref a1), .val (.ref a2)] [(.int (la.getD 0 0))]))
          refine own_st (fun _ k => XS.aloadN X0.here hx rfl (hb hby d7_79) rfl rfl k) ?_
          show own_Go p e below s _ _ _ (T0.setTop (mkF m 80 #[.val (.ref a1), .val (.ref a2)] [(.ref a2), (.int (la.getD 0 0))]))
          refine own_st (fun _ k => XS.iconst X0.here hx rfl (hb hby d7_80) k) ?_
          show own_Go p e below s _ _ _ (T0.setTop (mkF m 81 #[.val (.ref a1), .val (.ref a2)] [(.int (0 : Int32)), (.ref a2), (.int (la.getD 0 0))]))
          obtain ⟨c123, Ar123, q123, S123, M123, H123, U123⟩ := id V2
          have hi123 := inb_of (j := (0 : Int32)) S123 ⟨by decide, by decide⟩
          refine own_st (X0.iaload hx (j := (0 : Int32)) (v := (.int (lb.getD 0 0))) (by rw [e0]; exact Ar123.1) (State.isArrayOf_alike hZ.alike Ar123.2.1) Ar123.2.2 hi123 (H123.at hi123 (own_gm lb 0)) (g := (mkF m 81 #[.val (.ref a1), .val (.ref a2)] [(.int (0 : Int32)), (.ref a2), (.int (la.getD 0 0))])) rfl rfl (hb hby d7_81)) ?_
          show own_Go p e below s _ _ _ (T0.setTop (mkF m 82 #[.val (.ref a1), .val (.ref a2)] [(.int (lb.getD 0 0)), (.int (la.getD 0 0))]))
          by_cases c124 : (la.getD 0 0) < (lb.getD 0 0)
          · refine own_st (fun _ k => XS.icmpNo X0.here hx rfl (hb hby d7_82) rfl (tlt c124).2.1 k) ?_
            show own_Go p e below s _ _ _ (T0.setTop (mkF m 85 #[.val (.ref a1), .val (.ref a2)] []))
            refine own_st (fun _ k => XS.iconst X0.here hx rfl (hb hby d7_85) k) ?_
            show own_Go p e below s _ _ _ (T0.setTop (mkF m 86 #[.val (.ref a1), .val (.ref a2)] [(.int (-1 : Int32))]))
            refine own_st (fun _ k => XS.goto X0.here hx rfl (pc0 := 86) (pc' := 103) rfl (hb hby d7_86) (by decide) (by decide) k) ?_
            show own_Go p e below s _ _ _ (T0.setTop (mkF m 103 #[.val (.ref a1), .val (.ref a2)] [(.int (-1 : Int32))]))
            exact own_ret X0 hx hlk e0 hret rfl (Or.inl ⟨rfl, Or.inl rfl, _, rfl⟩) (hb hby d7_103) (by decide) (by decide) ⟨by unfold own_exp own_ln; rw [if_neg c102, if_neg c110, if_pos c119, if_pos c121, if_pos c124], N0, rfl⟩
          · refine own_st (fun _ k => XS.icmpYes X0.here hx rfl (pc0 := 82) (pc' := 89) rfl (hb hby d7_82) rfl (flt c124).2.1 (by decide) (by decide) k) ?_
            show own_Go p e below s _ _ _ (T0.setTop (mkF m 89 #[.val (.ref a1), .val (.ref a2)] []))
            refine own_st (fun _ k => XS.aloadN X0.here hx rfl (hb hby d7_89) rfl rfl k) ?_
            show own_Go p e below s _ _ _ (T0.setTop (mkF m 90 #[.val (.ref a1), .val (.ref a2)] [(.ref a1)]))
            refine own_st (fun _ k => XS.iconst X0.here hx rfl (hb hby d7_90) k) ?_
            show own_Go p e below s _ _ _ (T0.setTop (mkF m 91 #[.val (.ref a1), .val (.ref a2)] [(.int (0 : Int32)), (.ref a1)]))
            obtain ⟨c125, Ar125, q125, S125, M125, H125, U125⟩ := id V1
            have hi125 := inb_of (j := (0 : Int32)) S125 ⟨by decide, by decide⟩
            refine own_st (X0.iaload hx (j := (0 : Int32)) (v := (.int (la.getD 0 0))) (by rw [e0]; exact Ar125.1) (State.isArrayOf_alike hZ.alike Ar125.2.1) Ar125.2.2 hi125 (H125.at hi125 (own_gm la 0)) (g := (mkF m 91 #[.val (.ref a1), .val (.ref a2)] [(.int (0 : Int32)), (.ref a1)])) rfl rfl (hb hby d7_91)) ?_
            show own_Go p e below s _ _ _ (T0.setTop (mkF m 92 #[.val (.ref a1), .val (.ref a2)] [(.int (la.getD 0 0))]))
            refine own_st (fun _ k => XS.aloadN X0.here hx rfl (hb hby d7_92) rfl rfl k) ?_
            show own_Go p e below s _ _ _ (T0.setTop (mkF m 93 #[.val (.ref a1), .val (.ref a2)] [(.ref a2), (.int (la.getD 0 0))]))
            refine own_st (fun _ k => XS.iconst X0.here hx rfl (hb hby d7_93) k) ?_
            show own_Go p e below s _ _ _ (T0.setTop (mkF m 94 #[.val (.ref a1), .val (.ref a2)] [(.int (0 : Int32)), (.ref a2), (.int (la.getD 0 0))]))
            obtain ⟨c126, Ar126, q126, S126, M126, H126, U126⟩ := id V2
            have hi126 := inb_of (j := (0 : Int32)) S126 ⟨by decide, by decide⟩
            refine own_st (X0.iaload hx (j := (0 : Int32)) (v := (.int (lb.getD 0 0))) (by rw [e0]; exact Ar126.1) (State.isArrayOf_alike hZ.alike Ar126.2.1) Ar126.2.2 hi126 (H126.at hi126 (own_gm lb 0)) (g := (mkF m 94 #[.val (.ref a1), .val (.ref a2)] [(.int (0 : Int32)), (.ref a2), (.int (la.getD 0 0))])) rfl rfl (hb hby d7_94)) ?_
            show own_Go p e below s _ _ _ (T0.setTop (mkF m 95 #[.val (.ref a1), .val (.ref a2)] [(.int (lb.getD 0 0)), (.int (la.getD 0 0))]))
            by_cases c127 : (lb.getD 0 0) < (la.getD 0 0)
            · refine own_st (fun _ k => XS.icmpNo X0.here hx rfl (hb hby d7_95) rfl (tlt c127).2.2.2 k) ?_
              show own_Go p e below s _ _ _ (T0.setTop (mkF m 98 #[.val (.ref a1), .val (.ref a2)] []))
              refine own_st (fun _ k => XS.iconst X0.here hx rfl (hb hby d7_98) k) ?_
              show own_Go p e below s _ _ _ (T0.setTop (mkF m 99 #[.val (.ref a1), .val (.ref a2)] [(.int (1 : Int32))]))
              refine own_st (fun _ k => XS.goto X0.here hx rfl (pc0 := 99) (pc' := 103) rfl (hb hby d7_99) (by decide) (by decide) k) ?_
              show own_Go p e below s _ _ _ (T0.setTop (mkF m 103 #[.val (.ref a1), .val (.ref a2)] [(.int (1 : Int32))]))
              exact own_ret X0 hx hlk e0 hret rfl (Or.inl ⟨rfl, Or.inl rfl, _, rfl⟩) (hb hby d7_103) (by decide) (by decide) ⟨by unfold own_exp own_ln; rw [if_neg c102, if_neg c110, if_pos c119, if_pos c121, if_neg c124, if_pos c127], N0, rfl⟩
            · refine own_st (fun _ k => XS.icmpYes X0.here hx rfl (pc0 := 95) (pc' := 102) rfl (hb hby d7_95) rfl (flt c127).2.2.2 (by decide) (by decide) k) ?_
              show own_Go p e below s _ _ _ (T0.setTop (mkF m 102 #[.val (.ref a1), .val (.ref a2)] []))
              refine own_st (fun _ k => XS.iconst X0.here hx rfl (hb hby d7_102) k) ?_
              show own_Go p e below s _ _ _ (T0.setTop (mkF m 103 #[.val (.ref a1), .val (.ref a2)] [(.int (0 : Int32))]))
              exact own_ret X0 hx hlk e0 hret rfl (Or.inl ⟨rfl, Or.inl rfl, _, rfl⟩) (hb hby d7_103) (by decide) (by decide) ⟨by unfold own_exp own_ln; rw [if_neg c102, if_neg c110, if_pos c119, if_pos c121, if_neg c124, if_neg c127], N0, rfl⟩
        · refine own_st (fun _ k => XS.icmpNo X0.here hx rfl (hb hby d7_42) rfl (flt c121).1 k) ?_
          show own_Go p e below s _ _ _ (T0.setTop (mkF m 45 #[.val (.ref a1), .val (.ref a2)] []))
          refine own_st (fun _ k => XS.aloadN X0.here hx rfl (hb hby d7_45) rfl rfl k) ?_
          show own_Go p e below s _ _ _ (T0.setTop (mkF m 46 #[.val (.ref a1), .val (.ref a2)] [(.ref a2)]))
          refine own_st (fun _ k => XS.iconst X0.here hx rfl (hb hby d7_46) k) ?_
          show own_Go p e below s _ _ _ (T0.setTop (mkF m 47 #[.val (.ref a1), .val (.ref a2)] [(.int (0 : Int32)), (.ref a2)]))
          obtain ⟨c128, Ar128, q128, S128, M128, H128, U128⟩ := id V2
          have hi128 := inb_of (j := (0 : Int32)) S128 ⟨by decide, by decide⟩
          refine own_st (X0.iaload hx (j := (0 : Int32)) (v := (.int (lb.getD 0 0))) (by rw [e0]; exact Ar128.1) (State.isArrayOf_alike hZ.alike Ar128.2.1) Ar128.2.2 hi128 (H128.at hi128 (own_gm lb 0)) (g := (mkF m 47 #[.val (.ref a1), .val (.ref a2)] [(.int (0 : Int32)), (.ref a2)])) rfl rfl (hb hby d7_47)) ?_
          show own_Go p e below s _ _ _ (T0.setTop (mkF m 48 #[.val (.ref a1), .val (.ref a2)] [(.int (lb.getD 0 0))]))
          refine own_st (fun _ k => XS.iconst X0.here hx rfl (hb hby d7_48) k) ?_
          show own_Go p e below s _ _ _ (T0.setTop (mkF m 49 #[.val (.ref a1), .val (.ref a2)] [(.int (2 : Int32)), (.int (lb.getD 0 0))]))
          by_cases c129 : (lb.getD 0 0) < (2 : Int32)
          · refine own_st (fun _ k => XS.icmpYes X0.here hx rfl (pc0 := 49) (pc' := 76) rfl (hb hby d7_49) rfl (tlt c129).1 (by decide) (by decide) k) ?_
            show own_Go p e below s _ _ _ (T0.setTop (mkF m 76 #[.val (.ref a1), .val (.ref a2)] []))
            refine own_st (fun _ k => XS.aloadN X0.here hx rfl (hb hby d7_76) rfl rfl k) ?_
            show own_Go p e below s _ _ _ (T0.setTop (mkF m 77 #[.val (.ref a1), .val (.ref a2)] [(.ref a1)]))
            refine own_st (fun _ k => XS.iconst X0.here hx rfl (hb hby d7_77) k) ?_
            show own_Go p e below s _ _ _ (T0.setTop (mkF m 78 #[.val (.ref a1), .val (.ref a2)] [(.int (0 : Int32)), (.ref a1)]))
            obtain ⟨c130, Ar130, q130, S130, M130, H130, U130⟩ := id V1
            have hi130 := inb_of (j := (0 : Int32)) S130 ⟨by decide, by decide⟩
            refine own_st (X0.iaload hx (j := (0 : Int32)) (v := (.int (la.getD 0 0))) (by rw [e0]; exact Ar130.1) (State.isArrayOf_alike hZ.alike Ar130.2.1) Ar130.2.2 hi130 (H130.at hi130 (own_gm la 0)) (g := (mkF m 78 #[.val (.ref a1), .val (.ref a2)] [(.int (0 : Int32)), (.ref a1)])) rfl rfl (hb hby d7_78)) ?_
            show own_Go p e below s _ _ _ (T0.setTop (mkF m 79 #[.val (.ref a1), .val (.ref a2)] [(.int (la.getD 0 0))]))
            refine own_st (fun _ k => XS.aloadN X0.here hx rfl (hb hby d7_79) rfl rfl k) ?_
            show own_Go p e below s _ _ _ (T0.setTop (mkF m 80 #[.val (.ref a1), .val (.ref a2)] [(.ref a2), (.int (la.getD 0 0))]))
            refine own_st (fun _ k => XS.iconst X0.here hx rfl (hb hby d7_80) k) ?_
            show own_Go p e below s _ _ _ (T0.setTop (mkF m 81 #[.val (.ref a1), .val (.ref a2)] [(.int (0 : Int32)), (.ref a2), (.int (la.getD 0 0))]))
            obtain ⟨c131, Ar131, q131, S131, M131, H131, U131⟩ := id V2
            have hi131 := inb_of (j := (0 : Int32)) S131 ⟨by decide, by decide⟩
            refine own_st (X0.iaload hx (j := (0 : Int32)) (v := (.int (lb.getD 0 0))) (by rw [e0]; exact Ar131.1) (State.isArrayOf_alike hZ.alike Ar131.2.1) Ar131.2.2 hi131 (H131.at hi131 (own_gm lb 0)) (g := (mkF m 81 #[.val (.ref a1), .val (.ref a2)] [(.int (0 : Int32)), (.ref a2), (.int (la.getD 0 0))])) rfl rfl (hb hby d7_81)) ?_
            show own_Go p e below s _ _ _ (T0.setTop (mkF m 82 #[.val (.ref a1), .val (.ref a2)] [(.int (lb.getD 0 0)), (.int (la.getD 0 0))]))
            by_cases c132 : (la.getD 0 0) < (lb.getD 0 0)
            · refine own_st (fun _ k => XS.icmpNo X0.here hx rfl (hb hby d7_82) rfl (tlt c132).2.1 k) ?_
              show own_Go p e below s _ _ _ (T0.setTop (mkF m 85 #[.val (.ref a1), .val (.ref a2)] []))
              refine own_st (fun _ k => XS.iconst X0.here hx rfl (hb hby d7_85) k) ?_
              show own_Go p e below s _ _ _ (T0.setTop (mkF m 86 #[.val (.ref a1), .val (.ref a2)] [(.int (-1 : Int32))]))
              refine own_st (fun _ k => XS.goto X0.here hx rfl (pc0 := 86) (pc' := 103) rfl (hb hby d7_86) (by decide) (by decide) k) ?_
              show own_Go p e below s _ _ _ (T0.setTop (mkF m 103 #[.val (.ref a1), .val (.ref a2)] [(.int (-1 : Int32))]))
              exact own_ret X0 hx hlk e0 hret rfl (Or.inl ⟨rfl, Or.inl rfl, _, rfl⟩) (hb hby d7_103) (by decide) (by decide) ⟨by unfold own_exp own_ln; rw [if_neg c102, if_neg c110, if_pos c119, if_neg c121, if_pos c129, if_pos c132], N0, rfl⟩
            · refine own_st (fun _ k => XS.icmpYes X0.here hx rfl (pc0 := 82) (pc' := 89) rfl (hb hby d7_82) rfl (flt c132).2.1 (by decide) (by decide) k) ?_
              show own_Go p e below s _ _ _ (T0.setTop (mkF m 89 #[.val (.ref a1), .val (.ref a2)] []))
              refine own_st (fun _ k => XS.aloadN X0.here hx rfl (hb hby d7_89) rfl rfl k) ?_
              show own_Go p e below s _ _ _ (T0.setTop (mkF m 90 #[.val (.ref a1), .val (.ref a2)] [(.ref a1)]))
              refine own_st (fun _ k => XS.iconst X0.here hx rfl (hb hby d7_90) k) ?_
              show own_Go p e below s _ _ _ (T0.setTop (mkF m 91 #[.val (.ref a1), .val (.ref a2)] [(.int (0 : Int32)), (.ref a1)]))
              obtain ⟨c133, Ar133, q133, S133, M133, H133, U133⟩ := id V1
              have hi133 := inb_of (j := (0 : Int32)) S133 ⟨by decide, by decide⟩
              refine own_st (X0.iaload hx (j := (0 : Int32)) (v := (.int (la.getD 0 0))) (by rw [e0]; exact Ar133.1) (State.isArrayOf_alike hZ.alike Ar133.2.1) Ar133.2.2 hi133 (H133.at hi133 (own_gm la 0)) (g := (mkF m 91 #[.val (.ref a1), .val (.ref a2)] [(.int (0 : Int32)), (.ref a1)])) rfl rfl (hb hby d7_91)) ?_
              show own_Go p e below s _ _ _ (T0.setTop (mkF m 92 #[.val (.ref a1), .val (.ref a2)] [(.int (la.getD 0 0))]))
              refine own_st (fun _ k => XS.aloadN X0.here hx rfl (hb hby d7_92) rfl rfl k) ?_
              show own_Go p e below s _ _ _ (T0.setTop (mkF m 93 #[.val (.ref a1), .val (.ref a2)] [(.ref a2), (.int (la.getD 0 0))]))
              refine own_st (fun _ k => XS.iconst X0.here hx rfl (hb hby d7_93) k) ?_
              show own_Go p e below s _ _ _ (T0.setTop (mkF m 94 #[.val (.ref a1), .val (.ref a2)] [(.int (0 : Int32)), (.ref a2), (.int (la.getD 0 0))]))
              obtain ⟨c134, Ar134, q134, S134, M134, H134, U134⟩ := id V2
              have hi134 := inb_of (j := (0 : Int32)) S134 ⟨by decide, by decide⟩
              refine own_st (X0.iaload hx (j := (0 : Int32)) (v := (.int (lb.getD 0 0))) (by rw [e0]; exact Ar134.1) (State.isArrayOf_alike hZ.alike Ar134.2.1) Ar134.2.2 hi134 (H134.at hi134 (own_gm lb 0)) (g := (mkF m 94 #[.val (.ref a1), .val (.ref a2)] [(.int (0 : Int32)), (.ref a2), (.int (la.getD 0 0))])) rfl rfl (hb hby d7_94)) ?_
              show own_Go p e below s _ _ _ (T0.setTop (mkF m 95 #[.val (.ref a1), .val (.ref a2)] [(.int (lb.getD 0 0)), (.int (la.getD 0 0))]))
              by_cases c135 : (lb.getD 0 0) < (la.getD 0 0)
              · refine own_st (fun _ k => XS.icmpNo X0.here hx rfl (hb hby d7_95) rfl (tlt c135).2.2.2 k) ?_
                show own_Go p e below s _ _ _ (T0.setTop (mkF m 98 #[.val (.ref a1), .val (.ref a2)] []))
                refine own_st (fun _ k => XS.iconst X0.here hx rfl (hb hby d7_98) k) ?_
                show own_Go p e below s _ _ _ (T0.setTop (mkF m 99 #[.val (.ref a1), .val (.ref a2)] [(.int (1 : Int32))]))
                refine own_st (fun _ k => XS.goto X0.here hx rfl (pc0 := 99) (pc' := 103) rfl (hb hby d7_99) (by decide) (by decide) k) ?_
                show own_Go p e below s _ _ _ (T0.setTop (mkF m 103 #[.val (.ref a1), .val (.ref a2)] [(.int (1 : Int32))]))
                exact own_ret X0 hx hlk e0 hret rfl (Or.inl ⟨rfl, Or.inl rfl, _, rfl⟩) (hb hby d7_103) (by decide) (by decide) ⟨by unfold own_exp own_ln; rw [if_neg c102, if_neg c110, if_pos c119, if_neg c121, if_pos c129, if_neg c132, if_pos c135], N0, rfl⟩
              · refine own_st (fun _ k => XS.icmpYes X0.here hx rfl (pc0 := 95) (pc' := 102) rfl (hb hby d7_95) rfl (flt c135).2.2.2 (by decide) (by decide) k) ?_
                show own_Go p e below s _ _ _ (T0.setTop (mkF m 102 #[.val (.ref a1), .val (.ref a2)] []))
                refine own_st (fun _ k => XS.iconst X0.here hx rfl (hb hby d7_102) k) ?_
                show own_Go p e below s _ _ _ (T0.setTop (mkF m 103 #[.val (.ref a1), .val (.ref a2)] [(.int (0 : Int32))]))
                exact own_ret X0 hx hlk e0 hret rfl (Or.inl ⟨rfl, Or.inl rfl, _, rfl⟩) (hb hby d7_103) (by decide) (by decide) ⟨by unfold own_exp own_ln; rw [if_neg c102, if_neg c110, if_pos c119, if_neg c121, if_pos c129, if_neg c132, if_neg c135], N0, rfl⟩
          · refine own_st (fun _ k => XS.icmpNo X0.here hx rfl (hb hby d7_49) rfl (flt c129).1 k) ?_
            show own_Go p e below s _ _ _ (T0.setTop (mkF m 52 #[.val (.ref a1), .val (.ref a2)] []))
            refine own_st (fun _ k => XS.aloadN X0.here hx rfl (hb hby d7_52) rfl rfl k) ?_
            show own_Go p e below s _ _ _ (T0.setTop (mkF m 53 #[.val (.ref a1), .val (.ref a2)] [(.ref a1)]))
            refine own_st (fun _ k => XS.iconst X0.here hx rfl (hb hby d7_53) k) ?_
            show own_Go p e below s _ _ _ (T0.setTop (mkF m 54 #[.val (.ref a1), .val (.ref a2)] [(.int (2 : Int32)), (.ref a1)]))
            obtain ⟨c136, Ar136, q136, S136, M136, H136, U136⟩ := id V1
            have hi136 := inb_of (j := (2 : Int32)) S136 ⟨by decide, by decide⟩
            refine own_st (X0.iaload hx (j := (2 : Int32)) (v := (.int (la.getD 2 0))) (by rw [e0]; exact Ar136.1) (State.isArrayOf_alike hZ.alike Ar136.2.1) Ar136.2.2 hi136 (H136.at hi136 (own_gm la 2)) (g := (mkF m 54 #[.val (.ref a1), .val (.ref a2)] [(.int (2 : Int32)), (.ref a1)])) rfl rfl (hb hby d7_54)) ?_
            show own_Go p e below s _ _ _ (T0.setTop (mkF m 55 #[.val (.ref a1), .val (.ref a2)] [(.int (la.getD 2 0))]))
            refine own_st (fun _ k => XS.aloadN X0.here hx rfl (hb hby d7_55) rfl rfl k) ?_
            show own_Go p e below s _ _ _ (T0.setTop (mkF m 56 #[.val (.ref a1), .val (.ref a2)] [(.ref a2), (.int (la.getD 2 0))]))
            refine own_st (fun _ k => XS.iconst X0.here hx rfl (hb hby d7_56) k) ?_
            show own_Go p e below s _ _ _ (T0.setTop (mkF m 57 #[.val (.ref a1), .val (.ref a2)] [(.int (2 : Int32)), (.ref a2), (.int (la.getD 2 0))]))
            obtain ⟨c137, Ar137, q137, S137, M137, H137, U137⟩ := id V2
            have hi137 := inb_of (j := (2 : Int32)) S137 ⟨by decide, by decide⟩
            refine own_st (X0.iaload hx (j := (2 : Int32)) (v := (.int (lb.getD 2 0))) (by rw [e0]; exact Ar137.1) (State.isArrayOf_alike hZ.alike Ar137.2.1) Ar137.2.2 hi137 (H137.at hi137 (own_gm lb 2)) (g := (mkF m 57 #[.val (.ref a1), .val (.ref a2)] [(.int (2 : Int32)), (.ref a2), (.int (la.getD 2 0))])) rfl rfl (hb hby d7_57)) ?_
            show own_Go p e below s _ _ _ (T0.setTop (mkF m 58 #[.val (.ref a1), .val (.ref a2)] [(.int (lb.getD 2 0)), (.int (la.getD 2 0))]))
            by_cases c138 : (la.getD 2 0) = (lb.getD 2 0)
            · refine own_st (fun _ k => XS.icmpYes X0.here hx rfl (pc0 := 58) (pc' := 76) rfl (hb hby d7_58) rfl (teq c138).1 (by decide) (by decide) k) ?_
              show own_Go p e below s _ _ _ (T0.setTop (mkF m 76 #[.val (.ref a1), .val (.ref a2)] []))
              refine own_st (fun _ k => XS.aloadN X0.here hx rfl (hb hby d7_76) rfl rfl k) ?_
              show own_Go p e below s _ _ _ (T0.setTop (mkF m 77 #[.val (.ref a1), .val (.ref a2)] [(.ref a1)]))
              refine own_st (fun _ k => XS.iconst X0.here hx rfl (hb hby d7_77) k) ?_
              show own_Go p e below s _ _ _ (T0.setTop (mkF m 78 #[.val (.ref a1), .val (.ref a2)] [(.int (0 : Int32)), (.ref a1)]))
              obtain ⟨c139, Ar139, q139, S139, M139, H139, U139⟩ := id V1
              have hi139 := inb_of (j := (0 : Int32)) S139 ⟨by decide, by decide⟩
              refine own_st (X0.iaload hx (j := (0 : Int32)) (v := (.int (la.getD 0 0))) (by rw [e0]; exact Ar139.1) (State.isArrayOf_alike hZ.alike Ar139.2.1) Ar139.2.2 hi139 (H139.at hi139 (own_gm la 0)) (g := (mkF m 78 #[.val (.ref a1), .val (.ref a2)] [(.int (0 : Int32)), (.ref a1)])) rfl rfl (hb hby d7_78)) ?_
              show own_Go p e below s _ _ _ (T0.setTop (mkF m 79 #[.val (.ref a1), .val (.ref a2)] [(.int (la.getD 0 0))]))
              refine own_st (fun _ k => XS.aloadN X0.here hx rfl (hb hby d7_79) rfl rfl k) ?_
              show own_Go p e below s _ _ _ (T0.setTop (mkF m 80 #[.val (.ref a1), .val (.ref a2)] [(.ref a2), (.int (la.getD 0 0))]))
              refine own_st (fun _ k => XS.iconst X0.here hx rfl (hb hby d7_80) k) ?_
              show own_Go p e below s _ _ _ (T0.setTop (mkF m 81 #[.val (.ref a1), .val (.ref a2)] [(.int (0 : Int32)), (.ref a2), (.int (la.getD 0 0))]))
              obtain ⟨c140, Ar140, q140, S140, M140, H140, U140⟩ := id V2
              have hi140 := inb_of (j := (0 : Int32)) S140 ⟨by decide, by decide⟩
              refine own_st (X0.iaload hx (j := (0 : Int32)) (v := (.int (lb.getD 0 0))) (by rw [e0]; exact Ar140.1) (State.isArrayOf_alike hZ.alike Ar140.2.1) Ar140.2.2 hi140 (H140.at hi140 (own_gm lb 0)) (g := (mkF m 81 #[.val (.ref a1), .val (.ref a2)] [(.int (0 : Int32)), (.ref a2), (.int (la.getD 0 0))])) rfl rfl (hb hby d7_81)) ?_
              show own_Go p e below s _ _ _ (T0.setTop (mkF m 82 #[.val (.ref a1), .val (.ref a2)] [(.int (lb.getD 0 0)), (.int (la.getD 0 0))]))
              by_cases c141 : (la.getD 0 0) < (lb.getD 0 0)
              · refine own_st (fun _ k => XS.icmpNo X0.here hx rfl (hb hby d7_82) rfl (tlt c141).2.1 k) ?_
                show own_Go p e below s _ _ _ (T0.setTop (mkF m 85 #[.val (.ref a1), .val (.ref a2)] []))
                refine own_st (fun _ k => XS.iconst X0.here hx rfl (hb hby d7_85) k) ?_
                show own_Go p e below s _ _ _ (T0.setTop (mkF m 86 #[.val (.ref a1), .val (.ref a2)] [(.int (-1 : Int32))]))
                refine own_st (fun _ k => XS.goto X0.here hx rfl (pc0 := 86) (pc' := 103) rfl (hb hby d7_86) (by decide) (by decide) k) ?_
                show own_Go p e below s _ _ _ (T0.setTop (mkF m 103 #[.val (.ref a1), .val (.ref a2)] [(.int (-1 : Int32))]))
                exact own_ret X0 hx hlk e0 hret rfl (Or.inl ⟨rfl, Or.inl rfl, _, rfl⟩) (hb hby d7_103) (by decide) (by decide) ⟨by unfold own_exp own_ln; rw [if_neg c102, if_neg c110, if_pos c119, if_neg c121, if_neg c129, if_pos c138, if_pos c141], N0, rfl⟩
              · refine own_st (fun _ k => XS.icmpYes X0.here hx rfl (pc0 := 82) (pc' := 89) rfl (hb hby d7_82) rfl (flt c141).2.1 (by decide) (by decide) k) ?_
                show own_Go p e below s _ _ _ (T0.setTop (mkF m 89 #[.val (.ref a1), .val (.ref a2)] []))
                refine own_st (fun _ k => XS.aloadN X0.here hx rfl (hb hby d7_89) rfl rfl k) ?_
                show own_Go p e below s _ _ _ (T0.setTop (mkF m 90 #[.val (.ref a1), .val (.ref a2)] [(.ref a1)]))
                refine own_st (fun _ k => XS.iconst X0.here hx rfl (hb hby d7_90) k) ?_
                show own_Go p e below s _ _ _ (T0.setTop (mkF m 91 #[.val (.ref a1), .val (.ref a2)] [(.int (0 : Int32)), (.ref a1)]))
                obtain ⟨c142, Ar142, q142, S142, M142, H142, U142⟩ := id V1
                have hi142 := inb_of (j := (0 : Int32)) S142 ⟨by decide, by decide⟩
                refine own_st (X0.iaload hx (j := (0 : Int32)) (v := (.int (la.getD 0 0))) (by rw [e0]; exact Ar142.1) (State.isArrayOf_alike hZ.alike Ar142.2.1) Ar142.2.2 hi142 (H142.at hi142 (own_gm la 0)) (g := (mkF m 91 #[.val (.ref a1), .val (.ref a2)] [(.int (0 : Int32)), (.ref a1)])) rfl rfl (hb hby d7_91)) ?_
                show own_Go p e below s _ _ _ (T0.setTop (mkF m 92 #[.val (.ref a1), .val (.ref a2)] [(.int (la.getD 0 0))]))
                refine own_st (fun _ k => XS.aloadN X0.here hx rfl (hb hby d7_92) rfl rfl k) ?_
                show own_Go p e below s _ _ _ (T0.setTop (mkF m 93 #[.val (.ref a1), .val (.ref a2)] [(.ref a2), (.int (la.getD 0 0))]))
                refine own_st (fun _ k => XS.iconst X0.here hx rfl (hb hby d7_93) k) ?_
                show own_Go p e below s _ _ _ (T0.setTop (mkF m 94 #[.val (.ref a1), .val (.ref a2)] [(.int (0 : Int32)), (.ref a2), (.int (la.getD 0 0))]))
                obtain ⟨c143, Ar143, q143, S143, M143, H143, U143⟩ := id V2
                have hi143 := inb_of (j := (0 : Int32)) S143 ⟨by decide, by decide⟩
                refine own_st (X0.iaload hx (j := (0 : Int32)) (v := (.int (lb.getD 0 0))) (by rw [e0]; exact Ar143.1) (State.isArrayOf_alike hZ.alike Ar143.2.1) Ar143.2.2 hi143 (H143.at hi143 (own_gm lb 0)) (g := (mkF m 94 #[.val (.ref a1), .val (.ref a2)] [(.int (0 : Int32)), (.ref a2), (.int (la.getD 0 0))])) rfl rfl (hb hby d7_94)) ?_
                show own_Go p e below s _ _ _ (T0.setTop (mkF m 95 #[.val (.ref a1), .val (.ref a2)] [(.int (lb.getD 0 0)), (.int (la.getD 0 0))]))
                by_cases c144 : (lb.getD 0 0) < (la.getD 0 0)
                · refine own_st (fun _ k => XS.icmpNo X0.here hx rfl (hb hby d7_95) rfl (tlt c144).2.2.2 k) ?_
                  show own_Go p e below s _ _ _ (T0.setTop (mkF m 98 #[.val (.ref a1), .val (.ref a2)] []))
                  refine own_st (fun _ k => XS.iconst X0.here hx rfl (hb hby d7_98) k) ?_
                  show own_Go p e below s _ _ _ (T0.setTop (mkF m 99 #[.val (.ref a1), .val (.ref a2)] [(.int (1 : Int32))]))
                  refine own_st (fun _ k => XS.goto X0.here hx rfl (pc0 := 99) (pc' := 103) rfl (hb hby d7_99) (by decide) (by decide) k) ?_
                  show own_Go p e below s _ _ _ (T0.setTop (mkF m 103 #[.val (.ref a1), .val (.ref a2)] [(.int (1 : Int32))]))
                  exact own_ret X0 hx hlk e0 hret rfl (Or.inl ⟨rfl, Or.inl rfl, _, rfl⟩) (hb hby d7_103) (by decide) (by decide) ⟨by unfold own_exp own_ln; rw [if_neg c102, if_neg c110, if_pos c119, if_neg c121, if_neg c129, if_pos c138, if_neg c141, if_pos c144], N0, rfl⟩
                · refine own_st (fun _ k => XS.icmpYes X0.here hx rfl (pc0 := 95) (pc' := 102) rfl (hb hby d7_95) rfl (flt c144).2.2.2 (by decide) (by decide) k) ?_
                  show own_Go p e below s _ _ _ (T0.setTop (mkF m 102 #[.val (.ref a1), .val (.ref a2)] []))
                  refine own_st (fun _ k => XS.iconst X0.here hx rfl (hb hby d7_102) k) ?_
                  show own_Go p e below s _ _ _ (T0.setTop (mkF m 103 #[.val (.ref a1), .val (.ref a2)] [(.int (0 : Int32))]))
                  exact own_ret X0 hx hlk e0 hret rfl (Or.inl ⟨rfl, Or.inl rfl, _, rfl⟩) (hb hby d7_103) (by decide) (by decide) ⟨by unfold own_exp own_ln; rw [if_neg c102, if_neg c110, if_pos c119, if_neg c121, if_neg c129, if_pos c138, if_neg c141, if_neg c144], N0, rfl⟩
            · refine own_st (fun _ k => XS.icmpNo X0.here hx rfl (hb hby d7_58) rfl (feq c138).1 k) ?_
              show own_Go p e below s _ _ _ (T0.setTop (mkF m 61 #[.val (.ref a1), .val (.ref a2)] []))
              refine own_st (fun _ k => XS.aloadN X0.here hx rfl (hb hby d7_61) rfl rfl k) ?_
              show own_Go p e below s _ _ _ (T0.setTop (mkF m 62 #[.val (.ref a1), .val (.ref a2)] [(.ref a1)]))
              refine own_st (fun _ k => XS.iconst X0.here hx rfl (hb hby d7_62) k) ?_
              show own_Go p e below s _ _ _ (T0.setTop (mkF m 63 #[.val (.ref a1), .val (.ref a2)] [(.int (2 : Int32)), (.ref a1)]))
              obtain ⟨c145, Ar145, q145, S145, M145, H145, U145⟩ := id V1
              have hi145 := inb_of (j := (2 : Int32)) S145 ⟨by decide, by decide⟩
              refine own_st (X0.iaload hx (j := (2 : Int32)) (v := (.int (la.getD 2 0))) (by rw [e0]; exact Ar145.1) (State.isArrayOf_alike hZ.alike Ar145.2.1) Ar145.2.2 hi145 (H145.at hi145 (own_gm la 2)) (g := (mkF m 63 #[.val (.ref a1), .val (.ref a2)] [(.int (2 : Int32)), (.ref a1)])) rfl rfl (hb hby d7_63)) ?_
              show own_Go p e below s _ _ _ (T0.setTop (mkF m 64 #[.val (.ref a1), .val (.ref a2)] [(.int (la.getD 2 0))]))
              refine own_st (fun _ k => XS.aloadN X0.here hx rfl (hb hby d7_64) rfl rfl k) ?_
              show own_Go p e below s _ _ _ (T0.setTop (mkF m 65 #[.val (.ref a1), .val (.ref a2)] [(.ref a2), (.int (la.getD 2 0))]))
              refine own_st (fun _ k => XS.iconst X0.here hx rfl (hb hby d7_65) k) ?_
              show own_Go p e below s _ _ _ (T0.setTop (mkF m 66 #[.val (.ref a1), .val (.ref a2)] [(.int (2 : Int32)), (.ref a2), (.int (la.getD 2 0))]))
              obtain ⟨c146, Ar146, q146, S146, M146, H146, U146⟩ := id V2
              have hi146 := inb_of (j := (2 : Int32)) S146 ⟨by decide, by decide⟩
              refine own_st (X0.iaload hx (j := (2 : Int32)) (v := (.int (lb.getD 2 0))) (by rw [e0]; exact Ar146.1) (State.isArrayOf_alike hZ.alike Ar146.2.1) Ar146.2.2 hi146 (H146.at hi146 (own_gm lb 2)) (g := (mkF m 66 #[.val (.ref a1), .val (.ref a2)] [(.int (2 : Int32)), (.ref a2), (.int (la.getD 2 0))])) rfl rfl (hb hby d7_66)) ?_
              show own_Go p e below s _ _ _ (T0.setTop (mkF m 67 #[.val (.ref a1), .val (.ref a2)] [(.int (lb.getD 2 0)), (.int (la.getD 2 0))]))
              by_cases c147 : (la.getD 2 0) < (lb.getD 2 0)
              · refine own_st (fun _ k => XS.icmpNo X0.here hx rfl (hb hby d7_67) rfl (tlt c147).2.1 k) ?_
                show own_Go p e below s _ _ _ (T0.setTop (mkF m 70 #[.val (.ref a1), .val (.ref a2)] []))
                refine own_st (fun _ k => XS.iconst X0.here hx rfl (hb hby d7_70) k) ?_
                show own_Go p e below s _ _ _ (T0.setTop (mkF m 71 #[.val (.ref a1), .val (.ref a2)] [(.int (-1 : Int32))]))
                refine own_st (fun _ k => XS.goto X0.here hx rfl (pc0 := 71) (pc' := 75) rfl (hb hby d7_71) (by decide) (by decide) k) ?_
                show own_Go p e below s _ _ _ (T0.setTop (mkF m 75 #[.val (.ref a1), .val (.ref a2)] [(.int (-1 : Int32))]))
                exact own_ret X0 hx hlk e0 hret rfl (Or.inl ⟨rfl, Or.inl rfl, _, rfl⟩) (hb hby d7_75) (by decide) (by decide) ⟨by unfold own_exp own_ln; rw [if_neg c102, if_neg c110, if_pos c119, if_neg c121, if_neg c129, if_neg c138, if_pos c147], N0, rfl⟩
              · refine own_st (fun _ k => XS.icmpYes X0.here hx rfl (pc0 := 67) (pc' := 74) rfl (hb hby d7_67) rfl (flt c147).2.1 (by decide) (by decide) k) ?_
                show own_Go p e below s _ _ _ (T0.setTop (mkF m 74 #[.val (.ref a1), .val (.ref a2)] []))
                refine own_st (fun _ k => XS.iconst X0.here hx rfl (hb hby d7_74) k) ?_
                show own_Go p e below s _ _ _ (T0.setTop (mkF m 75 #[.val (.ref a1), .val (.ref a2)] [(.int (1 : Int32))]))
                exact own_ret X0 hx hlk e0 hret rfl (Or.inl ⟨rfl, Or.inl rfl, _, rfl⟩) (hb hby d7_75) (by decide) (by decide) ⟨by unfold own_exp own_ln; rw [if_neg c102, if_neg c110, if_pos c119, if_neg c121, if_neg c129, if_neg c138, if_neg c147], N0, rfl⟩
      · refine own_st (fun _ k => XS.icmpNo X0.here hx rfl (hb hby d7_20) rfl (feq c119).1 k) ?_
        show own_Go p e below s _ _ _ (T0.setTop (mkF m 23 #[.val (.ref a1), .val (.ref a2)] []))
        refine own_st (fun _ k => XS.aloadN X0.here hx rfl (hb hby d7_23) rfl rfl k) ?_
        show own_Go p e below s _ _ _ (T0.setTop (mkF m 24 #[.val (.ref a1), .val (.ref a2)] [(.ref a1)]))
        refine own_st (fun _ k => XS.iconst X0.here hx rfl (hb hby d7_24) k) ?_
        show own_Go p e below s _ _ _ (T0.setTop (mkF m 25 #[.val (.ref a1), .val (.ref a2)] [(.int (1 : Int32)), (.ref a1)]))
        obtain ⟨c148, Ar148, q148, S148, M148, H148, U148⟩ := id V1
        have hi148 := inb_of (j := (1 : Int32)) S148 ⟨by decide, by decide⟩
        refine own_st (X0.iaload hx (j := (1 : Int32)) (v := (.int (la.getD 1 0))) (by rw [e0]; exact Ar148.1) (State.isArrayOf_alike hZ.alike Ar148.2.1) Ar148.2.2 hi148 (H148.at hi148 (own_gm la 1)) (g := (mkF m 25 #[.val (.ref a1), .val (.ref a2)] [(.int (1 : Int32)), (.ref a1)])) rfl rfl (hb hby d7_25)) ?_
        show own_Go p e below s _ _ _ (T0.setTop (mkF m 26 #[.val (.ref a1), .val (.ref a2)] [(.int (la.getD 1 0))]))
        refine own_st (fun _ k => XS.aloadN X0.here hx rfl (hb hby d7_26) rfl rfl k) ?_
        show own_Go p e below s _ _ _ (T0.setTop (mkF m 27 #[.val (.ref a1), .val (.ref a2)] [(.ref a2), (.int (la.getD 1 0))]))
        refine own_st (fun _ k => XS.iconst X0.here hx rfl (hb hby d7_27) k) ?_
        show own_Go p e below s _ _ _ (T0.setTop (mkF m 28 #[.val (.ref a1), .val (.ref a2)] [(.int (1 : Int32)), (.ref a2), (.int (la.getD 1 0))]))
        obtain ⟨c149, Ar149, q149, S149, M149, H149, U149⟩ := id V2
        have hi149 := inb_of (j := (1 : Int32)) S149 ⟨by decide, by decide⟩
        refine own_st (X0.iaload hx (j := (1 : Int32)) (v := (.int (lb.getD 1 0))) (by rw [e0]; exact Ar149.1) (State.isArrayOf_alike hZ.alike Ar149.2.1) Ar149.2.2 hi149 (H149.at hi149 (own_gm lb 1)) (g := (mkF m 28 #[.val (.ref a1), .val (.ref a2)] [(.int (1 : Int32)), (.ref a2), (.int (la.getD 1 0))])) rfl rfl (hb hby d7_28)) ?_
        show own_Go p e below s _ _ _ (T0.setTop (mkF m 29 #[.val (.ref a1), .val (.ref a2)] [(.int (lb.getD 1 0)), (.int (la.getD 1 0))]))
        by_cases c150 : (la.getD 1 0) < (lb.getD 1 0)
        · refine own_st (fun _ k => XS.icmpNo X0.here hx rfl (hb hby d7_29) rfl (tlt c150).2.1 k) ?_
          show own_Go p e below s _ _ _ (T0.setTop (mkF m 32 #[.val (.ref a1), .val (.ref a2)] []))
          refine own_st (fun _ k => XS.iconst X0.here hx rfl (hb hby d7_32) k) ?_
          show own_Go p e below s _ _ _ (T0.setTop (mkF m 33 #[.val (.ref a1), .val (.ref a2)] [(.int (-1 : Int32))]))
          refine own_st (fun _ k => XS.goto X0.here hx rfl (pc0 := 33) (pc' := 37) rfl (hb hby d7_33) (by decide) (by decide) k) ?_
          show own_Go p e below s _ _ _ (T0.setTop (mkF m 37 #[.val (.ref a1), .val (.ref a2)] [(.int (-1 : Int32))]))
          exact own_ret X0 hx hlk e0 hret rfl (Or.inl ⟨rfl, Or.inl rfl, _, rfl⟩) (hb hby d7_37) (by decide) (by decide) ⟨by unfold own_exp own_ln; rw [if_neg c102, if_neg c110, if_neg c119, if_pos c150], N0, rfl⟩
        · refine own_st (fun _ k => XS.icmpYes X0.here hx rfl (pc0 := 29) (pc' := 36) rfl (hb hby d7_29) rfl (flt c150).2.1 (by decide) (by decide) k) ?_
          show own_Go p e below s _ _ _ (T0.setTop (mkF m 36 #[.val (.ref a1), .val (.ref a2)] []))
          refine own_st (fun _ k => XS.iconst X0.here hx rfl (hb hby d7_36) k) ?_
          show own_Go p e below s _ _ _ (T0.setTop (mkF m 37 #[.val (.ref a1), .val (.ref a2)] [(.int (1 : Int32))]))
          exact own_ret X0 hx hlk e0 hret rfl (Or.inl ⟨rfl, Or.inl rfl, _, rfl⟩) (hb hby d7_37) (by decide) (by decide) ⟨by unfold own_exp own_ln; rw [if_neg c102, if_neg c110, if_neg c119, if_neg c150], N0, rfl⟩
theorem pd__28I_29C : parseMethodDescriptor "(I)C" = some ⟨[.int], some .char⟩ := by decide +kernel
theorem pd__28ICC_29Ljava_2flang_2fString_3b : parseMethodDescriptor "(ICC)Ljava/lang/String;" = some ⟨[.int, .char, .char], some (.object "java/lang/String")⟩ := by decide +kernel
theorem pd__28ICC_29_5bI : parseMethodDescriptor "(ICC)[I" = some ⟨[.int, .char, .char], some (.array .int)⟩ := by decide +kernel
theorem pd__28_5bI_5bI_29I : parseMethodDescriptor "([I[I)I" = some ⟨[(.array .int), (.array .int)], some .int⟩ := by decide +kernel
theorem pd__28Ljava_2flang_2fString_3bLjava_2flang_2fString_3b_29I : parseMethodDescriptor "(Ljava/lang/String;Ljava/lang/String;)I" = some ⟨[(.object "java/lang/String"), (.object "java/lang/String")], some .int⟩ := by decide +kernel
theorem ef_lawW (m : MethodId) (x0 : Int32) (x1 : Int32) (x2 : Int32) (x3 : Int32) (x4 : Int32) : entryFrame m #[(.int x0), (.int x1), (.int x2), (.int x3), (.int x4)] maxLocals = mkF m 0 #[.val (.int x0), .val (.int x1), .val (.int x2), .val (.int x3), .val (.int x4), .unset, .unset, .unset, .unset, .unset, .unset, .unset, .unset, .unset, .unset, .unset, .unset, .unset] [] := by (first | (simp [entryFrame, mkF, argsToLocals, Value.category, maxLocals]; done) | rfl)
set_option maxRecDepth 65536 in
set_option maxHeartbeats 40000000 in
theorem lawW (l : Launch) (Z : State) (a0 : Array Value) (hw : ∀ d ∈ tables_1, d.before a0 Z = true) (ws : List Jvm.Cond) (pa pb pc pd pn : Int32) (h0 : Heap) (n0 : Nat) (O0 : Old Z n0 h0) (CS : own_CS Z) (FM : own_FM Z) (UT : own_U16 Z) :
    own_CW l Z x code maxLocals ret ws room_1 #[(.int pa), (.int pb), (.int pc), (.int pd), (.int pn)] h0 (fun v h L => v = some (.int 1) ∧ Fr n0 L) := by
  refine own_bodyW (plainFor_of_name pn_com_example_vetch_vetch_util_CharacterOrderComparePinLaw) ?_
  intro p e s m below meth c T0 X0 hx hby hml hZ hown hnm hret hlk e0 hS CR
  have hEL := own_hEL hw
  have N0 := Fr.nil n0
  have zO := own_old O0
  refine own_stW (fun _ k => castTop (ef_lawW m pa pb pc pd pn) k) ?_
  show own_GoW p e below s _ _ _ _ _ (T0.setTop (mkF m 0 #[.val (.int pa), .val (.int pb), .val (.int pc), .val (.int pd), .val (.int pn), .unset, .unset, .unset, .unset, .unset, .unset, .unset, .unset, .unset, .unset, .unset, .unset, .unset] []))
  refine own_stW (fun _ k => XS.iload X0.here hx rfl (hb hby at_0) rfl k) ?_
  show own_GoW p e below s _ _ _ _ _ (T0.setTop (mkF m 2 #[.val (.int pa), .val (.int pb), .val (.int pc), .val (.int pd), .val (.int pn), .unset, .unset, .unset, .unset, .unset, .unset, .unset, .unset, .unset, .unset, .unset, .unset, .unset] [(.int pn)]))
  refine own_stW (fun _ k => XS.sipush X0.here hx rfl (hb hby at_2) k) ?_
  show own_GoW p e below s _ _ _ _ _ (T0.setTop (mkF m 5 #[.val (.int pa), .val (.int pb), .val (.int pc), .val (.int pd), .val (.int pn), .unset, .unset, .unset, .unset, .unset, .unset, .unset, .unset, .unset, .unset, .unset, .unset, .unset] [(.int (255 : Int32)), (.int pn)]))
  refine own_stW (fun _ k => XS.iand X0.here hx rfl (hb hby at_5) rfl k) ?_
  show own_GoW p e below s _ _ _ _ _ (T0.setTop (mkF m 6 #[.val (.int pa), .val (.int pb), .val (.int pc), .val (.int pd), .val (.int pn), .unset, .unset, .unset, .unset, .unset, .unset, .unset, .unset, .unset, .unset, .unset, .unset, .unset] [(.int (pn &&& (255 : Int32)))]))
  refine own_stW (fun _ k => XS.iconst X0.here hx rfl (hb hby at_6) k) ?_
  show own_GoW p e below s _ _ _ _ _ (T0.setTop (mkF m 7 #[.val (.int pa), .val (.int pb), .val (.int pc), .val (.int pd), .val (.int pn), .unset, .unset, .unset, .unset, .unset, .unset, .unset, .unset, .unset, .unset, .unset, .unset, .unset] [(.int (3 : Int32)), (.int (pn &&& (255 : Int32)))]))
  refine own_stW (fun _ k => iremM (g := (mkF m 7 #[.val (.int pa), .val (.int pb), .val (.int pc), .val (.int pd), .val (.int pn), .unset, .unset, .unset, .unset, .unset, .unset, .unset, .unset, .unset, .unset, .unset, .unset, .unset] [(.int (3 : Int32)), (.int (pn &&& (255 : Int32)))])) X0 hx rfl (hb hby at_7) rfl (by decide) k) ?_
  show own_GoW p e below s _ _ _ _ _ (T0.setTop (mkF m 8 #[.val (.int pa), .val (.int pb), .val (.int pc), .val (.int pd), .val (.int pn), .unset, .unset, .unset, .unset, .unset, .unset, .unset, .unset, .unset, .unset, .unset, .unset, .unset] [(.int ((pn &&& (255 : Int32)) % (3 : Int32)))]))
  obtain ⟨ln, eln, hln⟩ : ∃ z : Int32, ((pn &&& (255 : Int32)) % (3 : Int32)) = z ∧ (z = 0 ∨ z = 1 ∨ z = 2) := ⟨_, rfl, own_rem3 _⟩
  rw [eln]
  show own_GoW p e below s _ _ _ _ _ (T0.setTop (mkF m 8 #[.val (.int pa), .val (.int pb), .val (.int pc), .val (.int pd), .val (.int pn), .unset, .unset, .unset, .unset, .unset, .unset, .unset, .unset, .unset, .unset, .unset, .unset, .unset] [(.int ln)]))
  refine own_stW (fun _ k => XS.istore X0.here hx rfl (hb hby at_8) rfl (l' := #[.val (.int pa), .val (.int pb), .val (.int pc), .val (.int pd), .val (.int pn), .val (.int ln), .unset, .unset, .unset, .unset, .unset, .unset, .unset, .unset, .unset, .unset, .unset, .unset]) rfl k) ?_
  show own_GoW p e below s _ _ _ _ _ (T0.setTop (mkF m 10 #[.val (.int pa), .val (.int pb), .val (.int pc), .val (.int pd), .val (.int pn), .val (.int ln), .unset, .unset, .unset, .unset, .unset, .unset, .unset, .unset, .unset, .unset, .unset, .unset] []))
  refine own_stW (fun _ k => XS.iload X0.here hx rfl (hb hby at_10) rfl k) ?_
  show own_GoW p e below s _ _ _ _ _ (T0.setTop (mkF m 12 #[.val (.int pa), .val (.int pb), .val (.int pc), .val (.int pd), .val (.int pn), .val (.int ln), .unset, .unset, .unset, .unset, .unset, .unset, .unset, .unset, .unset, .unset, .unset, .unset] [(.int pn)]))
  refine own_stW (fun _ k => XS.bipush X0.here hx rfl (hb hby at_12) k) ?_
  show own_GoW p e below s _ _ _ _ _ (T0.setTop (mkF m 14 #[.val (.int pa), .val (.int pb), .val (.int pc), .val (.int pd), .val (.int pn), .val (.int ln), .unset, .unset, .unset, .unset, .unset, .unset, .unset, .unset, .unset, .unset, .unset, .unset] [(.int (8 : Int32)), (.int pn)]))
  refine own_stW (fun _ k => XS.iushr X0.here hx rfl (hb hby at_14) rfl k) ?_
  show own_GoW p e below s _ _ _ _ _ (T0.setTop (mkF m 15 #[.val (.int pa), .val (.int pb), .val (.int pc), .val (.int pd), .val (.int pn), .val (.int ln), .unset, .unset, .unset, .unset, .unset, .unset, .unset, .unset, .unset, .unset, .unset, .unset] [(.int ((pn.toUInt32 >>> ((8 : Int32) &&& 31).toUInt32).toInt32))]))
  refine own_stW (fun _ k => XS.sipush X0.here hx rfl (hb hby at_15) k) ?_
  show own_GoW p e below s _ _ _ _ _ (T0.setTop (mkF m 18 #[.val (.int pa), .val (.int pb), .val (.int pc), .val (.int pd), .val (.int pn), .val (.int ln), .unset, .unset, .unset, .unset, .unset, .unset, .unset, .unset, .unset, .unset, .unset, .unset] [(.int (255 : Int32)), (.int ((pn.toUInt32 >>> ((8 : Int32) &&& 31).toUInt32).toInt32))]))
  refine own_stW (fun _ k => XS.iand X0.here hx rfl (hb hby at_18) rfl k) ?_
  show own_GoW p e below s _ _ _ _ _ (T0.setTop (mkF m 19 #[.val (.int pa), .val (.int pb), .val (.int pc), .val (.int pd), .val (.int pn), .val (.int ln), .unset, .unset, .unset, .unset, .unset, .unset, .unset, .unset, .unset, .unset, .unset, .unset] [(.int (((pn.toUInt32 >>> ((8 : Int32) &&& 31).toUInt32).toInt32) &&& (255 : Int32)))]))
  refine own_stW (fun _ k => XS.iconst X0.here hx rfl (hb hby at_19) k) ?_
  show own_GoW p e below s _ _ _ _ _ (T0.setTop (mkF m 20 #[.val (.int pa), .val (.int pb), .val (.int pc), .val (.int pd), .val (.int pn), .val (.int ln), .unset, .unset, .unset, .unset, .unset, .unset, .unset, .unset, .unset, .unset, .unset, .unset] [(.int (3 : Int32)), (.int (((pn.toUInt32 >>> ((8 : Int32) &&& 31).toUInt32).toInt32) &&& (255 : Int32)))]))
  refine own_stW (fun _ k => iremM (g := (mkF m 20 #[.val (.int pa), .val (.int pb), .val (.int pc), .val (.int pd), .val (.int pn), .val (.int ln), .unset, .unset, .unset, .unset, .unset, .unset, .unset, .unset, .unset, .unset, .unset, .unset] [(.int (3 : Int32)), (.int (((pn.toUInt32 >>> ((8 : Int32) &&& 31).toUInt32).toInt32) &&& (255 : Int32)))])) X0 hx rfl (hb hby at_20) rfl (by decide) k) ?_
  show own_GoW p e below s _ _ _ _ _ (T0.setTop (mkF m 21 #[.val (.int pa), .val (.int pb), .val (.int pc), .val (.int pd), .val (.int pn), .val (.int ln), .unset, .unset, .unset, .unset, .unset, .unset, .unset, .unset, .unset, .unset, .unset, .unset] [(.int ((((pn.toUInt32 >>> ((8 : Int32) &&& 31).toUInt32).toInt32) &&& (255 : Int32)) % (3 : Int32)))]))
  obtain ⟨rn, ern, hrn⟩ : ∃ z : Int32, ((((pn.toUInt32 >>> ((8 : Int32) &&& 31).toUInt32).toInt32) &&& (255 : Int32)) % (3 : Int32)) = z ∧ (z = 0 ∨ z = 1 ∨ z = 2) := ⟨_, rfl, own_rem3 _⟩
  rw [ern]
  show own_GoW p e below s _ _ _ _ _ (T0.setTop (mkF m 21 #[.val (.int pa), .val (.int pb), .val (.int pc), .val (.int pd), .val (.int pn), .val (.int ln), .unset, .unset, .unset, .unset, .unset, .unset, .unset, .unset, .unset, .unset, .unset, .unset] [(.int rn)]))
  refine own_stW (fun _ k => XS.istore X0.here hx rfl (hb hby at_21) rfl (l' := #[.val (.int pa), .val (.int pb), .val (.int pc), .val (.int pd), .val (.int pn), .val (.int ln), .val (.int rn), .unset, .unset, .unset, .unset, .unset, .unset, .unset, .unset, .unset, .unset, .unset]) rfl k) ?_
  show own_GoW p e below s _ _ _ _ _ (T0.setTop (mkF m 23 #[.val (.int pa), .val (.int pb), .val (.int pc), .val (.int pd), .val (.int pn), .val (.int ln), .val (.int rn), .unset, .unset, .unset, .unset, .unset, .unset, .unset, .unset, .unset, .unset, .unset] []))
  refine own_stW (fun _ k => XS.iloadN X0.here hx rfl (hb hby at_23) rfl k) ?_
  show own_GoW p e below s _ _ _ _ _ (T0.setTop (mkF m 24 #[.val (.int pa), .val (.int pb), .val (.int pc), .val (.int pd), .val (.int pn), .val (.int ln), .val (.int rn), .unset, .unset, .unset, .unset, .unset, .unset, .unset, .unset, .unset, .unset, .unset] [(.int pa)]))
  obtain ⟨T101, v101, L101, h101, X101, e101, q101, st101⟩ := own_callS X0 hx hZ (y := (⟨"com/example/vetch/vetch/util/CharacterOrderComparePinLaw", "draw", "(I)C"⟩ : MethodName)) hown (hw _ (List.mem_of_getElem? (i := 0) rfl)) (hw _ (List.mem_of_getElem? (i := 1) rfl)) (hw _ (List.mem_of_getElem? (i := 2) rfl)) (hw _ (List.mem_of_getElem? (i := 3) rfl)) (by decide) (own_bk (W := 0) (drW l Z a0 hw pa h0 n0 O0) hZ (hw _ (List.mem_of_getElem? (i := 3) rfl)) (hw _ (List.mem_of_getElem? (i := 2) rfl)) (by decide) (by decide)) e0 (by decide) (by decide) (g := (mkF m 24 #[.val (.int pa), .val (.int pb), .val (.int pc), .val (.int pd), .val (.int pn), .val (.int ln), .val (.int rn), .unset, .unset, .unset, .unset, .unset, .unset, .unset, .unset, .unset, .unset, .unset] [(.int pa)])) rfl (by rw [hml]; rfl) (argsL := [(.int pa)]) (rest := []) (lenOf pd__28I_29C rfl) rfl rfl (by show 2 * 0 + _ ≤ _; exact Nat.le_of_eq rfl) (hb hby at_24)
  obtain ⟨c0, rfl, hc0, N101q, hq101⟩ := q101
  replace e101 := e101.trans hq101
  refine own_stW st101 ?_
  have N101 := Fr.app N0 N101q
  show own_GoW p e below s _ _ _ _ _ (T101.setTop (mkF m 27 #[.val (.int pa), .val (.int pb), .val (.int pc), .val (.int pd), .val (.int pn), .val (.int ln), .val (.int rn), .unset, .unset, .unset, .unset, .unset, .unset, .unset, .unset, .unset, .unset, .unset] [(.int c0)]))
  refine own_stW (fun _ k => XS.istore X101.here hx rfl (hb hby at_27) rfl (l' := #[.val (.int pa), .val (.int pb), .val (.int pc), .val (.int pd), .val (.int pn), .val (.int ln), .val (.int rn), .val (.int c0), .unset, .unset, .unset, .unset, .unset, .unset, .unset, .unset, .unset, .unset]) rfl k) ?_
  show own_GoW p e below s _ _ _ _ _ (T101.setTop (mkF m 29 #[.val (.int pa), .val (.int pb), .val (.int pc), .val (.int pd), .val (.int pn), .val (.int ln), .val (.int rn), .val (.int c0), .unset, .unset, .unset, .unset, .unset, .unset, .unset, .unset, .unset, .unset] []))
  refine own_stW (fun _ k => XS.iloadN X101.here hx rfl (hb hby at_29) rfl k) ?_
  show own_GoW p e below s _ _ _ _ _ (T101.setTop (mkF m 30 #[.val (.int pa), .val (.int pb), .val (.int pc), .val (.int pd), .val (.int pn), .val (.int ln), .val (.int rn), .val (.int c0), .unset, .unset, .unset, .unset, .unset, .unset, .unset, .unset, .unset, .unset] [(.int pb)]))
  obtain ⟨T102, v102, L102, h102, X102, e102, q102, st102⟩ := own_callS X101 hx hZ (y := (⟨"com/example/vetch/vetch/util/CharacterOrderComparePinLaw", "draw", "(I)C"⟩ : MethodName)) hown (hw _ (List.mem_of_getElem? (i := 0) rfl)) (hw _ (List.mem_of_getElem? (i := 1) rfl)) (hw _ (List.mem_of_getElem? (i := 2) rfl)) (hw _ (List.mem_of_getElem? (i := 3) rfl)) (by decide) (own_bk (W := 0) (drW l Z a0 hw pb h0 n0 O0) hZ (hw _ (List.mem_of_getElem? (i := 3) rfl)) (hw _ (List.mem_of_getElem? (i := 2) rfl)) (by decide) (by decide)) e101 (by decide) (by decide) (g := (mkF m 30 #[.val (.int pa), .val (.int pb), .val (.int pc), .val (.int pd), .val (.int pn), .val (.int ln), .val (.int rn), .val (.int c0), .unset, .unset, .unset, .unset, .unset, .unset, .unset, .unset, .unset, .unset] [(.int pb)])) rfl (by rw [hml]; rfl) (argsL := [(.int pb)]) (rest := []) (lenOf pd__28I_29C rfl) rfl rfl (by show 2 * 0 + _ ≤ _; exact Nat.le_of_eq rfl) (hb hby at_30)
  obtain ⟨c1, rfl, hc1, N102q, hq102⟩ := q102
  replace e102 := e102.trans hq102
  refine own_stW st102 ?_
  have N102 := Fr.app N101 N102q
  show own_GoW p e below s _ _ _ _ _ (T102.setTop (mkF m 33 #[.val (.int pa), .val (.int pb), .val (.int pc), .val (.int pd), .val (.int pn), .val (.int ln), .val (.int rn), .val (.int c0), .unset, .unset, .unset, .unset, .unset, .unset, .unset, .unset, .unset, .unset] [(.int c1)]))
  refine own_stW (fun _ k => XS.istore X102.here hx rfl (hb hby at_33) rfl (l' := #[.val (.int pa), .val (.int pb), .val (.int pc), .val (.int pd), .val (.int pn), .val (.int ln), .val (.int rn), .val (.int c0), .val (.int c1), .unset, .unset, .unset, .unset, .unset, .unset, .unset, .unset, .unset]) rfl k) ?_
  show own_GoW p e below s _ _ _ _ _ (T102.setTop (mkF m 35 #[.val (.int pa), .val (.int pb), .val (.int pc), .val (.int pd), .val (.int pn), .val (.int ln), .val (.int rn), .val (.int c0), .val (.int c1), .unset, .unset, .unset, .unset, .unset, .unset, .unset, .unset, .unset] []))
  refine own_stW (fun _ k => XS.iloadN X102.here hx rfl (hb hby at_35) rfl k) ?_
  show own_GoW p e below s _ _ _ _ _ (T102.setTop (mkF m 36 #[.val (.int pa), .val (.int pb), .val (.int pc), .val (.int pd), .val (.int pn), .val (.int ln), .val (.int rn), .val (.int c0), .val (.int c1), .unset, .unset, .unset, .unset, .unset, .unset, .unset, .unset, .unset] [(.int pc)]))
  obtain ⟨T103, v103, L103, h103, X103, e103, q103, st103⟩ := own_callS X102 hx hZ (y := (⟨"com/example/vetch/vetch/util/CharacterOrderComparePinLaw", "draw", "(I)C"⟩ : MethodName)) hown (hw _ (List.mem_of_getElem? (i := 0) rfl)) (hw _ (List.mem_of_getElem? (i := 1) rfl)) (hw _ (List.mem_of_getElem? (i := 2) rfl)) (hw _ (List.mem_of_getElem? (i := 3) rfl)) (by decide) (own_bk (W := 0) (drW l Z a0 hw pc h0 n0 O0) hZ (hw _ (List.mem_of_getElem? (i := 3) rfl)) (hw _ (List.mem_of_getElem? (i := 2) rfl)) (by decide) (by decide)) e102 (by decide) (by decide) (g := (mkF m 36 #[.val (.int pa), .val (.int pb), .val (.int pc), .val (.int pd), .val (.int pn), .val (.int ln), .val (.int rn), .val (.int c0), .val (.int c1), .unset, .unset, .unset, .unset, .unset, .unset, .unset, .unset, .unset] [(.int pc)])) rfl (by rw [hml]; rfl) (argsL := [(.int pc)]) (rest := []) (lenOf pd__28I_29C rfl) rfl rfl (by show 2 * 0 + _ ≤ _; exact Nat.le_of_eq rfl) (hb hby at_36)
  obtain ⟨d0, rfl, hd0, N103q, hq103⟩ := q103
  replace e103 := e103.trans hq103
  refine own_stW st103 ?_
  have N103 := Fr.app N102 N103q
  show own_GoW p e below s _ _ _ _ _ (T103.setTop (mkF m 39 #[.val (.int pa), .val (.int pb), .val (.int pc), .val (.int pd), .val (.int pn), .val (.int ln), .val (.int rn), .val (.int c0), .val (.int c1), .unset, .unset, .unset, .unset, .unset, .unset, .unset, .unset, .unset] [(.int d0)]))
  refine own_stW (fun _ k => XS.istore X103.here hx rfl (hb hby at_39) rfl (l' := #[.val (.int pa), .val (.int pb), .val (.int pc), .val (.int pd), .val (.int pn), .val (.int ln), .val (.int rn), .val (.int c0), .val (.int c1), .val (.int d0), .unset, .unset, .unset, .unset, .unset, .unset, .unset, .unset]) rfl k) ?_
  show own_GoW p e below s _ _ _ _ _ (T103.setTop (mkF m 41 #[.val (.int pa), .val (.int pb), .val (.int pc), .val (.int pd), .val (.int pn), .val (.int ln), .val (.int rn), .val (.int c0), .val (.int c1), .val (.int d0), .unset, .unset, .unset, .unset, .unset, .unset, .unset, .unset] []))
  refine own_stW (fun _ k => XS.iloadN X103.here hx rfl (hb hby at_41) rfl k) ?_
  show own_GoW p e below s _ _ _ _ _ (T103.setTop (mkF m 42 #[.val (.int pa), .val (.int pb), .val (.int pc), .val (.int pd), .val (.int pn), .val (.int ln), .val (.int rn), .val (.int c0), .val (.int c1), .val (.int d0), .unset, .unset, .unset, .unset, .unset, .unset, .unset, .unset] [(.int pd)]))
  obtain ⟨T104, v104, L104, h104, X104, e104, q104, st104⟩ := own_callS X103 hx hZ (y := (⟨"com/example/vetch/vetch/util/CharacterOrderComparePinLaw", "draw", "(I)C"⟩ : MethodName)) hown (hw _ (List.mem_of_getElem? (i := 0) rfl)) (hw _ (List.mem_of_getElem? (i := 1) rfl)) (hw _ (List.mem_of_getElem? (i := 2) rfl)) (hw _ (List.mem_of_getElem? (i := 3) rfl)) (by decide) (own_bk (W := 0) (drW l Z a0 hw pd h0 n0 O0) hZ (hw _ (List.mem_of_getElem? (i := 3) rfl)) (hw _ (List.mem_of_getElem? (i := 2) rfl)) (by decide) (by decide)) e103 (by decide) (by decide) (g := (mkF m 42 #[.val (.int pa), .val (.int pb), .val (.int pc), .val (.int pd), .val (.int pn), .val (.int ln), .val (.int rn), .val (.int c0), .val (.int c1), .val (.int d0), .unset, .unset, .unset, .unset, .unset, .unset, .unset, .unset] [(.int pd)])) rfl (by rw [hml]; rfl) (argsL := [(.int pd)]) (rest := []) (lenOf pd__28I_29C rfl) rfl rfl (by show 2 * 0 + _ ≤ _; exact Nat.le_of_eq rfl) (hb hby at_42)
  obtain ⟨d1, rfl, hd1, N104q, hq104⟩ := q104
  replace e104 := e104.trans hq104
  refine own_stW st104 ?_
  have N104 := Fr.app N103 N104q
  show own_GoW p e below s _ _ _ _ _ (T104.setTop (mkF m 45 #[.val (.int pa), .val (.int pb), .val (.int pc), .val (.int pd), .val (.int pn), .val (.int ln), .val (.int rn), .val (.int c0), .val (.int c1), .val (.int d0), .unset, .unset, .unset, .unset, .unset, .unset, .unset, .unset] [(.int d1)]))
  refine own_stW (fun _ k => XS.istore X104.here hx rfl (hb hby at_45) rfl (l' := #[.val (.int pa), .val (.int pb), .val (.int pc), .val (.int pd), .val (.int pn), .val (.int ln), .val (.int rn), .val (.int c0), .val (.int c1), .val (.int d0), .val (.int d1), .unset, .unset, .unset, .unset, .unset, .unset, .unset]) rfl k) ?_
  show own_GoW p e below s _ _ _ _ _ (T104.setTop (mkF m 47 #[.val (.int pa), .val (.int pb), .val (.int pc), .val (.int pd), .val (.int pn), .val (.int ln), .val (.int rn), .val (.int c0), .val (.int c1), .val (.int d0), .val (.int d1), .unset, .unset, .unset, .unset, .unset, .unset, .unset] []))
  refine own_stW (fun _ k => XS.iload X104.here hx rfl (hb hby at_47) rfl k) ?_
  show own_GoW p e below s _ _ _ _ _ (T104.setTop (mkF m 49 #[.val (.int pa), .val (.int pb), .val (.int pc), .val (.int pd), .val (.int pn), .val (.int ln), .val (.int rn), .val (.int c0), .val (.int c1), .val (.int d0), .val (.int d1), .unset, .unset, .unset, .unset, .unset, .unset, .unset] [(.int ln)]))
  refine own_stW (fun _ k => XS.iload X104.here hx rfl (hb hby at_49) rfl k) ?_
  show own_GoW p e below s _ _ _ _ _ (T104.setTop (mkF m 51 #[.val (.int pa), .val (.int pb), .val (.int pc), .val (.int pd), .val (.int pn), .val (.int ln), .val (.int rn), .val (.int c0), .val (.int c1), .val (.int d0), .val (.int d1), .unset, .unset, .unset, .unset, .unset, .unset, .unset] [(.int c0), (.int ln)]))
  refine own_stW (fun _ k => XS.iload X104.here hx rfl (hb hby at_51) rfl k) ?_
  show own_GoW p e below s _ _ _ _ _ (T104.setTop (mkF m 53 #[.val (.int pa), .val (.int pb), .val (.int pc), .val (.int pd), .val (.int pn), .val (.int ln), .val (.int rn), .val (.int c0), .val (.int c1), .val (.int d0), .val (.int d1), .unset, .unset, .unset, .unset, .unset, .unset, .unset] [(.int c1), (.int c0), (.int ln)]))
  obtain ⟨T105, v105, L105, h105, X105, e105, q105, hS105, hZ105, hown105, CH105, st105⟩ := own_callSW X104 hx hZ (y := (⟨"com/example/vetch/vetch/util/CharacterOrderComparePinLaw", "make", "(ICC)Ljava/lang/String;"⟩ : MethodName)) hown hS (by omega) (hw _ (List.mem_of_getElem? (i := 5) rfl)) (hw _ (List.mem_of_getElem? (i := 6) rfl)) (hw _ (List.mem_of_getElem? (i := 2) rfl)) (hw _ (List.mem_of_getElem? (i := 7) rfl)) (by decide) (own_bkS (W := 0) (mkW l Z a0 hw ln c0 c1 h0 n0 O0 CS UT hc0 hc1) hZ (hw _ (List.mem_of_getElem? (i := 7) rfl)) (hw _ (List.mem_of_getElem? (i := 2) rfl)) (by decide) (by decide) hEL CR.1) e104 (by decide) (by decide) (g := (mkF m 53 #[.val (.int pa), .val (.int pb), .val (.int pc), .val (.int pd), .val (.int pn), .val (.int ln), .val (.int rn), .val (.int c0), .val (.int c1), .val (.int d0), .val (.int d1), .unset, .unset, .unset, .unset, .unset, .unset, .unset] [(.int c1), (.int c0), (.int ln)])) rfl (by rw [hml]; rfl) (argsL := [(.int ln), (.int c0), (.int c1)]) (rest := []) (lenOf pd__28ICC_29Ljava_2flang_2fString_3b rfl) rfl rfl (by show 2 * 0 + _ ≤ _; exact Nat.le_of_eq rfl) (hb hby at_53)
  obtain ⟨N105q, b105, rfl, K105, S105⟩ := q105
  have hS := hS105
  have hZ := hZ105
  have hown := hown105
  refine own_stW st105 ?_
  have zK105 := K105.1
  have CR106 := CR.trans CH105
  have N105 := Fr.app N104 N105q
  have A105 := S105.1
  show own_GoW p e below s _ _ _ _ _ (T105.setTop (mkF m 56 #[.val (.int pa), .val (.int pb), .val (.int pc), .val (.int pd), .val (.int pn), .val (.int ln), .val (.int rn), .val (.int c0), .val (.int c1), .val (.int d0), .val (.int d1), .unset, .unset, .unset, .unset, .unset, .unset, .unset] [(.ref b105)]))
  refine own_stW (fun _ k => XS.astore X105.here hx rfl (hb hby at_56) rfl rfl (l' := #[.val (.int pa), .val (.int pb), .val (.int pc), .val (.int pd), .val (.int pn), .val (.int ln), .val (.int rn), .val (.int c0), .val (.int c1), .val (.int d0), .val (.int d1), .val (.ref b105), .unset, .unset, .unset, .unset, .unset, .unset]) rfl k) ?_
  show own_GoW p e below s _ _ _ _ _ (T105.setTop (mkF m 58 #[.val (.int pa), .val (.int pb), .val (.int pc), .val (.int pd), .val (.int pn), .val (.int ln), .val (.int rn), .val (.int c0), .val (.int c1), .val (.int d0), .val (.int d1), .val (.ref b105), .unset, .unset, .unset, .unset, .unset, .unset] []))
  refine own_stW (fun _ k => XS.iload X105.here hx rfl (hb hby at_58) rfl k) ?_
  show own_GoW p e below s _ _ _ _ _ (T105.setTop (mkF m 60 #[.val (.int pa), .val (.int pb), .val (.int pc), .val (.int pd), .val (.int pn), .val (.int ln), .val (.int rn), .val (.int c0), .val (.int c1), .val (.int d0), .val (.int d1), .val (.ref b105), .unset, .unset, .unset, .unset, .unset, .unset] [(.int rn)]))
  refine own_stW (fun _ k => XS.iload X105.here hx rfl (hb hby at_60) rfl k) ?_
  show own_GoW p e below s _ _ _ _ _ (T105.setTop (mkF m 62 #[.val (.int pa), .val (.int pb), .val (.int pc), .val (.int pd), .val (.int pn), .val (.int ln), .val (.int rn), .val (.int c0), .val (.int c1), .val (.int d0), .val (.int d1), .val (.ref b105), .unset, .unset, .unset, .unset, .unset, .unset] [(.int d0), (.int rn)]))
  refine own_stW (fun _ k => XS.iload X105.here hx rfl (hb hby at_62) rfl k) ?_
  show own_GoW p e below s _ _ _ _ _ (T105.setTop (mkF m 64 #[.val (.int pa), .val (.int pb), .val (.int pc), .val (.int pd), .val (.int pn), .val (.int ln), .val (.int rn), .val (.int c0), .val (.int c1), .val (.int d0), .val (.int d1), .val (.ref b105), .unset, .unset, .unset, .unset, .unset, .unset] [(.int d1), (.int d0), (.int rn)]))
  have O107 : Old Z n0 h105 := O0.keep ((Keep.refl h0 []).trans K105 all0) all0
  obtain ⟨T108, v108, L108, h108, X108, e108, q108, hS108, hZ108, hown108, CH108, st108⟩ := own_callSW X105 hx hZ (y := (⟨"com/example/vetch/vetch/util/CharacterOrderComparePinLaw", "make", "(ICC)Ljava/lang/String;"⟩ : MethodName)) hown hS (by omega) (hw _ (List.mem_of_getElem? (i := 5) rfl)) (hw _ (List.mem_of_getElem? (i := 6) rfl)) (hw _ (List.mem_of_getElem? (i := 2) rfl)) (hw _ (List.mem_of_getElem? (i := 7) rfl)) (by decide) (own_bkS (W := 0) (mkW l Z a0 hw rn d0 d1 h105 n0 O107 CS UT hd0 hd1) hZ (hw _ (List.mem_of_getElem? (i := 7) rfl)) (hw _ (List.mem_of_getElem? (i := 2) rfl)) (by decide) (by decide) hEL CR106.1) e105 (by decide) (by decide) (g := (mkF m 64 #[.val (.int pa), .val (.int pb), .val (.int pc), .val (.int pd), .val (.int pn), .val (.int ln), .val (.int rn), .val (.int c0), .val (.int c1), .val (.int d0), .val (.int d1), .val (.ref b105), .unset, .unset, .unset, .unset, .unset, .unset] [(.int d1), (.int d0), (.int rn)])) rfl (by rw [hml]; rfl) (argsL := [(.int rn), (.int d0), (.int d1)]) (rest := []) (lenOf pd__28ICC_29Ljava_2flang_2fString_3b rfl) rfl rfl (by show 2 * 0 + _ ≤ _; exact Nat.le_of_eq rfl) (hb hby at_64)
  obtain ⟨N108q, b108, rfl, K108, S108⟩ := q108
  have hS := hS108
  have hZ := hZ108
  have hown := hown108
  refine own_stW st108 ?_
  have zK108 := K108.1
  have CR109 := CR106.trans CH108
  have N108 := Fr.app N105 N108q
  have A108 := S108.1
  show own_GoW p e below s _ _ _ _ _ (T108.setTop (mkF m 67 #[.val (.int pa), .val (.int pb), .val (.int pc), .val (.int pd), .val (.int pn), .val (.int ln), .val (.int rn), .val (.int c0), .val (.int c1), .val (.int d0), .val (.int d1), .val (.ref b105), .unset, .unset, .unset, .unset, .unset, .unset] [(.ref b108)]))
  refine own_stW (fun _ k => XS.astore X108.here hx rfl (hb hby at_67) rfl rfl (l' := #[.val (.int pa), .val (.int pb), .val (.int pc), .val (.int pd), .val (.int pn), .val (.int ln), .val (.int rn), .val (.int c0), .val (.int c1), .val (.int d0), .val (.int d1), .val (.ref b105), .val (.ref b108), .unset, .unset, .unset, .unset, .unset]) rfl k) ?_
  show own_GoW p e below s _ _ _ _ _ (T108.setTop (mkF m 69 #[.val (.int pa), .val (.int pb), .val (.int pc), .val (.int pd), .val (.int pn), .val (.int ln), .val (.int rn), .val (.int c0), .val (.int c1), .val (.int d0), .val (.int d1), .val (.ref b105), .val (.ref b108), .unset, .unset, .unset, .unset, .unset] []))
  refine own_stW (fun _ k => XS.iload X108.here hx rfl (hb hby at_69) rfl k) ?_
  show own_GoW p e below s _ _ _ _ _ (T108.setTop (mkF m 71 #[.val (.int pa), .val (.int pb), .val (.int pc), .val (.int pd), .val (.int pn), .val (.int ln), .val (.int rn), .val (.int c0), .val (.int c1), .val (.int d0), .val (.int d1), .val (.ref b105), .val (.ref b108), .unset, .unset, .unset, .unset, .unset] [(.int ln)]))
  refine own_stW (fun _ k => XS.iload X108.here hx rfl (hb hby at_71) rfl k) ?_
  show own_GoW p e below s _ _ _ _ _ (T108.setTop (mkF m 73 #[.val (.int pa), .val (.int pb), .val (.int pc), .val (.int pd), .val (.int pn), .val (.int ln), .val (.int rn), .val (.int c0), .val (.int c1), .val (.int d0), .val (.int d1), .val (.ref b105), .val (.ref b108), .unset, .unset, .unset, .unset, .unset] [(.int c0), (.int ln)]))
  refine own_stW (fun _ k => XS.iload X108.here hx rfl (hb hby at_73) rfl k) ?_
  show own_GoW p e below s _ _ _ _ _ (T108.setTop (mkF m 75 #[.val (.int pa), .val (.int pb), .val (.int pc), .val (.int pd), .val (.int pn), .val (.int ln), .val (.int rn), .val (.int c0), .val (.int c1), .val (.int d0), .val (.int d1), .val (.ref b105), .val (.ref b108), .unset, .unset, .unset, .unset, .unset] [(.int c1), (.int c0), (.int ln)]))
  have O110 : Old Z n0 h108 := O107.keep ((Keep.refl h105 []).trans K108 all0) all0
  obtain ⟨T111, v111, L111, h111, X111, e111, q111, st111⟩ := own_callS X108 hx hZ (y := (⟨"com/example/vetch/vetch/util/CharacterOrderComparePinLaw", "points", "(ICC)[I"⟩ : MethodName)) hown (hw _ (List.mem_of_getElem? (i := 30) rfl)) (hw _ (List.mem_of_getElem? (i := 31) rfl)) (hw _ (List.mem_of_getElem? (i := 2) rfl)) (hw _ (List.mem_of_getElem? (i := 32) rfl)) (by decide) (own_bk (W := 0) (ptW l Z a0 hw ln c0 c1 h108 n0 O110) hZ (hw _ (List.mem_of_getElem? (i := 32) rfl)) (hw _ (List.mem_of_getElem? (i := 2) rfl)) (by decide) (by decide)) e108 (by decide) (by decide) (g := (mkF m 75 #[.val (.int pa), .val (.int pb), .val (.int pc), .val (.int pd), .val (.int pn), .val (.int ln), .val (.int rn), .val (.int c0), .val (.int c1), .val (.int d0), .val (.int d1), .val (.ref b105), .val (.ref b108), .unset, .unset, .unset, .unset, .unset] [(.int c1), (.int c0), (.int ln)])) rfl (by rw [hml]; rfl) (argsL := [(.int ln), (.int c0), (.int c1)]) (rest := []) (lenOf pd__28ICC_29_5bI rfl) rfl rfl (by show 2 * 0 + _ ≤ _; exact Nat.le_of_eq rfl) (hb hby at_75)
  obtain ⟨N111q, b111, k111, rfl, K111, zb111, zc111, V111⟩ := q111
  refine own_stW st111 ?_
  have zK111 := K111.1
  have N111 := Fr.app N108 N111q
  show own_GoW p e below s _ _ _ _ _ (T111.setTop (mkF m 78 #[.val (.int pa), .val (.int pb), .val (.int pc), .val (.int pd), .val (.int pn), .val (.int ln), .val (.int rn), .val (.int c0), .val (.int c1), .val (.int d0), .val (.int d1), .val (.ref b105), .val (.ref b108), .unset, .unset, .unset, .unset, .unset] [(.ref b111)]))
  refine own_stW (fun _ k => XS.astore X111.here hx rfl (hb hby at_78) rfl rfl (l' := #[.val (.int pa), .val (.int pb), .val (.int pc), .val (.int pd), .val (.int pn), .val (.int ln), .val (.int rn), .val (.int c0), .val (.int c1), .val (.int d0), .val (.int d1), .val (.ref b105), .val (.ref b108), .val (.ref b111), .unset, .unset, .unset, .unset]) rfl k) ?_
  show own_GoW p e below s _ _ _ _ _ (T111.setTop (mkF m 80 #[.val (.int pa), .val (.int pb), .val (.int pc), .val (.int pd), .val (.int pn), .val (.int ln), .val (.int rn), .val (.int c0), .val (.int c1), .val (.int d0), .val (.int d1), .val (.ref b105), .val (.ref b108), .val (.ref b111), .unset, .unset, .unset, .unset] []))
  refine own_stW (fun _ k => XS.iload X111.here hx rfl (hb hby at_80) rfl k) ?_
  show own_GoW p e below s _ _ _ _ _ (T111.setTop (mkF m 82 #[.val (.int pa), .val (.int pb), .val (.int pc), .val (.int pd), .val (.int pn), .val (.int ln), .val (.int rn), .val (.int c0), .val (.int c1), .val (.int d0), .val (.int d1), .val (.ref b105), .val (.ref b108), .val (.ref b111), .unset, .unset, .unset, .unset] [(.int rn)]))
  refine own_stW (fun _ k => XS.iload X111.here hx rfl (hb hby at_82) rfl k) ?_
  show own_GoW p e below s _ _ _ _ _ (T111.setTop (mkF m 84 #[.val (.int pa), .val (.int pb), .val (.int pc), .val (.int pd), .val (.int pn), .val (.int ln), .val (.int rn), .val (.int c0), .val (.int c1), .val (.int d0), .val (.int d1), .val (.ref b105), .val (.ref b108), .val (.ref b111), .unset, .unset, .unset, .unset] [(.int d0), (.int rn)]))
  refine own_stW (fun _ k => XS.iload X111.here hx rfl (hb hby at_84) rfl k) ?_
  show own_GoW p e below s _ _ _ _ _ (T111.setTop (mkF m 86 #[.val (.int pa), .val (.int pb), .val (.int pc), .val (.int pd), .val (.int pn), .val (.int ln), .val (.int rn), .val (.int c0), .val (.int c1), .val (.int d0), .val (.int d1), .val (.ref b105), .val (.ref b108), .val (.ref b111), .unset, .unset, .unset, .unset] [(.int d1), (.int d0), (.int rn)]))
  have O112 : Old Z n0 h111 := O110.keep ((Keep.refl h108 []).trans K111 all0) all0
  obtain ⟨T113, v113, L113, h113, X113, e113, q113, st113⟩ := own_callS X111 hx hZ (y := (⟨"com/example/vetch/vetch/util/CharacterOrderComparePinLaw", "points", "(ICC)[I"⟩ : MethodName)) hown (hw _ (List.mem_of_getElem? (i := 30) rfl)) (hw _ (List.mem_of_getElem? (i := 31) rfl)) (hw _ (List.mem_of_getElem? (i := 2) rfl)) (hw _ (List.mem_of_getElem? (i := 32) rfl)) (by decide) (own_bk (W := 0) (ptW l Z a0 hw rn d0 d1 h111 n0 O112) hZ (hw _ (List.mem_of_getElem? (i := 32) rfl)) (hw _ (List.mem_of_getElem? (i := 2) rfl)) (by decide) (by decide)) e111 (by decide) (by decide) (g := (mkF m 86 #[.val (.int pa), .val (.int pb), .val (.int pc), .val (.int pd), .val (.int pn), .val (.int ln), .val (.int rn), .val (.int c0), .val (.int c1), .val (.int d0), .val (.int d1), .val (.ref b105), .val (.ref b108), .val (.ref b111), .unset, .unset, .unset, .unset] [(.int d1), (.int d0), (.int rn)])) rfl (by rw [hml]; rfl) (argsL := [(.int rn), (.int d0), (.int d1)]) (rest := []) (lenOf pd__28ICC_29_5bI rfl) rfl rfl (by show 2 * 0 + _ ≤ _; exact Nat.le_of_eq rfl) (hb hby at_86)
  obtain ⟨N113q, b113, k113, rfl, K113, zb113, zc113, V113⟩ := q113
  refine own_stW st113 ?_
  have zK113 := K113.1
  have N113 := Fr.app N111 N113q
  show own_GoW p e below s _ _ _ _ _ (T113.setTop (mkF m 89 #[.val (.int pa), .val (.int pb), .val (.int pc), .val (.int pd), .val (.int pn), .val (.int ln), .val (.int rn), .val (.int c0), .val (.int c1), .val (.int d0), .val (.int d1), .val (.ref b105), .val (.ref b108), .val (.ref b111), .unset, .unset, .unset, .unset] [(.ref b113)]))
  refine own_stW (fun _ k => XS.astore X113.here hx rfl (hb hby at_89) rfl rfl (l' := #[.val (.int pa), .val (.int pb), .val (.int pc), .val (.int pd), .val (.int pn), .val (.int ln), .val (.int rn), .val (.int c0), .val (.int c1), .val (.int d0), .val (.int d1), .val (.ref b105), .val (.ref b108), .val (.ref b111), .val (.ref b113), .unset, .unset, .unset]) rfl k) ?_
  show own_GoW p e below s _ _ _ _ _ (T113.setTop (mkF m 91 #[.val (.int pa), .val (.int pb), .val (.int pc), .val (.int pd), .val (.int pn), .val (.int ln), .val (.int rn), .val (.int c0), .val (.int c1), .val (.int d0), .val (.int d1), .val (.ref b105), .val (.ref b108), .val (.ref b111), .val (.ref b113), .unset, .unset, .unset] []))
  refine own_stW (fun _ k => XS.aload X113.here hx rfl (hb hby at_91) rfl rfl k) ?_
  show own_GoW p e below s _ _ _ _ _ (T113.setTop (mkF m 93 #[.val (.int pa), .val (.int pb), .val (.int pc), .val (.int pd), .val (.int pn), .val (.int ln), .val (.int rn), .val (.int c0), .val (.int c1), .val (.int d0), .val (.int d1), .val (.ref b105), .val (.ref b108), .val (.ref b111), .val (.ref b113), .unset, .unset, .unset] [(.ref b111)]))
  refine own_stW (fun _ k => XS.aload X113.here hx rfl (hb hby at_93) rfl rfl k) ?_
  show own_GoW p e below s _ _ _ _ _ (T113.setTop (mkF m 95 #[.val (.int pa), .val (.int pb), .val (.int pc), .val (.int pd), .val (.int pn), .val (.int ln), .val (.int rn), .val (.int c0), .val (.int c1), .val (.int d0), .val (.int d1), .val (.ref b105), .val (.ref b108), .val (.ref b111), .val (.ref b113), .unset, .unset, .unset] [(.ref b113), (.ref b111)]))
  have O114 : Old Z n0 h113 := O112.keep ((Keep.refl h111 []).trans K113 all0) all0
  have f115 := (V111.keep ((Keep.refl h111 []).trans K113 all0) nin0)
  obtain ⟨T116, v116, L116, h116, X116, e116, q116, st116⟩ := own_callS X113 hx hZ (y := (⟨"com/example/vetch/vetch/util/CharacterOrderComparePinLaw", "expected", "([I[I)I"⟩ : MethodName)) hown (hw _ (List.mem_of_getElem? (i := 34) rfl)) (hw _ (List.mem_of_getElem? (i := 35) rfl)) (hw _ (List.mem_of_getElem? (i := 2) rfl)) (hw _ (List.mem_of_getElem? (i := 36) rfl)) (by decide) (own_bk (W := 0) (exW l Z a0 hw b111 b113 _ _ (own_pts ln c0 c1) (own_pts rn d0 d1) h113 n0 O114 f115 V113) hZ (hw _ (List.mem_of_getElem? (i := 36) rfl)) (hw _ (List.mem_of_getElem? (i := 2) rfl)) (by decide) (by decide)) e113 (by decide) (by decide) (g := (mkF m 95 #[.val (.int pa), .val (.int pb), .val (.int pc), .val (.int pd), .val (.int pn), .val (.int ln), .val (.int rn), .val (.int c0), .val (.int c1), .val (.int d0), .val (.int d1), .val (.ref b105), .val (.ref b108), .val (.ref b111), .val (.ref b113), .unset, .unset, .unset] [(.ref b113), (.ref b111)])) rfl (by rw [hml]; rfl) (argsL := [(.ref b111), (.ref b113)]) (rest := []) (lenOf pd__28_5bI_5bI_29I rfl) rfl rfl (by show 2 * 0 + _ ≤ _; exact Nat.le_of_eq rfl) (hb hby at_95)
  obtain ⟨rfl, N116q, hq116⟩ := q116
  replace e116 := e116.trans hq116
  refine own_stW st116 ?_
  have N116 := Fr.app N113 N116q
  show own_GoW p e below s _ _ _ _ _ (T116.setTop (mkF m 98 #[.val (.int pa), .val (.int pb), .val (.int pc), .val (.int pd), .val (.int pn), .val (.int ln), .val (.int rn), .val (.int c0), .val (.int c1), .val (.int d0), .val (.int d1), .val (.ref b105), .val (.ref b108), .val (.ref b111), .val (.ref b113), .unset, .unset, .unset] [(.int (own_exp (own_pts ln c0 c1) (own_pts rn d0 d1)))]))
  refine own_stW (fun _ k => XS.istore X116.here hx rfl (hb hby at_98) rfl (l' := #[.val (.int pa), .val (.int pb), .val (.int pc), .val (.int pd), .val (.int pn), .val (.int ln), .val (.int rn), .val (.int c0), .val (.int c1), .val (.int d0), .val (.int d1), .val (.ref b105), .val (.ref b108), .val (.ref b111), .val (.ref b113), .val (.int (own_exp (own_pts ln c0 c1) (own_pts rn d0 d1))), .unset, .unset]) rfl k) ?_
  show own_GoW p e below s _ _ _ _ _ (T116.setTop (mkF m 100 #[.val (.int pa), .val (.int pb), .val (.int pc), .val (.int pd), .val (.int pn), .val (.int ln), .val (.int rn), .val (.int c0), .val (.int c1), .val (.int d0), .val (.int d1), .val (.ref b105), .val (.ref b108), .val (.ref b111), .val (.ref b113), .val (.int (own_exp (own_pts ln c0 c1) (own_pts rn d0 d1))), .unset, .unset] []))
  refine own_stW (fun _ k => XS.aload X116.here hx rfl (hb hby at_100) rfl rfl k) ?_
  show own_GoW p e below s _ _ _ _ _ (T116.setTop (mkF m 102 #[.val (.int pa), .val (.int pb), .val (.int pc), .val (.int pd), .val (.int pn), .val (.int ln), .val (.int rn), .val (.int c0), .val (.int c1), .val (.int d0), .val (.int d1), .val (.ref b105), .val (.ref b108), .val (.ref b111), .val (.ref b113), .val (.int (own_exp (own_pts ln c0 c1) (own_pts rn d0 d1))), .unset, .unset] [(.ref b105)]))
  refine own_stW (fun _ k => XS.aload X116.here hx rfl (hb hby at_102) rfl rfl k) ?_
  show own_GoW p e below s _ _ _ _ _ (T116.setTop (mkF m 104 #[.val (.int pa), .val (.int pb), .val (.int pc), .val (.int pd), .val (.int pn), .val (.int ln), .val (.int rn), .val (.int c0), .val (.int c1), .val (.int d0), .val (.int d1), .val (.ref b105), .val (.ref b108), .val (.ref b111), .val (.ref b113), .val (.int (own_exp (own_pts ln c0 c1) (own_pts rn d0 d1))), .unset, .unset] [(.ref b108), (.ref b105)]))
  have f117 := (S105.keep ((((Keep.refl h105 []).trans K108 all0).trans K111 all0).trans K113 all0) nin0)
  have f118 := (S108.keep (((Keep.refl h108 []).trans K111 all0).trans K113 all0) nin0)
  obtain ⟨T119, v119, L119, h119, X119, e119, q119, st119⟩ := own_callS X116 hx hZ (y := (⟨"com/example/vetch/vetch/util/CharacterOrder", "compare", "(Ljava/lang/String;Ljava/lang/String;)I"⟩ : MethodName)) hown (hw _ (List.mem_of_getElem? (i := 37) rfl)) (hw _ (List.mem_of_getElem? (i := 38) rfl)) (hw _ (List.mem_of_getElem? (i := 39) rfl)) (hw _ (List.mem_of_getElem? (i := 40) rfl)) (by decide) (own_bk (W := 0) (cmW l Z a0 hw b105 b108 (own_mk ln c0 c1) (own_mk rn d0 d1) h113 n0 O114 CS FM UT (own_mkl _ _ _) (own_mkl _ _ _) f117 f118) hZ (hw _ (List.mem_of_getElem? (i := 40) rfl)) (hw _ (List.mem_of_getElem? (i := 39) rfl)) (by decide) (by decide)) e116 (by decide) (by decide) (g := (mkF m 104 #[.val (.int pa), .val (.int pb), .val (.int pc), .val (.int pd), .val (.int pn), .val (.int ln), .val (.int rn), .val (.int c0), .val (.int c1), .val (.int d0), .val (.int d1), .val (.ref b105), .val (.ref b108), .val (.ref b111), .val (.ref b113), .val (.int (own_exp (own_pts ln c0 c1) (own_pts rn d0 d1))), .unset, .unset] [(.ref b108), (.ref b105)])) rfl (by rw [hml]; rfl) (argsL := [(.ref b105), (.ref b108)]) (rest := []) (lenOf pd__28Ljava_2flang_2fString_3bLjava_2flang_2fString_3b_29I rfl) rfl rfl (by show 2 * 0 + _ ≤ _; exact Nat.le_of_eq rfl) (hb hby at_104)
  obtain ⟨r119, rfl, hr119, N119q, hq119⟩ := q119
  replace e119 := e119.trans hq119
  refine own_stW st119 ?_
  have N119 := Fr.app N116 N119q
  show own_GoW p e below s _ _ _ _ _ (T119.setTop (mkF m 107 #[.val (.int pa), .val (.int pb), .val (.int pc), .val (.int pd), .val (.int pn), .val (.int ln), .val (.int rn), .val (.int c0), .val (.int c1), .val (.int d0), .val (.int d1), .val (.ref b105), .val (.ref b108), .val (.ref b111), .val (.ref b113), .val (.int (own_exp (own_pts ln c0 c1) (own_pts rn d0 d1))), .unset, .unset] [(.int r119)]))
  refine own_stW (fun _ k => XS.istore X119.here hx rfl (hb hby at_107) rfl (l' := #[.val (.int pa), .val (.int pb), .val (.int pc), .val (.int pd), .val (.int pn), .val (.int ln), .val (.int rn), .val (.int c0), .val (.int c1), .val (.int d0), .val (.int d1), .val (.ref b105), .val (.ref b108), .val (.ref b111), .val (.ref b113), .val (.int (own_exp (own_pts ln c0 c1) (own_pts rn d0 d1))), .val (.int r119), .unset]) rfl k) ?_
  show own_GoW p e below s _ _ _ _ _ (T119.setTop (mkF m 109 #[.val (.int pa), .val (.int pb), .val (.int pc), .val (.int pd), .val (.int pn), .val (.int ln), .val (.int rn), .val (.int c0), .val (.int c1), .val (.int d0), .val (.int d1), .val (.ref b105), .val (.ref b108), .val (.ref b111), .val (.ref b113), .val (.int (own_exp (own_pts ln c0 c1) (own_pts rn d0 d1))), .val (.int r119), .unset] []))
  refine own_stW (fun _ k => XS.aload X119.here hx rfl (hb hby at_109) rfl rfl k) ?_
  show own_GoW p e below s _ _ _ _ _ (T119.setTop (mkF m 111 #[.val (.int pa), .val (.int pb), .val (.int pc), .val (.int pd), .val (.int pn), .val (.int ln), .val (.int rn), .val (.int c0), .val (.int c1), .val (.int d0), .val (.int d1), .val (.ref b105), .val (.ref b108), .val (.ref b111), .val (.ref b113), .val (.int (own_exp (own_pts ln c0 c1) (own_pts rn d0 d1))), .val (.int r119), .unset] [(.ref b108)]))
  refine own_stW (fun _ k => XS.aload X119.here hx rfl (hb hby at_111) rfl rfl k) ?_
  show own_GoW p e below s _ _ _ _ _ (T119.setTop (mkF m 113 #[.val (.int pa), .val (.int pb), .val (.int pc), .val (.int pd), .val (.int pn), .val (.int ln), .val (.int rn), .val (.int c0), .val (.int c1), .val (.int d0), .val (.int d1), .val (.ref b105), .val (.ref b108), .val (.ref b111), .val (.ref b113), .val (.int (own_exp (own_pts ln c0 c1) (own_pts rn d0 d1))), .val (.int r119), .unset] [(.ref b105), (.ref b108)]))
  obtain ⟨T120, v120, L120, h120, X120, e120, q120, st120⟩ := own_callS X119 hx hZ (y := (⟨"com/example/vetch/vetch/util/CharacterOrder", "compare", "(Ljava/lang/String;Ljava/lang/String;)I"⟩ : MethodName)) hown (hw _ (List.mem_of_getElem? (i := 37) rfl)) (hw _ (List.mem_of_getElem? (i := 38) rfl)) (hw _ (List.mem_of_getElem? (i := 39) rfl)) (hw _ (List.mem_of_getElem? (i := 40) rfl)) (by decide) (own_bk (W := 0) (cmW l Z a0 hw b108 b105 (own_mk rn d0 d1) (own_mk ln c0 c1) h113 n0 O114 CS FM UT (own_mkl _ _ _) (own_mkl _ _ _) f118 f117) hZ (hw _ (List.mem_of_getElem? (i := 40) rfl)) (hw _ (List.mem_of_getElem? (i := 39) rfl)) (by decide) (by decide)) e119 (by decide) (by decide) (g := (mkF m 113 #[.val (.int pa), .val (.int pb), .val (.int pc), .val (.int pd), .val (.int pn), .val (.int ln), .val (.int rn), .val (.int c0), .val (.int c1), .val (.int d0), .val (.int d1), .val (.ref b105), .val (.ref b108), .val (.ref b111), .val (.ref b113), .val (.int (own_exp (own_pts ln c0 c1) (own_pts rn d0 d1))), .val (.int r119), .unset] [(.ref b105), (.ref b108)])) rfl (by rw [hml]; rfl) (argsL := [(.ref b108), (.ref b105)]) (rest := []) (lenOf pd__28Ljava_2flang_2fString_3bLjava_2flang_2fString_3b_29I rfl) rfl rfl (by show 2 * 0 + _ ≤ _; exact Nat.le_of_eq rfl) (hb hby at_113)
  obtain ⟨r120, rfl, hr120, N120q, hq120⟩ := q120
  replace e120 := e120.trans hq120
  refine own_stW st120 ?_
  have N120 := Fr.app N119 N120q
  show own_GoW p e below s _ _ _ _ _ (T120.setTop (mkF m 116 #[.val (.int pa), .val (.int pb), .val (.int pc), .val (.int pd), .val (.int pn), .val (.int ln), .val (.int rn), .val (.int c0), .val (.int c1), .val (.int d0), .val (.int d1), .val (.ref b105), .val (.ref b108), .val (.ref b111), .val (.ref b113), .val (.int (own_exp (own_pts ln c0 c1) (own_pts rn d0 d1))), .val (.int r119), .unset] [(.int r120)]))
  refine own_stW (fun _ k => XS.istore X120.here hx rfl (hb hby at_116) rfl (l' := #[.val (.int pa), .val (.int pb), .val (.int pc), .val (.int pd), .val (.int pn), .val (.int ln), .val (.int rn), .val (.int c0), .val (.int c1), .val (.int d0), .val (.int d1), .val (.ref b105), .val (.ref b108), .val (.ref b111), .val (.ref b113), .val (.int (own_exp (own_pts ln c0 c1) (own_pts rn d0 d1))), .val (.int r119), .val (.int r120)]) rfl k) ?_
  show own_GoW p e below s _ _ _ _ _ (T120.setTop (mkF m 118 #[.val (.int pa), .val (.int pb), .val (.int pc), .val (.int pd), .val (.int pn), .val (.int ln), .val (.int rn), .val (.int c0), .val (.int c1), .val (.int d0), .val (.int d1), .val (.ref b105), .val (.ref b108), .val (.ref b111), .val (.ref b113), .val (.int (own_exp (own_pts ln c0 c1) (own_pts rn d0 d1))), .val (.int r119), .val (.int r120)] []))
  refine own_stW (fun _ k => XS.iload X120.here hx rfl (hb hby at_118) rfl k) ?_
  show own_GoW p e below s _ _ _ _ _ (T120.setTop (mkF m 120 #[.val (.int pa), .val (.int pb), .val (.int pc), .val (.int pd), .val (.int pn), .val (.int ln), .val (.int rn), .val (.int c0), .val (.int c1), .val (.int d0), .val (.int d1), .val (.ref b105), .val (.ref b108), .val (.ref b111), .val (.ref b113), .val (.int (own_exp (own_pts ln c0 c1) (own_pts rn d0 d1))), .val (.int r119), .val (.int r120)] [(.int r119)]))
  obtain ⟨T121, v121, L121, h121, X121, e121, q121, st121⟩ := own_callS X120 hx hZ (y := (⟨"com/example/vetch/vetch/util/CharacterOrderComparePinLaw", "sign", "(I)I"⟩ : MethodName)) hown (hw _ (List.mem_of_getElem? (i := 60) rfl)) (hw _ (List.mem_of_getElem? (i := 61) rfl)) (hw _ (List.mem_of_getElem? (i := 2) rfl)) (hw _ (List.mem_of_getElem? (i := 62) rfl)) (by decide) (own_bk (W := 0) (sgW l Z a0 hw r119 h113 n0 O114) hZ (hw _ (List.mem_of_getElem? (i := 62) rfl)) (hw _ (List.mem_of_getElem? (i := 2) rfl)) (by decide) (by decide)) e120 (by decide) (by decide) (g := (mkF m 120 #[.val (.int pa), .val (.int pb), .val (.int pc), .val (.int pd), .val (.int pn), .val (.int ln), .val (.int rn), .val (.int c0), .val (.int c1), .val (.int d0), .val (.int d1), .val (.ref b105), .val (.ref b108), .val (.ref b111), .val (.ref b113), .val (.int (own_exp (own_pts ln c0 c1) (own_pts rn d0 d1))), .val (.int r119), .val (.int r120)] [(.int r119)])) rfl (by rw [hml]; rfl) (argsL := [(.int r119)]) (rest := []) (lenOf pd__28I_29I rfl) rfl rfl (by show 2 * 0 + _ ≤ _; exact Nat.le_of_eq rfl) (hb hby at_120)
  obtain ⟨rfl, N121q, hq121⟩ := q121
  replace e121 := e121.trans hq121
  refine own_stW st121 ?_
  have N121 := Fr.app N120 N121q
  show own_GoW p e below s _ _ _ _ _ (T121.setTop (mkF m 123 #[.val (.int pa), .val (.int pb), .val (.int pc), .val (.int pd), .val (.int pn), .val (.int ln), .val (.int rn), .val (.int c0), .val (.int c1), .val (.int d0), .val (.int d1), .val (.ref b105), .val (.ref b108), .val (.ref b111), .val (.ref b113), .val (.int (own_exp (own_pts ln c0 c1) (own_pts rn d0 d1))), .val (.int r119), .val (.int r120)] [(.int (own_sg r119))]))
  refine own_stW (fun _ k => XS.iload X121.here hx rfl (hb hby at_123) rfl k) ?_
  show own_GoW p e below s _ _ _ _ _ (T121.setTop (mkF m 125 #[.val (.int pa), .val (.int pb), .val (.int pc), .val (.int pd), .val (.int pn), .val (.int ln), .val (.int rn), .val (.int c0), .val (.int c1), .val (.int d0), .val (.int d1), .val (.ref b105), .val (.ref b108), .val (.ref b111), .val (.ref b113), .val (.int (own_exp (own_pts ln c0 c1) (own_pts rn d0 d1))), .val (.int r119), .val (.int r120)] [(.int (own_exp (own_pts ln c0 c1) (own_pts rn d0 d1))), (.int (own_sg r119))]))
  refine own_stW (fun _ k => XS.icmpNo X121.here hx rfl (hb hby at_125) rfl (teq (own_final (own_mkD hln hc0 hc1) (own_mkD hrn hd0 hd1) hr119)).2 k) ?_
  show own_GoW p e below s _ _ _ _ _ (T121.setTop (mkF m 128 #[.val (.int pa), .val (.int pb), .val (.int pc), .val (.int pd), .val (.int pn), .val (.int ln), .val (.int rn), .val (.int c0), .val (.int c1), .val (.int d0), .val (.int d1), .val (.ref b105), .val (.ref b108), .val (.ref b111), .val (.ref b113), .val (.int (own_exp (own_pts ln c0 c1) (own_pts rn d0 d1))), .val (.int r119), .val (.int r120)] []))
  refine own_stW (fun _ k => XS.iload X121.here hx rfl (hb hby at_128) rfl k) ?_
  show own_GoW p e below s _ _ _ _ _ (T121.setTop (mkF m 130 #[.val (.int pa), .val (.int pb), .val (.int pc), .val (.int pd), .val (.int pn), .val (.int ln), .val (.int rn), .val (.int c0), .val (.int c1), .val (.int d0), .val (.int d1), .val (.ref b105), .val (.ref b108), .val (.ref b111), .val (.ref b113), .val (.int (own_exp (own_pts ln c0 c1) (own_pts rn d0 d1))), .val (.int r119), .val (.int r120)] [(.int r120)]))
  obtain ⟨T122, v122, L122, h122, X122, e122, q122, st122⟩ := own_callS X121 hx hZ (y := (⟨"com/example/vetch/vetch/util/CharacterOrderComparePinLaw", "sign", "(I)I"⟩ : MethodName)) hown (hw _ (List.mem_of_getElem? (i := 60) rfl)) (hw _ (List.mem_of_getElem? (i := 61) rfl)) (hw _ (List.mem_of_getElem? (i := 2) rfl)) (hw _ (List.mem_of_getElem? (i := 62) rfl)) (by decide) (own_bk (W := 0) (sgW l Z a0 hw r120 h113 n0 O114) hZ (hw _ (List.mem_of_getElem? (i := 62) rfl)) (hw _ (List.mem_of_getElem? (i := 2) rfl)) (by decide) (by decide)) e121 (by decide) (by decide) (g := (mkF m 130 #[.val (.int pa), .val (.int pb), .val (.int pc), .val (.int pd), .val (.int pn), .val (.int ln), .val (.int rn), .val (.int c0), .val (.int c1), .val (.int d0), .val (.int d1), .val (.ref b105), .val (.ref b108), .val (.ref b111), .val (.ref b113), .val (.int (own_exp (own_pts ln c0 c1) (own_pts rn d0 d1))), .val (.int r119), .val (.int r120)] [(.int r120)])) rfl (by rw [hml]; rfl) (argsL := [(.int r120)]) (rest := []) (lenOf pd__28I_29I rfl) rfl rfl (by show 2 * 0 + _ ≤ _; exact Nat.le_of_eq rfl) (hb hby at_130)
  obtain ⟨rfl, N122q, hq122⟩ := q122
  replace e122 := e122.trans hq122
  refine own_stW st122 ?_
  have N122 := Fr.app N121 N122q
  show own_GoW p e below s _ _ _ _ _ (T122.setTop (mkF m 133 #[.val (.int pa), .val (.int pb), .val (.int pc), .val (.int pd), .val (.int pn), .val (.int ln), .val (.int rn), .val (.int c0), .val (.int c1), .val (.int d0), .val (.int d1), .val (.ref b105), .val (.ref b108), .val (.ref b111), .val (.ref b113), .val (.int (own_exp (own_pts ln c0 c1) (own_pts rn d0 d1))), .val (.int r119), .val (.int r120)] [(.int (own_sg r120))]))
  refine own_stW (fun _ k => XS.iload X122.here hx rfl (hb hby at_133) rfl k) ?_
  show own_GoW p e below s _ _ _ _ _ (T122.setTop (mkF m 135 #[.val (.int pa), .val (.int pb), .val (.int pc), .val (.int pd), .val (.int pn), .val (.int ln), .val (.int rn), .val (.int c0), .val (.int c1), .val (.int d0), .val (.int d1), .val (.ref b105), .val (.ref b108), .val (.ref b111), .val (.ref b113), .val (.int (own_exp (own_pts ln c0 c1) (own_pts rn d0 d1))), .val (.int r119), .val (.int r120)] [(.int (own_exp (own_pts ln c0 c1) (own_pts rn d0 d1))), (.int (own_sg r120))]))
  refine own_stW (fun _ k => XS.ineg X122.here hx rfl (hb hby at_135) rfl k) ?_
  show own_GoW p e below s _ _ _ _ _ (T122.setTop (mkF m 136 #[.val (.int pa), .val (.int pb), .val (.int pc), .val (.int pd), .val (.int pn), .val (.int ln), .val (.int rn), .val (.int c0), .val (.int c1), .val (.int d0), .val (.int d1), .val (.ref b105), .val (.ref b108), .val (.ref b111), .val (.ref b113), .val (.int (own_exp (own_pts ln c0 c1) (own_pts rn d0 d1))), .val (.int r119), .val (.int r120)] [(.int (-(own_exp (own_pts ln c0 c1) (own_pts rn d0 d1)))), (.int (own_sg r120))]))
  refine own_stW (fun _ k => XS.icmpNo X122.here hx rfl (hb hby at_136) rfl (teq ((own_final (own_mkD hrn hd0 hd1) (own_mkD hln hc0 hc1) hr120).trans (own_expN _ _))).2 k) ?_
  show own_GoW p e below s _ _ _ _ _ (T122.setTop (mkF m 139 #[.val (.int pa), .val (.int pb), .val (.int pc), .val (.int pd), .val (.int pn), .val (.int ln), .val (.int rn), .val (.int c0), .val (.int c1), .val (.int d0), .val (.int d1), .val (.ref b105), .val (.ref b108), .val (.ref b111), .val (.ref b113), .val (.int (own_exp (own_pts ln c0 c1) (own_pts rn d0 d1))), .val (.int r119), .val (.int r120)] []))
  refine own_stW (fun _ k => XS.iconst X122.here hx rfl (hb hby at_139) k) ?_
  show own_GoW p e below s _ _ _ _ _ (T122.setTop (mkF m 140 #[.val (.int pa), .val (.int pb), .val (.int pc), .val (.int pd), .val (.int pn), .val (.int ln), .val (.int rn), .val (.int c0), .val (.int c1), .val (.int d0), .val (.int d1), .val (.ref b105), .val (.ref b108), .val (.ref b111), .val (.ref b113), .val (.int (own_exp (own_pts ln c0 c1) (own_pts rn d0 d1))), .val (.int r119), .val (.int r120)] [(.int (1 : Int32))]))
  refine own_stW (fun _ k => XS.goto X122.here hx rfl (pc0 := 140) (pc' := 144) rfl (hb hby at_140) (by decide) (by decide) k) ?_
  show own_GoW p e below s _ _ _ _ _ (T122.setTop (mkF m 144 #[.val (.int pa), .val (.int pb), .val (.int pc), .val (.int pd), .val (.int pn), .val (.int ln), .val (.int rn), .val (.int c0), .val (.int c1), .val (.int d0), .val (.int d1), .val (.ref b105), .val (.ref b108), .val (.ref b111), .val (.ref b113), .val (.int (own_exp (own_pts ln c0 c1) (own_pts rn d0 d1))), .val (.int r119), .val (.int r120)] [(.int (1 : Int32))]))
  have CR123 := CR109.trans (CHr.keep (((Keep.refl h108 []).trans K111 all0).trans K113 all0) all0 CR109.1)
  exact own_retW X122 hx hlk e122 hZ hEL hS (by omega) CR123 hret (by decide) (Or.inl ⟨rfl, Or.inr (Or.inl rfl), _, rfl⟩) (hb hby at_144) (by decide) (by decide) ⟨rfl, N122⟩
set_option maxRecDepth 65536 in
set_option maxHeartbeats 40000000 in
theorem comes_1 {Post : Tables → Env → Array Value → State → Outcome → State → Prop} (hpost : ∀ tb e args s v u, (limb_1_1.after args s (.returned v) u = true ∧ limb_1_2.after args s (.returned v) u = true ∧ True) → ReturnedEndW s (.returned v) u (Jvm.fieldLocs frame_1_writes args s ++ Jvm.arrayLocs frame_1_arrays args s ++ Jvm.staticLocs frame_1_statics s) 32 1152 → Post tb e args s (.returned v) u) :
    ArmFor flags0 classFile x code maxLocals ret World_1 tables_1 room_1 Calls_1 rest_1 Pre_1 Post := by
  intro l hfl _ _ p e ha hc hk s m args below hf hA hF happ hP
  obtain ⟨hcalls, hrest, hpre⟩ := hP
  obtain ⟨-, -, -, hnamed, -, -, -, hat⟩ := (Spec.applies_iff hf).mp happ
  obtain ⟨hg, hn⟩ := and_e (Cond.before_iff.mp (show (Jvm.Cond.and given_1 narrow_1).before args s = true from hpre))
  obtain ⟨g2, g3⟩ := and_e hg
  obtain ⟨g4, g5⟩ := and_e g3
  obtain ⟨g6, g7⟩ := and_e g5
  obtain ⟨g8, g9⟩ := and_e g7
  obtain ⟨g10, g11⟩ := and_e g9
  obtain ⟨w0, w1, w2, w3, w4, rfl⟩ : ∃ w0 w1 w2 w3 w4 : Value, args = #[w0, w1, w2, w3, w4] := by
    have hs : args.size = 5 := by simpa [Cond.value, given_1] using g2
    obtain ⟨L⟩ := args
    match L, hs with
    | [w0, w1, w2, w3, w4], _ => exact ⟨w0, w1, w2, w3, w4, rfl⟩
  have hw := fun d (hd : d ∈ tables_1) => atoms_spec (ws := Jvm.Cond.code x code maxLocals ret :: tables_1) hat d (List.mem_cons_of_mem _ hd)
  have hfit : Fit s := fun {y c} hc i hi => by
    obtain ⟨ha, rfl⟩ := Array.getElem?_eq_some_iff.mp hc
    have q := List.all_eq_true.mp ((Array.all_eq_true_iff_forall_mem.mp hF) _ (Array.getElem_mem ha)) i (List.mem_range.mpr hi)
    simpa [Array.getElem?_eq_getElem hi] using q
  obtain ⟨hsets, hown0⟩ := atoms_of _ (rest_1_c_eq ▸ (show rest_1_c.before _ s = true from hrest))
  have hr0 := Cond.before_iff.mp hown0
  obtain ⟨i0, ei0⟩ := is_v g4
  obtain rfl : w0 = (.int i0) := Option.some.inj ei0
  obtain ⟨i1, ei1⟩ := is_v g6
  obtain rfl : w1 = (.int i1) := Option.some.inj ei1
  obtain ⟨i2, ei2⟩ := is_v g8
  obtain rfl : w2 = (.int i2) := Option.some.inj ei2
  obtain ⟨i3, ei3⟩ := is_v g10
  obtain rfl : w3 = (.int i3) := Option.some.inj ei3
  obtain ⟨i4, ei4⟩ := is_v g11
  obtain rfl : w4 = (.int i4) := Option.some.inj ei4
  have n5 := not_v (Cond.before_iff.mp (hsets _ (List.mem_of_getElem? (i := 2) rfl)))
  obtain ⟨zc, ezc⟩ := is_v (Cond.before_iff.mp (hsets _ (List.mem_of_getElem? (i := 1) rfl)))
  have CS : own_CS s := ⟨zc, Sta.start ezc (Or.inl (hsets _ (List.mem_of_getElem? (i := 0) rfl))), gotF (Cond.eq_ints ezc (Term.int_eval (0))) n5⟩
  obtain ⟨fmv, efm, rfm⟩ := isR_v (Cond.before_iff.mp (hsets _ (List.mem_of_getElem? (i := 8) rfl)))
  have FM : own_FM s := ⟨fmv, Sta.start efm (Or.inl (hsets _ (List.mem_of_getElem? (i := 7) rfl))), rfm⟩
  have Ua_ := Sta.start (own_eqI (Cond.before_iff.mp (hsets _ (List.mem_of_getElem? (i := 12) rfl)))) (Or.inl (hsets _ (List.mem_of_getElem? (i := 11) rfl)))
  have Uh_ := Sta.start (own_eqI (Cond.before_iff.mp (hsets _ (List.mem_of_getElem? (i := 15) rfl)))) (Or.inl (hsets _ (List.mem_of_getElem? (i := 14) rfl)))
  have Ul_ := Sta.start (own_eqI (Cond.before_iff.mp (hsets _ (List.mem_of_getElem? (i := 18) rfl)))) (Or.inl (hsets _ (List.mem_of_getElem? (i := 17) rfl)))
  have UT : own_U16 s := ⟨Ua_, Uh_, Ul_⟩
  have hCH : CHv s own_EL s.vm s.heap := CHv.start (own_hEL hw) (fun p hp => (show Jvm.Lit.constHeld s p.1 p.2 from hcalls.1 p (by simpa [consts_1, own_EL] using hp))) (show Jvm.Lit.compactW.before _ s = true from (hsets _ (List.mem_of_getElem? (i := 2) rfl))) (hw _ (List.mem_of_getElem? (i := 23) rfl)) (hw _ (List.mem_of_getElem? (i := 9) rfl))
  obtain ⟨n, o, h1, h2, h3, _, L, rfl, ⟨rfl, N⟩, -, hq⟩ := lawW l s _ hw tables_1 i0 i1 i2 i3 i4 s.heap s.heap.size (Old.start s) CS FM UT p e ha hc hk s m _ below hf ((Spec.applies_iff_loose hf).mp happ).1 ⟨rfl, State.Warmed39.refl s, rfl, hCH⟩ trivial
  refine ⟨n, _, h1, h2, h3, hpost _ _ _ _ _ _ ⟨Cond.after_iff.mpr rfl, Cond.after_iff.mpr (eq_i res_at (Term.int_eval (1)) rfl), trivial⟩ ⟨hq.1, hq.2.1, hq.2.2.1, (hq.2.2.2.sift fun y hy => Or.inr (N y hy)).mono (by decide) (by decide)⟩⟩
theorem main_1_1 : Claimed_1_1 := comes_1 fun _ _ _ _ _ _ h hF => ⟨h.1, hF⟩
theorem main_1_2 : Claimed_1_2 := comes_1 fun _ _ _ _ _ _ h hF => ⟨h.2.1, hF⟩
end Jvm.Pilot.@@N@@
namespace Jvm.Pilot.@@N@@
open Jvm Jvm.ClassFile Sem Op Lib Jvm.Free Jvm.Stand Jvm.Pilot.@@N@@.Jvm.D
/-! MADE BY PROGRAM (witnessworld.py) out of the Statement's table words and the real class files: 24 classes; the members and pool entries that the words name. The judged class is class 1, her method 6. -/
namespace start1
open Jvm.ClassFile
def u (s : String) : CpInfo := .utf8 (stringToUtf16 s)
/-- a pool by its gaps: so many unusable entries, then the entry; so many at the end -/
def gap : Nat → List CpInfo → List CpInfo
  | 0, r => r
  | n + 1, r => .unusable :: gap n r
def poolList (es : List (Nat × CpInfo)) (last : Nat) : List CpInfo := es.foldr (fun e r => gap e.1 (e.2 :: r)) (gap last [])
def pool (es : List (Nat × CpInfo)) (last : Nat) : Array CpInfo := ⟨poolList es last⟩
def fileOf (pool : Array CpInfo) (this : Nat) (attrs : Array Attribute := #[]) (ms : Array MethodInfo := #[]) (fl : Nat := 33) (sup : Nat := 0) (ifs : Array Nat := #[]) (fds : Array FieldInfo := #[]) : ClassFile where
  minorVersion := 0
  majorVersion := 65
  constantPool := pool
  accessFlags := fl
  thisClass := this
  superClass := sup
  interfaces := ifs
  fields := fds
  methods := ms
  attributes := attrs
def plain (name : String) (sup : Option ClassId) : Class where
  name := name
  kind := .ordinary
  loader := none
  accessFlags := 33
  super := sup
  interfaces := #[]
  cf := none
  fields := #[]
  methods := #[]
  instanceTypes := #[]
  staticTypes := #[]
  resolved := #[]
  callSites := []
  init := .initialized
  statics := none
  mirror := none

def pool0 : Array CpInfo := pool [(5, u "<init>"), (0, u "()V"), (1, .class_ 10), (1, u "java/lang/Object")] 113

def k0c0 : Code := { maxStack := 0, maxLocals := 1, code := object_method_1_code, exceptionTable := #[], attributes := #[] }
def k0m0 : Method := { name := "<init>", desc := "()V", sig := { parameters := [], returnType := none }, accessFlags := 1, code := some k0c0 }
/-- java/lang/Object -/
def k0 : Class := { plain "java/lang/Object" none with
  accessFlags := 33
  interfaces := #[]
  cf := some (fileOf pool0 8 #[] #[{ accessFlags := 1, nameIndex := 5, descriptorIndex := 6, attributes := #[] }] 33 0 #[] #[])
  fields := #[]
  methods := #[k0m0]
  instanceTypes := #[]
  staticTypes := #[]
  resolved := Array.replicate 124 none
  statics := none }

def pool1 : Array CpInfo := pool [(2, .class_ 4), (1, u "java/lang/Object"), (0, u "<init>"), (0, u "()V"), (0, .integer 65535), (0, .integer 55296), (0, .integer 56320), (0, .class_ 11), (0, u "java/lang/String"), (0, .methodref 10 13), (0, .nameAndType 5 14), (0, u "([C)V"), (0, .integer 56319), (0, .integer 57343), (0, .integer 65536), (0, .methodref 19 20), (0, .class_ 21), (0, .nameAndType 22 23), (0, u "com/example/vetch/vetch/util/CharacterOrderComparePinLaw"), (0, u "draw"), (0, u "(I)C"), (0, .methodref 19 25), (0, .nameAndType 26 27), (0, u "make"), (0, u "(ICC)Ljava/lang/String;"), (0, .methodref 19 29), (0, .nameAndType 30 31), (0, u "points"), (0, u "(ICC)[I"), (0, .methodref 19 33), (0, .nameAndType 34 35), (0, u "expected"), (0, u "([I[I)I"), (0, .methodref 37 38), (0, .class_ 39), (0, .nameAndType 40 41), (0, u "com/example/vetch/vetch/util/CharacterOrder"), (0, u "compare"), (0, u "(Ljava/lang/String;Ljava/lang/String;)I"), (0, .methodref 19 43), (0, .nameAndType 44 45), (0, u "sign"), (0, u "(I)I"), (5, u "law"), (0, u "(IIIII)Z")] 2

def k1m0 : Method := { name := "<init>", desc := "()V", sig := { parameters := [], returnType := none }, accessFlags := 2, code := none }
def k1c1 : Code := { maxStack := 3, maxLocals := 2, code := method_2_code, exceptionTable := #[], attributes := #[] }
def k1m1 : Method := { name := "draw", desc := "(I)C", sig := { parameters := [.int], returnType := some .char }, accessFlags := 10, code := some k1c1 }
def k1c2 : Code := { maxStack := 6, maxLocals := 3, code := method_3_code, exceptionTable := #[], attributes := #[] }
def k1m2 : Method := { name := "make", desc := "(ICC)Ljava/lang/String;", sig := { parameters := [.int, .char, .char], returnType := some (.object "java/lang/String") }, accessFlags := 10, code := some k1c2 }
def k1c3 : Code := { maxStack := 5, maxLocals := 4, code := method_4_code, exceptionTable := #[], attributes := #[] }
def k1m3 : Method := { name := "points", desc := "(ICC)[I", sig := { parameters := [.int, .char, .char], returnType := some (.array .int) }, accessFlags := 10, code := some k1c3 }
def k1c4 : Code := { maxStack := 1, maxLocals := 1, code := method_5_code, exceptionTable := #[], attributes := #[] }
def k1m4 : Method := { name := "sign", desc := "(I)I", sig := { parameters := [.int], returnType := some .int }, accessFlags := 10, code := some k1c4 }
def k1c5 : Code := { maxStack := 3, maxLocals := 2, code := method_6_code, exceptionTable := #[], attributes := #[] }
def k1m5 : Method := { name := "expected", desc := "([I[I)I", sig := { parameters := [(.array .int), (.array .int)], returnType := some .int }, accessFlags := 10, code := some k1c5 }
def k1c6 : Code := { maxStack := 3, maxLocals := 18, code := code, exceptionTable := #[], attributes := #[] }
def k1m6 : Method := { name := "law", desc := "(IIIII)Z", sig := { parameters := [.int, .int, .int, .int, .int], returnType := some .boolean }, accessFlags := 9, code := some k1c6 }
/-- com/example/vetch/vetch/util/CharacterOrderComparePinLaw -/
def k1 : Class := { plain "com/example/vetch/vetch/util/CharacterOrderComparePinLaw" (some 0) with
  accessFlags := 49
  interfaces := #[]
  cf := some (fileOf pool1 19 #[] #[{ accessFlags := 2, nameIndex := 5, descriptorIndex := 6, attributes := #[] }, { accessFlags := 10, nameIndex := 22, descriptorIndex := 23, attributes := #[] }, { accessFlags := 10, nameIndex := 26, descriptorIndex := 27, attributes := #[] }, { accessFlags := 10, nameIndex := 30, descriptorIndex := 31, attributes := #[] }, { accessFlags := 10, nameIndex := 44, descriptorIndex := 45, attributes := #[] }, { accessFlags := 10, nameIndex := 34, descriptorIndex := 35, attributes := #[] }, { accessFlags := 9, nameIndex := 51, descriptorIndex := 52, attributes := #[] }] 49 2 #[] #[])
  fields := #[]
  methods := #[k1m0, k1m1, k1m2, k1m3, k1m4, k1m5, k1m6]
  instanceTypes := #[]
  staticTypes := #[]
  resolved := Array.replicate 55 none
  statics := none }

def pool2 : Array CpInfo := pool [(1, .class_ 2), (0, u "java/io/Serializable"), (0, .class_ 4), (0, u "java/lang/Object")] 2

/-- java/io/Serializable -/
def k2 : Class := { plain "java/io/Serializable" (some 0) with
  accessFlags := 1537
  interfaces := #[]
  cf := some (fileOf pool2 1 #[] #[] 1537 3 #[] #[])
  fields := #[]
  methods := #[]
  instanceTypes := #[]
  staticTypes := #[]
  resolved := Array.replicate 7 none
  statics := none }

def pool3 : Array CpInfo := pool [(1, .class_ 2), (0, u "java/lang/Comparable"), (0, .class_ 4), (0, u "java/lang/Object")] 7

/-- java/lang/Comparable -/
def k3 : Class := { plain "java/lang/Comparable" (some 0) with
  accessFlags := 1537
  interfaces := #[]
  cf := some (fileOf pool3 1 #[] #[] 1537 3 #[] #[])
  fields := #[]
  methods := #[]
  instanceTypes := #[]
  staticTypes := #[]
  resolved := Array.replicate 12 none
  statics := none }

def pool4 : Array CpInfo := pool [(2, .class_ 4), (1, u "java/lang/CharSequence"), (42, .class_ 48), (0, u "java/lang/CharSequence$1CodePointIterator"), (10, .class_ 60), (0, u "java/lang/CharSequence$1CharIterator"), (5, .class_ 67), (0, u "java/lang/Object")] 63

/-- java/lang/CharSequence -/
def k4 : Class := { plain "java/lang/CharSequence" (some 0) with
  accessFlags := 1537
  interfaces := #[]
  cf := some (fileOf pool4 2 #[.nestMembers #[47, 59]] #[] 1537 66 #[] #[])
  fields := #[]
  methods := #[]
  instanceTypes := #[]
  staticTypes := #[]
  resolved := Array.replicate 131 none
  statics := none }

def pool5 : Array CpInfo := pool [(1, .class_ 2), (0, u "java/lang/constant/Constable"), (0, .class_ 4), (0, u "java/lang/Object")] 6

/-- java/lang/constant/Constable -/
def k5 : Class := { plain "java/lang/constant/Constable" (some 0) with
  accessFlags := 1537
  interfaces := #[]
  cf := some (fileOf pool5 1 #[] #[] 1537 3 #[] #[])
  fields := #[]
  methods := #[]
  instanceTypes := #[]
  staticTypes := #[]
  resolved := Array.replicate 11 none
  statics := none }

def pool6 : Array CpInfo := pool [(1, .class_ 2), (0, u "java/lang/constant/ConstantDesc"), (0, .class_ 4), (0, u "java/lang/Object")] 32

/-- java/lang/constant/ConstantDesc -/
def k6 : Class := { plain "java/lang/constant/ConstantDesc" (some 0) with
  accessFlags := 1537
  interfaces := #[]
  cf := some (fileOf pool6 1 #[] #[] 1537 3 #[] #[])
  fields := #[]
  methods := #[]
  instanceTypes := #[]
  staticTypes := #[]
  resolved := Array.replicate 37 none
  statics := none }

def pool7 : Array CpInfo := pool [(1, .methodref 2 3), (0, .class_ 4), (0, .nameAndType 5 6), (0, u "java/lang/Object"), (0, u "<init>"), (0, u "()V"), (0, .string 8), (0, u ""), (0, .fieldref 10 11), (0, .class_ 12), (0, .nameAndType 13 14), (0, u "java/lang/String"), (0, u "value"), (0, u "[B"), (0, .fieldref 10 16), (0, .nameAndType 17 18), (0, u "coder"), (0, u "B"), (2, u "hash"), (0, u "I"), (2, u "hashIsZero"), (0, u "Z"), (0, .methodref 10 28), (0, .nameAndType 5 29), (0, u "([CIILjava/lang/Void;)V"), (8, .fieldref 10 39), (0, .nameAndType 40 26), (0, u "COMPACT_STRINGS"), (1, .class_ 44), (1, u "java/lang/StringUTF16"), (0, u "compress"), (1, .methodref 42 48), (0, .nameAndType 49 50), (0, u "coderFromArrayLen"), (0, u "([BI)B"), (46, u "([BII)I"), (44, u "()Z"), (34, .methodref 42 178), (0, .nameAndType 45 179), (0, u "([CII)[B"), (154, u "()I"), (0, .methodref 10 336), (0, .nameAndType 17 337), (0, u "()B"), (53, u "(II)V"), (100, .methodref 10 493), (0, .nameAndType 494 142), (0, u "isLatin1"), (4, .methodref 10 500), (0, .nameAndType 501 391), (0, u "checkIndex"), (0, .methodref 42 503), (0, .nameAndType 504 97), (0, u "codePointAt"), (2, u "length"), (67, .class_ 576), (0, u "java/lang/CharSequence"), (22, u "CASE_INSENSITIVE_ORDER"), (0, u "Ljava/util/Comparator;"), (164, u "(I)I"), (244, u "([C)V"), (42, .fieldref 1054 1055), (0, .class_ 1056), (0, .nameAndType 1057 1058), (0, u "jdk/internal/util/Preconditions"), (0, u "SIOOBE_FORMATTER"), (0, u "Ljava/util/function/BiFunction;"), (0, .methodref 1054 1060), (0, .nameAndType 501 1061), (0, u "(IILjava/util/function/BiFunction;)I"), (39, u "serialPersistentFields"), (0, u "[Ljava/io/ObjectStreamField;"), (0, .class_ 1104), (0, u "java/lang/String$CaseInsensitiveComparator"), (1, .class_ 1107), (0, u "java/io/Serializable"), (0, .class_ 1109), (0, u "java/lang/Comparable"), (0, .class_ 1111), (0, u "java/lang/constant/Constable"), (0, .class_ 1113), (0, u "java/lang/constant/ConstantDesc"), (2, u "serialVersionUID"), (0, u "J"), (3, u "REPL"), (0, u "C"), (2, u "LATIN1"), (1, u "UTF16")] 323

def k7m0 : Method := { name := "<init>", desc := "()V", sig := { parameters := [], returnType := none }, accessFlags := 1, code := none }
def k7c1 : Code := { maxStack := 5, maxLocals := 2, code := jdk_42_method_3_code, exceptionTable := #[], attributes := #[] }
def k7m1 : Method := { name := "<init>", desc := "([C)V", sig := { parameters := [(.array .char)], returnType := none }, accessFlags := 1, code := some k7c1 }
def k7c2 : Code := { maxStack := 2, maxLocals := 1, code := jdk_42_method_54_code, exceptionTable := #[], attributes := #[] }
def k7m2 : Method := { name := "length", desc := "()I", sig := { parameters := [], returnType := some .int }, accessFlags := 1, code := some k7c2 }
def k7c3 : Code := { maxStack := 3, maxLocals := 3, code := jdk_42_method_57_code, exceptionTable := #[], attributes := #[] }
def k7m3 : Method := { name := "codePointAt", desc := "(I)I", sig := { parameters := [.int], returnType := some .int }, accessFlags := 1, code := some k7c3 }
def k7c4 : Code := { maxStack := 4, maxLocals := 6, code := jdk_42_method_149_code, exceptionTable := #[], attributes := #[] }
def k7m4 : Method := { name := "<init>", desc := "([CIILjava/lang/Void;)V", sig := { parameters := [(.array .char), .int, .int, (.object "java/lang/Void")], returnType := none }, accessFlags := 2, code := some k7c4 }
def k7c5 : Code := { maxStack := 1, maxLocals := 1, code := jdk_42_method_152_code, exceptionTable := #[], attributes := #[] }
def k7m5 : Method := { name := "coder", desc := "()B", sig := { parameters := [], returnType := some .byte }, accessFlags := 0, code := some k7c5 }
def k7c6 : Code := { maxStack := 1, maxLocals := 1, code := jdk_42_method_154_code, exceptionTable := #[], attributes := #[] }
def k7m6 : Method := { name := "isLatin1", desc := "()Z", sig := { parameters := [], returnType := some .boolean }, accessFlags := 0, code := some k7c6 }
def k7c7 : Code := { maxStack := 3, maxLocals := 2, code := jdk_42_method_155_code, exceptionTable := #[], attributes := #[] }
def k7m7 : Method := { name := "checkIndex", desc := "(II)V", sig := { parameters := [.int, .int], returnType := none }, accessFlags := 8, code := some k7c7 }
/-- java/lang/String -/
def k7 : Class := { plain "java/lang/String" (some 0) with
  accessFlags := 49
  interfaces := #[2, 3, 4, 5, 6]
  cf := some (fileOf pool7 10 #[.nestMembers #[1103]] #[{ accessFlags := 1, nameIndex := 5, descriptorIndex := 6, attributes := #[] }, { accessFlags := 1, nameIndex := 5, descriptorIndex := 1010, attributes := #[] }, { accessFlags := 1, nameIndex := 507, descriptorIndex := 334, attributes := #[] }, { accessFlags := 1, nameIndex := 504, descriptorIndex := 765, attributes := #[] }, { accessFlags := 2, nameIndex := 5, descriptorIndex := 29, attributes := #[] }, { accessFlags := 0, nameIndex := 17, descriptorIndex := 337, attributes := #[] }, { accessFlags := 0, nameIndex := 494, descriptorIndex := 142, attributes := #[] }, { accessFlags := 8, nameIndex := 501, descriptorIndex := 391, attributes := #[] }] 49 2 #[1106, 1108, 575, 1110, 1112] #[{ accessFlags := 18, nameIndex := 13, descriptorIndex := 14, attributes := #[] }, { accessFlags := 18, nameIndex := 17, descriptorIndex := 18, attributes := #[] }, { accessFlags := 2, nameIndex := 21, descriptorIndex := 22, attributes := #[] }, { accessFlags := 2, nameIndex := 25, descriptorIndex := 26, attributes := #[] }, { accessFlags := 26, nameIndex := 1116, descriptorIndex := 1117, attributes := #[] }, { accessFlags := 24, nameIndex := 40, descriptorIndex := 26, attributes := #[] }, { accessFlags := 26, nameIndex := 1101, descriptorIndex := 1102, attributes := #[] }, { accessFlags := 26, nameIndex := 1121, descriptorIndex := 1122, attributes := #[] }, { accessFlags := 25, nameIndex := 599, descriptorIndex := 600, attributes := #[] }, { accessFlags := 24, nameIndex := 1125, descriptorIndex := 18, attributes := #[] }, { accessFlags := 24, nameIndex := 1127, descriptorIndex := 18, attributes := #[] }])
  fields := #[{ name := "value", type := (.array .byte), accessFlags := 18, slot := 0, constantValue := 0 }, { name := "coder", type := .byte, accessFlags := 18, slot := 1, constantValue := 0 }, { name := "hash", type := .int, accessFlags := 2, slot := 2, constantValue := 0 }, { name := "hashIsZero", type := .boolean, accessFlags := 2, slot := 3, constantValue := 0 }, { name := "serialVersionUID", type := .long, accessFlags := 26, slot := 0, constantValue := 0 }, { name := "COMPACT_STRINGS", type := .boolean, accessFlags := 24, slot := 1, constantValue := 0 }, { name := "serialPersistentFields", type := (.array (.object "java/io/ObjectStreamField")), accessFlags := 26, slot := 2, constantValue := 0 }, { name := "REPL", type := .char, accessFlags := 26, slot := 3, constantValue := 0 }, { name := "CASE_INSENSITIVE_ORDER", type := (.object "java/util/Comparator"), accessFlags := 25, slot := 4, constantValue := 0 }, { name := "LATIN1", type := .byte, accessFlags := 24, slot := 5, constantValue := 0 }, { name := "UTF16", type := .byte, accessFlags := 24, slot := 6, constantValue := 0 }]
  methods := #[k7m0, k7m1, k7m2, k7m3, k7m4, k7m5, k7m6, k7m7]
  instanceTypes := #[(.array .byte), .byte, .int, .boolean]
  staticTypes := #[.long, .boolean, (.array (.object "java/io/ObjectStreamField")), .char, (.object "java/util/Comparator"), .byte, .byte]
  resolved := Array.replicate 1451 none
  statics := some 0 }

def pool8 : Array CpInfo := pool [(2, .class_ 4), (1, u "java/lang/Object"), (0, u "<init>"), (0, u "()V"), (0, .methodref 8 9), (0, .class_ 10), (0, .nameAndType 11 12), (0, u "java/lang/String"), (0, u "length"), (0, u "()I"), (0, .methodref 14 15), (0, .class_ 16), (0, .nameAndType 17 18), (0, u "java/lang/Math"), (0, u "min"), (0, u "(II)I"), (0, .methodref 8 20), (0, .nameAndType 21 22), (0, u "codePointAt"), (0, u "(I)I"), (0, .methodref 24 25), (0, .class_ 26), (0, .nameAndType 27 18), (0, u "java/lang/Integer"), (0, u "compare"), (0, .methodref 29 30), (0, .class_ 31), (0, .nameAndType 32 22), (0, u "java/lang/Character"), (0, u "charCount"), (0, .class_ 34), (0, u "com/example/vetch/vetch/util/CharacterOrder"), (2, u "(Ljava/lang/String;Ljava/lang/String;)I")] 3

def k8m0 : Method := { name := "<init>", desc := "()V", sig := { parameters := [], returnType := none }, accessFlags := 2, code := none }
def k8c1 : Code := { maxStack := 2, maxLocals := 6, code := prog_29_method_2_code, exceptionTable := #[], attributes := #[] }
def k8m1 : Method := { name := "compare", desc := "(Ljava/lang/String;Ljava/lang/String;)I", sig := { parameters := [(.object "java/lang/String"), (.object "java/lang/String")], returnType := some .int }, accessFlags := 9, code := some k8c1 }
/-- com/example/vetch/vetch/util/CharacterOrder -/
def k8 : Class := { plain "com/example/vetch/vetch/util/CharacterOrder" (some 0) with
  accessFlags := 33
  interfaces := #[]
  cf := some (fileOf pool8 33 #[] #[{ accessFlags := 2, nameIndex := 5, descriptorIndex := 6, attributes := #[] }, { accessFlags := 9, nameIndex := 27, descriptorIndex := 37, attributes := #[] }] 33 2 #[] #[])
  fields := #[]
  methods := #[k8m0, k8m1]
  instanceTypes := #[]
  staticTypes := #[]
  resolved := Array.replicate 41 none
  statics := none }

def pool9 : Array CpInfo := pool [(1, .class_ 2), (0, u "java/lang/Math"), (1, .class_ 6), (1, u "java/lang/Object"), (0, u "<init>"), (0, u "()V"), (89, .class_ 100), (1, u "java/lang/Math$RandomNumberGeneratorHolder"), (71, u "negativeZeroFloatBits"), (0, u "J"), (2, u "negativeZeroDoubleBits"), (24, u "min"), (43, u "$assertionsDisabled"), (0, u "Z"), (88, u "(II)I"), (2, u "twoToTheDoubleScaleDown"), (0, u "D"), (4, u "twoToTheDoubleScaleUp"), (9, u "E"), (3, u "PI"), (2, u "TAU"), (2, u "DEGREES_TO_RADIANS"), (0, u "RADIANS_TO_DEGREES")] 94

def k9m0 : Method := { name := "<init>", desc := "()V", sig := { parameters := [], returnType := none }, accessFlags := 2, code := none }
def k9c1 : Code := { maxStack := 2, maxLocals := 2, code := jdk_29_method_69_code, exceptionTable := #[], attributes := #[] }
def k9m1 : Method := { name := "min", desc := "(II)I", sig := { parameters := [.int, .int], returnType := some .int }, accessFlags := 9, code := some k9c1 }
/-- java/lang/Math -/
def k9 : Class := { plain "java/lang/Math" (some 0) with
  accessFlags := 49
  interfaces := #[]
  cf := some (fileOf pool9 1 #[.nestMembers #[98]] #[{ accessFlags := 2, nameIndex := 7, descriptorIndex := 8, attributes := #[] }, { accessFlags := 9, nameIndex := 201, descriptorIndex := 335, attributes := #[] }] 49 4 #[] #[{ accessFlags := 25, nameIndex := 354, descriptorIndex := 339, attributes := #[] }, { accessFlags := 25, nameIndex := 358, descriptorIndex := 339, attributes := #[] }, { accessFlags := 25, nameIndex := 361, descriptorIndex := 339, attributes := #[] }, { accessFlags := 26, nameIndex := 364, descriptorIndex := 339, attributes := #[] }, { accessFlags := 26, nameIndex := 365, descriptorIndex := 339, attributes := #[] }, { accessFlags := 26, nameIndex := 172, descriptorIndex := 173, attributes := #[] }, { accessFlags := 26, nameIndex := 176, descriptorIndex := 173, attributes := #[] }, { accessFlags := 8, nameIndex := 344, descriptorIndex := 339, attributes := #[] }, { accessFlags := 8, nameIndex := 338, descriptorIndex := 339, attributes := #[] }, { accessFlags := 4120, nameIndex := 245, descriptorIndex := 246, attributes := #[] }])
  fields := #[{ name := "E", type := .double, accessFlags := 25, slot := 0, constantValue := 0 }, { name := "PI", type := .double, accessFlags := 25, slot := 1, constantValue := 0 }, { name := "TAU", type := .double, accessFlags := 25, slot := 2, constantValue := 0 }, { name := "DEGREES_TO_RADIANS", type := .double, accessFlags := 26, slot := 3, constantValue := 0 }, { name := "RADIANS_TO_DEGREES", type := .double, accessFlags := 26, slot := 4, constantValue := 0 }, { name := "negativeZeroFloatBits", type := .long, accessFlags := 26, slot := 5, constantValue := 0 }, { name := "negativeZeroDoubleBits", type := .long, accessFlags := 26, slot := 6, constantValue := 0 }, { name := "twoToTheDoubleScaleUp", type := .double, accessFlags := 8, slot := 7, constantValue := 0 }, { name := "twoToTheDoubleScaleDown", type := .double, accessFlags := 8, slot := 8, constantValue := 0 }, { name := "$assertionsDisabled", type := .boolean, accessFlags := 4120, slot := 9, constantValue := 0 }]
  methods := #[k9m0, k9m1]
  instanceTypes := #[]
  staticTypes := #[.double, .double, .double, .double, .double, .long, .long, .double, .double, .boolean]
  resolved := Array.replicate 460 none
  statics := none }

def pool10 : Array CpInfo := pool [(2, .class_ 4), (1, u "java/lang/Object"), (0, u "<init>"), (0, u "()V"), (1, .class_ 10), (1, u "java/lang/Number"), (2, .class_ 14), (0, u "java/io/Serializable"), (0, u "serialVersionUID"), (0, u "J")] 20

def k10m0 : Method := { name := "<init>", desc := "()V", sig := { parameters := [], returnType := none }, accessFlags := 1, code := none }
/-- java/lang/Number -/
def k10 : Class := { plain "java/lang/Number" (some 0) with
  accessFlags := 1057
  interfaces := #[2]
  cf := some (fileOf pool10 8 #[] #[{ accessFlags := 1, nameIndex := 5, descriptorIndex := 6, attributes := #[] }] 1057 2 #[13] #[{ accessFlags := 26, nameIndex := 15, descriptorIndex := 16, attributes := #[] }])
  fields := #[{ name := "serialVersionUID", type := .long, accessFlags := 26, slot := 0, constantValue := 0 }]
  methods := #[k10m0]
  instanceTypes := #[]
  staticTypes := #[.long]
  resolved := Array.replicate 37 none
  statics := none }

def pool11 : Array CpInfo := pool [(1, .class_ 2), (0, u "java/lang/Integer"), (16, u "digits"), (0, u "[C"), (39, u "(II)I"), (24, u "DigitOnes"), (0, u "[B"), (2, u "DigitTens"), (99, .class_ 190), (0, u "java/lang/Integer$IntegerCache"), (3, u "I"), (8, .class_ 204), (0, u "java/lang/Number"), (2, u "value"), (53, u "compare"), (40, u "TYPE"), (0, u "Ljava/lang/Class;"), (0, .class_ 305), (0, u "java/lang/Comparable"), (0, .class_ 307), (0, u "java/lang/constant/Constable"), (0, .class_ 309), (0, u "java/lang/constant/ConstantDesc"), (0, u "MIN_VALUE"), (1, u "MAX_VALUE"), (3, u "SIZE"), (1, u "BYTES"), (1, u "serialVersionUID"), (0, u "J")] 131

def k11c0 : Code := { maxStack := 2, maxLocals := 2, code := jdk_33_method_40_code, exceptionTable := #[], attributes := #[] }
def k11m0 : Method := { name := "compare", desc := "(II)I", sig := { parameters := [.int, .int], returnType := some .int }, accessFlags := 9, code := some k11c0 }
/-- java/lang/Integer -/
def k11 : Class := { plain "java/lang/Integer" (some 10) with
  accessFlags := 49
  interfaces := #[3, 5, 6]
  cf := some (fileOf pool11 1 #[.nestMembers #[189]] #[{ accessFlags := 9, nameIndex := 261, descriptorIndex := 60, attributes := #[] }] 49 203 #[304, 306, 308] #[{ accessFlags := 25, nameIndex := 310, descriptorIndex := 194, attributes := #[] }, { accessFlags := 25, nameIndex := 312, descriptorIndex := 194, attributes := #[] }, { accessFlags := 25, nameIndex := 302, descriptorIndex := 303, attributes := #[] }, { accessFlags := 24, nameIndex := 19, descriptorIndex := 20, attributes := #[] }, { accessFlags := 24, nameIndex := 89, descriptorIndex := 86, attributes := #[] }, { accessFlags := 24, nameIndex := 85, descriptorIndex := 86, attributes := #[] }, { accessFlags := 18, nameIndex := 207, descriptorIndex := 194, attributes := #[] }, { accessFlags := 25, nameIndex := 316, descriptorIndex := 194, attributes := #[] }, { accessFlags := 25, nameIndex := 318, descriptorIndex := 194, attributes := #[] }, { accessFlags := 26, nameIndex := 320, descriptorIndex := 321, attributes := #[] }])
  fields := #[{ name := "MIN_VALUE", type := .int, accessFlags := 25, slot := 0, constantValue := 0 }, { name := "MAX_VALUE", type := .int, accessFlags := 25, slot := 1, constantValue := 0 }, { name := "TYPE", type := (.object "java/lang/Class"), accessFlags := 25, slot := 2, constantValue := 0 }, { name := "digits", type := (.array .char), accessFlags := 24, slot := 3, constantValue := 0 }, { name := "DigitTens", type := (.array .byte), accessFlags := 24, slot := 4, constantValue := 0 }, { name := "DigitOnes", type := (.array .byte), accessFlags := 24, slot := 5, constantValue := 0 }, { name := "value", type := .int, accessFlags := 18, slot := 0, constantValue := 0 }, { name := "SIZE", type := .int, accessFlags := 25, slot := 6, constantValue := 0 }, { name := "BYTES", type := .int, accessFlags := 25, slot := 7, constantValue := 0 }, { name := "serialVersionUID", type := .long, accessFlags := 26, slot := 8, constantValue := 0 }]
  methods := #[k11m0]
  instanceTypes := #[.int]
  staticTypes := #[.int, .int, (.object "java/lang/Class"), (.array .char), (.array .byte), (.array .byte), .int, .int, .long]
  resolved := Array.replicate 453 none
  statics := none }

def pool12 : Array CpInfo := pool [(6, .class_ 8), (1, u "java/lang/Object"), (0, u "<init>"), (0, u "()V"), (0, .methodref 12 13), (0, .class_ 14), (0, .nameAndType 15 16), (0, u "java/lang/StringUTF16"), (0, u "newBytesLength"), (0, u "(I)I"), (3, .integer 1073741823), (23, .fieldref 12 45), (0, .nameAndType 46 47), (0, u "$assertionsDisabled"), (0, u "Z"), (11, .fieldref 12 60), (0, .nameAndType 61 62), (0, u "HI_BYTE_SHIFT"), (0, u "I"), (0, .fieldref 12 64), (0, .nameAndType 65 62), (0, u "LO_BYTE_SHIFT"), (5, .methodref 12 72), (0, .nameAndType 73 74), (0, u "getChar"), (0, u "([BI)C"), (0, .methodref 76 77), (0, .class_ 78), (0, .nameAndType 79 80), (0, u "java/lang/Character"), (0, u "isHighSurrogate"), (0, u "(C)Z"), (0, .methodref 76 82), (0, .nameAndType 83 80), (0, u "isLowSurrogate"), (0, .methodref 76 85), (0, .nameAndType 86 87), (0, u "toCodePoint"), (0, u "(CC)I"), (0, .methodref 12 89), (0, .nameAndType 90 91), (0, u "codePointAt"), (0, u "([BIIZ)I"), (15, .methodref 12 108), (0, .nameAndType 109 110), (0, u "newBytesFor"), (0, u "(I)[B"), (0, .methodref 12 112), (0, .nameAndType 113 114), (0, u "putChar"), (0, u "([BII)V"), (0, .methodref 12 116), (0, .nameAndType 117 118), (0, u "compress"), (0, u "([CI[BII)I"), (0, .methodref 12 120), (0, .nameAndType 121 122), (0, u "toBytes"), (0, u "([CII)[B"), (127, u "([BII)I"), (10, u "coderFromArrayLen"), (0, u "([BI)B"), (106, .class_ 371), (1, u "java/lang/StringUTF16$LinesSpliterator"), (58, u "MAX_LENGTH"), (196, .class_ 628), (0, u "java/lang/StringUTF16$CodePointsSpliterator"), (0, .class_ 630), (0, u "java/lang/StringUTF16$CharsSpliterator")] 4

def k12m0 : Method := { name := "<init>", desc := "()V", sig := { parameters := [], returnType := none }, accessFlags := 0, code := none }
def k12c1 : Code := { maxStack := 1, maxLocals := 1, code := jdk_52_method_2_code, exceptionTable := #[], attributes := #[] }
def k12m1 : Method := { name := "newBytesFor", desc := "(I)[B", sig := { parameters := [.int], returnType := some (.array .byte) }, accessFlags := 9, code := some k12c1 }
def k12c2 : Code := { maxStack := 4, maxLocals := 1, code := jdk_52_method_3_code, exceptionTable := #[], attributes := #[] }
def k12m2 : Method := { name := "newBytesLength", desc := "(I)I", sig := { parameters := [.int], returnType := some .int }, accessFlags := 9, code := some k12c2 }
def k12c3 : Code := { maxStack := 4, maxLocals := 3, code := jdk_52_method_4_code, exceptionTable := #[], attributes := #[] }
def k12m3 : Method := { name := "putChar", desc := "([BII)V", sig := { parameters := [(.array .byte), .int, .int], returnType := none }, accessFlags := 8, code := some k12c3 }
def k12c4 : Code := { maxStack := 3, maxLocals := 2, code := jdk_52_method_5_code, exceptionTable := #[], attributes := #[] }
def k12m4 : Method := { name := "getChar", desc := "([BI)C", sig := { parameters := [(.array .byte), .int], returnType := some .char }, accessFlags := 8, code := some k12c4 }
def k12c5 : Code := { maxStack := 2, maxLocals := 6, code := jdk_52_method_7_code, exceptionTable := #[], attributes := #[] }
def k12m5 : Method := { name := "codePointAt", desc := "([BIIZ)I", sig := { parameters := [(.array .byte), .int, .int, .boolean], returnType := some .int }, accessFlags := 10, code := some k12c5 }
def k12c6 : Code := { maxStack := 4, maxLocals := 3, code := jdk_52_method_8_code, exceptionTable := #[], attributes := #[] }
def k12m6 : Method := { name := "codePointAt", desc := "([BII)I", sig := { parameters := [(.array .byte), .int, .int], returnType := some .int }, accessFlags := 9, code := some k12c6 }
def k12c7 : Code := { maxStack := 4, maxLocals := 5, code := jdk_52_method_14_code, exceptionTable := #[], attributes := #[] }
def k12m7 : Method := { name := "toBytes", desc := "([CII)[B", sig := { parameters := [(.array .char), .int, .int], returnType := some (.array .byte) }, accessFlags := 9, code := some k12c7 }
def k12c8 : Code := { maxStack := 2, maxLocals := 2, code := jdk_52_method_15_code, exceptionTable := #[], attributes := #[] }
def k12m8 : Method := { name := "coderFromArrayLen", desc := "([BI)B", sig := { parameters := [(.array .byte), .int], returnType := some .byte }, accessFlags := 8, code := some k12c8 }
def k12c9 : Code := { maxStack := 5, maxLocals := 6, code := jdk_52_method_16_code, exceptionTable := #[], attributes := #[] }
def k12m9 : Method := { name := "compress", desc := "([CII)[B", sig := { parameters := [(.array .char), .int, .int], returnType := some (.array .byte) }, accessFlags := 9, code := some k12c9 }
def k12c10 : Code := { maxStack := 3, maxLocals := 7, code := jdk_52_method_21_code, exceptionTable := #[], attributes := #[] }
def k12m10 : Method := { name := "compress", desc := "([CI[BII)I", sig := { parameters := [(.array .char), .int, (.array .byte), .int, .int], returnType := some .int }, accessFlags := 9, code := some k12c10 }
/-- java/lang/StringUTF16 -/
def k12 : Class := { plain "java/lang/StringUTF16" (some 0) with
  accessFlags := 48
  interfaces := #[]
  cf := some (fileOf pool12 12 #[.nestMembers #[627, 629, 369]] #[{ accessFlags := 0, nameIndex := 9, descriptorIndex := 10, attributes := #[] }, { accessFlags := 9, nameIndex := 109, descriptorIndex := 110, attributes := #[] }, { accessFlags := 9, nameIndex := 15, descriptorIndex := 16, attributes := #[] }, { accessFlags := 8, nameIndex := 113, descriptorIndex := 114, attributes := #[] }, { accessFlags := 8, nameIndex := 73, descriptorIndex := 74, attributes := #[] }, { accessFlags := 10, nameIndex := 90, descriptorIndex := 91, attributes := #[] }, { accessFlags := 9, nameIndex := 90, descriptorIndex := 250, attributes := #[] }, { accessFlags := 9, nameIndex := 121, descriptorIndex := 122, attributes := #[] }, { accessFlags := 8, nameIndex := 261, descriptorIndex := 262, attributes := #[] }, { accessFlags := 9, nameIndex := 117, descriptorIndex := 122, attributes := #[] }, { accessFlags := 9, nameIndex := 117, descriptorIndex := 118, attributes := #[] }] 48 6 #[] #[{ accessFlags := 26, nameIndex := 61, descriptorIndex := 62, attributes := #[] }, { accessFlags := 26, nameIndex := 65, descriptorIndex := 62, attributes := #[] }, { accessFlags := 24, nameIndex := 430, descriptorIndex := 62, attributes := #[] }, { accessFlags := 4120, nameIndex := 46, descriptorIndex := 47, attributes := #[] }])
  fields := #[{ name := "HI_BYTE_SHIFT", type := .int, accessFlags := 26, slot := 0, constantValue := 0 }, { name := "LO_BYTE_SHIFT", type := .int, accessFlags := 26, slot := 1, constantValue := 0 }, { name := "MAX_LENGTH", type := .int, accessFlags := 24, slot := 2, constantValue := 0 }, { name := "$assertionsDisabled", type := .boolean, accessFlags := 4120, slot := 3, constantValue := 0 }]
  methods := #[k12m0, k12m1, k12m2, k12m3, k12m4, k12m5, k12m6, k12m7, k12m8, k12m9, k12m10]
  instanceTypes := #[]
  staticTypes := #[.int, .int, .int, .boolean]
  resolved := Array.replicate 635 none
  statics := some 1 }

def pool13 : Array CpInfo := pool [(2, .class_ 4), (1, u "java/lang/Object"), (0, u "<init>"), (0, u "()V"), (17, .class_ 26), (1, u "jdk/internal/util/Preconditions"), (6, u "checkIndex"), (21, .class_ 56), (0, u "jdk/internal/util/Preconditions$4"), (57, .class_ 115), (0, u "jdk/internal/util/Preconditions$1"), (7, u "SIOOBE_FORMATTER"), (0, u "Ljava/util/function/BiFunction;"), (0, .class_ 126), (0, u "jdk/internal/util/Preconditions$2"), (3, u "AIOOBE_FORMATTER"), (0, .class_ 132), (0, u "jdk/internal/util/Preconditions$3"), (3, u "IOOBE_FORMATTER"), (41, u "(IILjava/util/function/BiFunction;)I")] 15

def k13m0 : Method := { name := "<init>", desc := "()V", sig := { parameters := [], returnType := none }, accessFlags := 1, code := none }
def k13c1 : Code := { maxStack := 3, maxLocals := 3, code := jdk_41_method_11_code, exceptionTable := #[], attributes := #[] }
def k13m1 : Method := { name := "checkIndex", desc := "(IILjava/util/function/BiFunction;)I", sig := { parameters := [.int, .int, (.object "java/util/function/BiFunction")], returnType := some .int }, accessFlags := 9, code := some k13c1 }
/-- jdk/internal/util/Preconditions -/
def k13 : Class := { plain "jdk/internal/util/Preconditions" (some 0) with
  accessFlags := 33
  interfaces := #[]
  cf := some (fileOf pool13 24 #[.nestMembers #[55, 131, 125, 114]] #[{ accessFlags := 1, nameIndex := 5, descriptorIndex := 6, attributes := #[] }, { accessFlags := 9, nameIndex := 33, descriptorIndex := 178, attributes := #[] }] 33 2 #[] #[{ accessFlags := 25, nameIndex := 123, descriptorIndex := 124, attributes := #[] }, { accessFlags := 25, nameIndex := 130, descriptorIndex := 124, attributes := #[] }, { accessFlags := 25, nameIndex := 136, descriptorIndex := 124, attributes := #[] }])
  fields := #[{ name := "SIOOBE_FORMATTER", type := (.object "java/util/function/BiFunction"), accessFlags := 25, slot := 0, constantValue := 0 }, { name := "AIOOBE_FORMATTER", type := (.object "java/util/function/BiFunction"), accessFlags := 25, slot := 1, constantValue := 0 }, { name := "IOOBE_FORMATTER", type := (.object "java/util/function/BiFunction"), accessFlags := 25, slot := 2, constantValue := 0 }]
  methods := #[k13m0, k13m1]
  instanceTypes := #[]
  staticTypes := #[(.object "java/util/function/BiFunction"), (.object "java/util/function/BiFunction"), (.object "java/util/function/BiFunction")]
  resolved := Array.replicate 194 none
  statics := some 2 }

def pool14 : Array CpInfo := pool [(1, .class_ 2), (0, u "java/lang/Character"), (18, u "value"), (0, u "C"), (19, .class_ 44), (1, u "java/lang/Object"), (3, .class_ 50), (1, u "java/lang/Character$CharacterCache"), (22, .integer 65536), (1, .integer 55296), (0, .integer 56320), (0, .integer 57344), (2, u "isHighSurrogate"), (0, u "(C)Z"), (2, u "isLowSurrogate"), (0, .integer 4238353408), (12, u "toCodePoint"), (0, u "(CC)I"), (74, u "(I)I"), (109, u "$assertionsDisabled"), (0, u "Z"), (21, .class_ 309), (1, u "java/lang/Character$UnicodeBlock"), (73, u "TYPE"), (0, u "Ljava/lang/Class;"), (0, .class_ 386), (0, u "java/io/Serializable"), (0, .class_ 388), (0, u "java/lang/Comparable"), (0, .class_ 390), (0, u "java/lang/constant/Constable"), (0, u "MIN_RADIX"), (0, u "I"), (2, u "MAX_RADIX"), (1, u "MIN_VALUE"), (1, u "MAX_VALUE"), (3, u "UNASSIGNED"), (0, u "B"), (0, u "UPPERCASE_LETTER"), (1, u "LOWERCASE_LETTER"), (0, u "TITLECASE_LETTER"), (1, u "MODIFIER_LETTER"), (1, u "OTHER_LETTER"), (1, u "NON_SPACING_MARK"), (1, u "ENCLOSING_MARK"), (1, u "COMBINING_SPACING_MARK"), (1, u "DECIMAL_DIGIT_NUMBER"), (1, u "LETTER_NUMBER"), (1, u "OTHER_NUMBER"), (1, u "SPACE_SEPARATOR"), (1, u "LINE_SEPARATOR"), (1, u "PARAGRAPH_SEPARATOR"), (1, u "CONTROL"), (1, u "FORMAT"), (1, u "PRIVATE_USE"), (1, u "SURROGATE"), (1, u "DASH_PUNCTUATION"), (1, u "START_PUNCTUATION"), (1, u "END_PUNCTUATION"), (1, u "CONNECTOR_PUNCTUATION"), (1, u "OTHER_PUNCTUATION"), (1, u "MATH_SYMBOL"), (1, u "CURRENCY_SYMBOL"), (1, u "MODIFIER_SYMBOL"), (1, u "OTHER_SYMBOL"), (1, u "INITIAL_QUOTE_PUNCTUATION"), (1, u "FINAL_QUOTE_PUNCTUATION"), (1, u "ERROR"), (1, u "DIRECTIONALITY_UNDEFINED"), (0, u "DIRECTIONALITY_LEFT_TO_RIGHT"), (0, u "DIRECTIONALITY_RIGHT_TO_LEFT"), (0, u "DIRECTIONALITY_RIGHT_TO_LEFT_ARABIC"), (0, u "DIRECTIONALITY_EUROPEAN_NUMBER"), (0, u "DIRECTIONALITY_EUROPEAN_NUMBER_SEPARATOR"), (0, u "DIRECTIONALITY_EUROPEAN_NUMBER_TERMINATOR"), (0, u "DIRECTIONALITY_ARABIC_NUMBER"), (0, u "DIRECTIONALITY_COMMON_NUMBER_SEPARATOR"), (0, u "DIRECTIONALITY_NONSPACING_MARK"), (0, u "DIRECTIONALITY_BOUNDARY_NEUTRAL"), (0, u "DIRECTIONALITY_PARAGRAPH_SEPARATOR"), (0, u "DIRECTIONALITY_SEGMENT_SEPARATOR"), (0, u "DIRECTIONALITY_WHITESPACE"), (0, u "DIRECTIONALITY_OTHER_NEUTRALS"), (0, u "DIRECTIONALITY_LEFT_TO_RIGHT_EMBEDDING"), (0, u "DIRECTIONALITY_LEFT_TO_RIGHT_OVERRIDE"), (0, u "DIRECTIONALITY_RIGHT_TO_LEFT_EMBEDDING"), (0, u "DIRECTIONALITY_RIGHT_TO_LEFT_OVERRIDE"), (1, u "DIRECTIONALITY_POP_DIRECTIONAL_FORMAT"), (0, u "DIRECTIONALITY_LEFT_TO_RIGHT_ISOLATE"), (0, u "DIRECTIONALITY_RIGHT_TO_LEFT_ISOLATE"), (0, u "DIRECTIONALITY_FIRST_STRONG_ISOLATE"), (0, u "DIRECTIONALITY_POP_DIRECTIONAL_ISOLATE"), (0, u "MIN_HIGH_SURROGATE"), (0, u "MAX_HIGH_SURROGATE"), (1, u "MIN_LOW_SURROGATE"), (0, u "MAX_LOW_SURROGATE"), (1, u "MIN_SURROGATE"), (0, u "MAX_SURROGATE"), (0, u "MIN_SUPPLEMENTARY_CODE_POINT"), (0, u "MIN_CODE_POINT"), (0, u "MAX_CODE_POINT"), (1, u "serialVersionUID"), (0, u "J"), (2, u "SIZE"), (0, u "BYTES"), (29, u "charCount"), (58, .class_ 596), (0, u "java/lang/Character$UnicodeScript"), (0, .class_ 598), (0, u "java/lang/Character$Subset")] 5

def k14c0 : Code := { maxStack := 2, maxLocals := 1, code := jdk_89_method_14_code, exceptionTable := #[], attributes := #[] }
def k14m0 : Method := { name := "isHighSurrogate", desc := "(C)Z", sig := { parameters := [.char], returnType := some .boolean }, accessFlags := 9, code := some k14c0 }
def k14c1 : Code := { maxStack := 2, maxLocals := 1, code := jdk_89_method_15_code, exceptionTable := #[], attributes := #[] }
def k14m1 : Method := { name := "isLowSurrogate", desc := "(C)Z", sig := { parameters := [.char], returnType := some .boolean }, accessFlags := 9, code := some k14c1 }
def k14c2 : Code := { maxStack := 2, maxLocals := 1, code := jdk_89_method_18_code, exceptionTable := #[], attributes := #[] }
def k14m2 : Method := { name := "charCount", desc := "(I)I", sig := { parameters := [.int], returnType := some .int }, accessFlags := 9, code := some k14c2 }
def k14c3 : Code := { maxStack := 2, maxLocals := 2, code := jdk_89_method_19_code, exceptionTable := #[], attributes := #[] }
def k14m3 : Method := { name := "toCodePoint", desc := "(CC)I", sig := { parameters := [.char, .char], returnType := some .int }, accessFlags := 9, code := some k14c3 }
/-- java/lang/Character -/
def k14 : Class := { plain "java/lang/Character" (some 0) with
  accessFlags := 49
  interfaces := #[2, 3, 5]
  cf := some (fileOf pool14 1 #[.nestMembers #[48, 595, 307, 597]] #[{ accessFlags := 9, nameIndex := 80, descriptorIndex := 81, attributes := #[] }, { accessFlags := 9, nameIndex := 84, descriptorIndex := 81, attributes := #[] }, { accessFlags := 9, nameIndex := 536, descriptorIndex := 174, attributes := #[] }, { accessFlags := 9, nameIndex := 98, descriptorIndex := 99, attributes := #[] }] 49 42 #[385, 387, 389] #[{ accessFlags := 25, nameIndex := 391, descriptorIndex := 392, attributes := #[] }, { accessFlags := 25, nameIndex := 395, descriptorIndex := 392, attributes := #[] }, { accessFlags := 25, nameIndex := 397, descriptorIndex := 22, attributes := #[] }, { accessFlags := 25, nameIndex := 399, descriptorIndex := 22, attributes := #[] }, { accessFlags := 25, nameIndex := 383, descriptorIndex := 384, attributes := #[] }, { accessFlags := 25, nameIndex := 403, descriptorIndex := 404, attributes := #[] }, { accessFlags := 25, nameIndex := 405, descriptorIndex := 404, attributes := #[] }, { accessFlags := 25, nameIndex := 407, descriptorIndex := 404, attributes := #[] }, { accessFlags := 25, nameIndex := 408, descriptorIndex := 404, attributes := #[] }, { accessFlags := 25, nameIndex := 410, descriptorIndex := 404, attributes := #[] }, { accessFlags := 25, nameIndex := 412, descriptorIndex := 404, attributes := #[] }, { accessFlags := 25, nameIndex := 414, descriptorIndex := 404, attributes := #[] }, { accessFlags := 25, nameIndex := 416, descriptorIndex := 404, attributes := #[] }, { accessFlags := 25, nameIndex := 418, descriptorIndex := 404, attributes := #[] }, { accessFlags := 25, nameIndex := 420, descriptorIndex := 404, attributes := #[] }, { accessFlags := 25, nameIndex := 422, descriptorIndex := 404, attributes := #[] }, { accessFlags := 25, nameIndex := 424, descriptorIndex := 404, attributes := #[] }, { accessFlags := 25, nameIndex := 426, descriptorIndex := 404, attributes := #[] }, { accessFlags := 25, nameIndex := 428, descriptorIndex := 404, attributes := #[] }, { accessFlags := 25, nameIndex := 430, descriptorIndex := 404, attributes := #[] }, { accessFlags := 25, nameIndex := 432, descriptorIndex := 404, attributes := #[] }, { accessFlags := 25, nameIndex := 434, descriptorIndex := 404, attributes := #[] }, { accessFlags := 25, nameIndex := 436, descriptorIndex := 404, attributes := #[] }, { accessFlags := 25, nameIndex := 438, descriptorIndex := 404, attributes := #[] }, { accessFlags := 25, nameIndex := 440, descriptorIndex := 404, attributes := #[] }, { accessFlags := 25, nameIndex := 442, descriptorIndex := 404, attributes := #[] }, { accessFlags := 25, nameIndex := 444, descriptorIndex := 404, attributes := #[] }, { accessFlags := 25, nameIndex := 446, descriptorIndex := 404, attributes := #[] }, { accessFlags := 25, nameIndex := 448, descriptorIndex := 404, attributes := #[] }, { accessFlags := 25, nameIndex := 450, descriptorIndex := 404, attributes := #[] }, { accessFlags := 25, nameIndex := 452, descriptorIndex := 404, attributes := #[] }, { accessFlags := 25, nameIndex := 454, descriptorIndex := 404, attributes := #[] }, { accessFlags := 25, nameIndex := 456, descriptorIndex := 404, attributes := #[] }, { accessFlags := 25, nameIndex := 458, descriptorIndex := 404, attributes := #[] }, { accessFlags := 25, nameIndex := 460, descriptorIndex := 404, attributes := #[] }, { accessFlags := 24, nameIndex := 462, descriptorIndex := 392, attributes := #[] }, { accessFlags := 25, nameIndex := 464, descriptorIndex := 404, attributes := #[] }, { accessFlags := 25, nameIndex := 465, descriptorIndex := 404, attributes := #[] }, { accessFlags := 25, nameIndex := 466, descriptorIndex := 404, attributes := #[] }, { accessFlags := 25, nameIndex := 467, descriptorIndex := 404, attributes := #[] }, { accessFlags := 25, nameIndex := 468, descriptorIndex := 404, attributes := #[] }, { accessFlags := 25, nameIndex := 469, descriptorIndex := 404, attributes := #[] }, { accessFlags := 25, nameIndex := 470, descriptorIndex := 404, attributes := #[] }, { accessFlags := 25, nameIndex := 471, descriptorIndex := 404, attributes := #[] }, { accessFlags := 25, nameIndex := 472, descriptorIndex := 404, attributes := #[] }, { accessFlags := 25, nameIndex := 473, descriptorIndex := 404, attributes := #[] }, { accessFlags := 25, nameIndex := 474, descriptorIndex := 404, attributes := #[] }, { accessFlags := 25, nameIndex := 475, descriptorIndex := 404, attributes := #[] }, { accessFlags := 25, nameIndex := 476, descriptorIndex := 404, attributes := #[] }, { accessFlags := 25, nameIndex := 477, descriptorIndex := 404, attributes := #[] }, { accessFlags := 25, nameIndex := 478, descriptorIndex := 404, attributes := #[] }, { accessFlags := 25, nameIndex := 479, descriptorIndex := 404, attributes := #[] }, { accessFlags := 25, nameIndex := 480, descriptorIndex := 404, attributes := #[] }, { accessFlags := 25, nameIndex := 481, descriptorIndex := 404, attributes := #[] }, { accessFlags := 25, nameIndex := 482, descriptorIndex := 404, attributes := #[] }, { accessFlags := 25, nameIndex := 484, descriptorIndex := 404, attributes := #[] }, { accessFlags := 25, nameIndex := 485, descriptorIndex := 404, attributes := #[] }, { accessFlags := 25, nameIndex := 486, descriptorIndex := 404, attributes := #[] }, { accessFlags := 25, nameIndex := 487, descriptorIndex := 404, attributes := #[] }, { accessFlags := 25, nameIndex := 488, descriptorIndex := 404, attributes := #[] }, { accessFlags := 25, nameIndex := 489, descriptorIndex := 22, attributes := #[] }, { accessFlags := 25, nameIndex := 490, descriptorIndex := 22, attributes := #[] }, { accessFlags := 25, nameIndex := 492, descriptorIndex := 22, attributes := #[] }, { accessFlags := 25, nameIndex := 493, descriptorIndex := 22, attributes := #[] }, { accessFlags := 25, nameIndex := 495, descriptorIndex := 22, attributes := #[] }, { accessFlags := 25, nameIndex := 496, descriptorIndex := 22, attributes := #[] }, { accessFlags := 25, nameIndex := 497, descriptorIndex := 392, attributes := #[] }, { accessFlags := 25, nameIndex := 498, descriptorIndex := 392, attributes := #[] }, { accessFlags := 25, nameIndex := 499, descriptorIndex := 392, attributes := #[] }, { accessFlags := 18, nameIndex := 21, descriptorIndex := 22, attributes := #[] }, { accessFlags := 26, nameIndex := 501, descriptorIndex := 502, attributes := #[] }, { accessFlags := 25, nameIndex := 505, descriptorIndex := 392, attributes := #[] }, { accessFlags := 25, nameIndex := 506, descriptorIndex := 392, attributes := #[] }, { accessFlags := 4120, nameIndex := 284, descriptorIndex := 285, attributes := #[] }])
  fields := #[{ name := "MIN_RADIX", type := .int, accessFlags := 25, slot := 0, constantValue := 0 }, { name := "MAX_RADIX", type := .int, accessFlags := 25, slot := 1, constantValue := 0 }, { name := "MIN_VALUE", type := .char, accessFlags := 25, slot := 2, constantValue := 0 }, { name := "MAX_VALUE", type := .char, accessFlags := 25, slot := 3, constantValue := 0 }, { name := "TYPE", type := (.object "java/lang/Class"), accessFlags := 25, slot := 4, constantValue := 0 }, { name := "UNASSIGNED", type := .byte, accessFlags := 25, slot := 5, constantValue := 0 }, { name := "UPPERCASE_LETTER", type := .byte, accessFlags := 25, slot := 6, constantValue := 0 }, { name := "LOWERCASE_LETTER", type := .byte, accessFlags := 25, slot := 7, constantValue := 0 }, { name := "TITLECASE_LETTER", type := .byte, accessFlags := 25, slot := 8, constantValue := 0 }, { name := "MODIFIER_LETTER", type := .byte, accessFlags := 25, slot := 9, constantValue := 0 }, { name := "OTHER_LETTER", type := .byte, accessFlags := 25, slot := 10, constantValue := 0 }, { name := "NON_SPACING_MARK", type := .byte, accessFlags := 25, slot := 11, constantValue := 0 }, { name := "ENCLOSING_MARK", type := .byte, accessFlags := 25, slot := 12, constantValue := 0 }, { name := "COMBINING_SPACING_MARK", type := .byte, accessFlags := 25, slot := 13, constantValue := 0 }, { name := "DECIMAL_DIGIT_NUMBER", type := .byte, accessFlags := 25, slot := 14, constantValue := 0 }, { name := "LETTER_NUMBER", type := .byte, accessFlags := 25, slot := 15, constantValue := 0 }, { name := "OTHER_NUMBER", type := .byte, accessFlags := 25, slot := 16, constantValue := 0 }, { name := "SPACE_SEPARATOR", type := .byte, accessFlags := 25, slot := 17, constantValue := 0 }, { name := "LINE_SEPARATOR", type := .byte, accessFlags := 25, slot := 18, constantValue := 0 }, { name := "PARAGRAPH_SEPARATOR", type := .byte, accessFlags := 25, slot := 19, constantValue := 0 }, { name := "CONTROL", type := .byte, accessFlags := 25, slot := 20, constantValue := 0 }, { name := "FORMAT", type := .byte, accessFlags := 25, slot := 21, constantValue := 0 }, { name := "PRIVATE_USE", type := .byte, accessFlags := 25, slot := 22, constantValue := 0 }, { name := "SURROGATE", type := .byte, accessFlags := 25, slot := 23, constantValue := 0 }, { name := "DASH_PUNCTUATION", type := .byte, accessFlags := 25, slot := 24, constantValue := 0 }, { name := "START_PUNCTUATION", type := .byte, accessFlags := 25, slot := 25, constantValue := 0 }, { name := "END_PUNCTUATION", type := .byte, accessFlags := 25, slot := 26, constantValue := 0 }, { name := "CONNECTOR_PUNCTUATION", type := .byte, accessFlags := 25, slot := 27, constantValue := 0 }, { name := "OTHER_PUNCTUATION", type := .byte, accessFlags := 25, slot := 28, constantValue := 0 }, { name := "MATH_SYMBOL", type := .byte, accessFlags := 25, slot := 29, constantValue := 0 }, { name := "CURRENCY_SYMBOL", type := .byte, accessFlags := 25, slot := 30, constantValue := 0 }, { name := "MODIFIER_SYMBOL", type := .byte, accessFlags := 25, slot := 31, constantValue := 0 }, { name := "OTHER_SYMBOL", type := .byte, accessFlags := 25, slot := 32, constantValue := 0 }, { name := "INITIAL_QUOTE_PUNCTUATION", type := .byte, accessFlags := 25, slot := 33, constantValue := 0 }, { name := "FINAL_QUOTE_PUNCTUATION", type := .byte, accessFlags := 25, slot := 34, constantValue := 0 }, { name := "ERROR", type := .int, accessFlags := 24, slot := 35, constantValue := 0 }, { name := "DIRECTIONALITY_UNDEFINED", type := .byte, accessFlags := 25, slot := 36, constantValue := 0 }, { name := "DIRECTIONALITY_LEFT_TO_RIGHT", type := .byte, accessFlags := 25, slot := 37, constantValue := 0 }, { name := "DIRECTIONALITY_RIGHT_TO_LEFT", type := .byte, accessFlags := 25, slot := 38, constantValue := 0 }, { name := "DIRECTIONALITY_RIGHT_TO_LEFT_ARABIC", type := .byte, accessFlags := 25, slot := 39, constantValue := 0 }, { name := "DIRECTIONALITY_EUROPEAN_NUMBER", type := .byte, accessFlags := 25, slot := 40, constantValue := 0 }, { name := "DIRECTIONALITY_EUROPEAN_NUMBER_SEPARATOR", type := .byte, accessFlags := 25, slot := 41, constantValue := 0 }, { name := "DIRECTIONALITY_EUROPEAN_NUMBER_TERMINATOR", type := .byte, accessFlags := 25, slot := 42, constantValue := 0 }, { name := "DIRECTIONALITY_ARABIC_NUMBER", type := .byte, accessFlags := 25, slot := 43, constantValue := 0 }, { name := "DIRECTIONALITY_COMMON_NUMBER_SEPARATOR", type := .byte, accessFlags := 25, slot := 44, constantValue := 0 }, { name := "DIRECTIONALITY_NONSPACING_MARK", type := .byte, accessFlags := 25, slot := 45, constantValue := 0 }, { name := "DIRECTIONALITY_BOUNDARY_NEUTRAL", type := .byte, accessFlags := 25, slot := 46, constantValue := 0 }, { name := "DIRECTIONALITY_PARAGRAPH_SEPARATOR", type := .byte, accessFlags := 25, slot := 47, constantValue := 0 }, { name := "DIRECTIONALITY_SEGMENT_SEPARATOR", type := .byte, accessFlags := 25, slot := 48, constantValue := 0 }, { name := "DIRECTIONALITY_WHITESPACE", type := .byte, accessFlags := 25, slot := 49, constantValue := 0 }, { name := "DIRECTIONALITY_OTHER_NEUTRALS", type := .byte, accessFlags := 25, slot := 50, constantValue := 0 }, { name := "DIRECTIONALITY_LEFT_TO_RIGHT_EMBEDDING", type := .byte, accessFlags := 25, slot := 51, constantValue := 0 }, { name := "DIRECTIONALITY_LEFT_TO_RIGHT_OVERRIDE", type := .byte, accessFlags := 25, slot := 52, constantValue := 0 }, { name := "DIRECTIONALITY_RIGHT_TO_LEFT_EMBEDDING", type := .byte, accessFlags := 25, slot := 53, constantValue := 0 }, { name := "DIRECTIONALITY_RIGHT_TO_LEFT_OVERRIDE", type := .byte, accessFlags := 25, slot := 54, constantValue := 0 }, { name := "DIRECTIONALITY_POP_DIRECTIONAL_FORMAT", type := .byte, accessFlags := 25, slot := 55, constantValue := 0 }, { name := "DIRECTIONALITY_LEFT_TO_RIGHT_ISOLATE", type := .byte, accessFlags := 25, slot := 56, constantValue := 0 }, { name := "DIRECTIONALITY_RIGHT_TO_LEFT_ISOLATE", type := .byte, accessFlags := 25, slot := 57, constantValue := 0 }, { name := "DIRECTIONALITY_FIRST_STRONG_ISOLATE", type := .byte, accessFlags := 25, slot := 58, constantValue := 0 }, { name := "DIRECTIONALITY_POP_DIRECTIONAL_ISOLATE", type := .byte, accessFlags := 25, slot := 59, constantValue := 0 }, { name := "MIN_HIGH_SURROGATE", type := .char, accessFlags := 25, slot := 60, constantValue := 0 }, { name := "MAX_HIGH_SURROGATE", type := .char, accessFlags := 25, slot := 61, constantValue := 0 }, { name := "MIN_LOW_SURROGATE", type := .char, accessFlags := 25, slot := 62, constantValue := 0 }, { name := "MAX_LOW_SURROGATE", type := .char, accessFlags := 25, slot := 63, constantValue := 0 }, { name := "MIN_SURROGATE", type := .char, accessFlags := 25, slot := 64, constantValue := 0 }, { name := "MAX_SURROGATE", type := .char, accessFlags := 25, slot := 65, constantValue := 0 }, { name := "MIN_SUPPLEMENTARY_CODE_POINT", type := .int, accessFlags := 25, slot := 66, constantValue := 0 }, { name := "MIN_CODE_POINT", type := .int, accessFlags := 25, slot := 67, constantValue := 0 }, { name := "MAX_CODE_POINT", type := .int, accessFlags := 25, slot := 68, constantValue := 0 }, { name := "value", type := .char, accessFlags := 18, slot := 0, constantValue := 0 }, { name := "serialVersionUID", type := .long, accessFlags := 26, slot := 69, constantValue := 0 }, { name := "SIZE", type := .int, accessFlags := 25, slot := 70, constantValue := 0 }, { name := "BYTES", type := .int, accessFlags := 25, slot := 71, constantValue := 0 }, { name := "$assertionsDisabled", type := .boolean, accessFlags := 4120, slot := 72, constantValue := 0 }]
  methods := #[k14m0, k14m1, k14m2, k14m3]
  instanceTypes := #[.char]
  staticTypes := #[.int, .int, .char, .char, (.object "java/lang/Class"), .byte, .byte, .byte, .byte, .byte, .byte, .byte, .byte, .byte, .byte, .byte, .byte, .byte, .byte, .byte, .byte, .byte, .byte, .byte, .byte, .byte, .byte, .byte, .byte, .byte, .byte, .byte, .byte, .byte, .byte, .int, .byte, .byte, .byte, .byte, .byte, .byte, .byte, .byte, .byte, .byte, .byte, .byte, .byte, .byte, .byte, .byte, .byte, .byte, .byte, .byte, .byte, .byte, .byte, .byte, .char, .char, .char, .char, .char, .char, .int, .int, .int, .long, .int, .int, .boolean]
  resolved := Array.replicate 604 none
  statics := none }

def pool15 : Array CpInfo := pool [(4, .class_ 6), (1, u "java/lang/Object"), (0, u "<init>"), (0, u "()V"), (5, .class_ 16), (1, u "java/lang/StringLatin1"), (104, u "$assertionsDisabled"), (0, u "Z"), (98, .class_ 223), (1, u "java/lang/StringLatin1$LinesSpliterator"), (166, .class_ 391), (0, u "java/lang/StringLatin1$CharsSpliterator")] 3

def k15m0 : Method := { name := "<init>", desc := "()V", sig := { parameters := [], returnType := none }, accessFlags := 0, code := none }
/-- java/lang/StringLatin1 -/
def k15 : Class := { plain "java/lang/StringLatin1" (some 0) with
  accessFlags := 48
  interfaces := #[]
  cf := some (fileOf pool15 14 #[.nestMembers #[390, 221]] #[{ accessFlags := 0, nameIndex := 7, descriptorIndex := 8, attributes := #[] }] 48 4 #[] #[{ accessFlags := 4120, nameIndex := 121, descriptorIndex := 122, attributes := #[] }])
  fields := #[{ name := "$assertionsDisabled", type := .boolean, accessFlags := 4120, slot := 0, constantValue := 0 }]
  methods := #[k15m0]
  instanceTypes := #[]
  staticTypes := #[.boolean]
  resolved := Array.replicate 395 none
  statics := none }

def pool16 : Array CpInfo := pool [(9, u "<init>"), (6, .class_ 18), (1, u "java/lang/Object"), (0, u "()V"), (1, .class_ 23), (1, u "jdk/internal/util/ArraysSupport"), (0, u "LOG2_ARRAY_LONG_INDEX_SCALE"), (0, u "I"), (2, u "U"), (0, u "Ljdk/internal/misc/Unsafe;"), (8, u "BIG_ENDIAN"), (0, u "Z"), (8, u "LOG2_BYTE_BIT_SIZE"), (4, u "LOG2_ARRAY_INT_INDEX_SCALE"), (54, u "JLA"), (0, u "Ljdk/internal/access/JavaLangAccess;"), (11, u "LOG2_ARRAY_BOOLEAN_INDEX_SCALE"), (9, u "LOG2_ARRAY_BYTE_INDEX_SCALE"), (5, u "LOG2_ARRAY_CHAR_INDEX_SCALE"), (5, u "LOG2_ARRAY_SHORT_INDEX_SCALE"), (18, u "LOG2_ARRAY_FLOAT_INDEX_SCALE"), (24, u "LOG2_ARRAY_DOUBLE_INDEX_SCALE"), (89, u "T_BOOLEAN"), (2, u "T_CHAR"), (1, u "T_FLOAT"), (1, u "T_DOUBLE"), (1, u "T_BYTE"), (1, u "T_SHORT"), (1, u "T_INT"), (1, u "T_LONG"), (1, u "SOFT_MAX_ARRAY_LENGTH")] 83

def k16m0 : Method := { name := "<init>", desc := "()V", sig := { parameters := [], returnType := none }, accessFlags := 2, code := none }
/-- jdk/internal/util/ArraysSupport -/
def k16 : Class := { plain "jdk/internal/util/ArraysSupport" (some 0) with
  accessFlags := 33
  interfaces := #[]
  cf := some (fileOf pool16 21 #[] #[{ accessFlags := 2, nameIndex := 9, descriptorIndex := 19, attributes := #[] }] 33 16 #[] #[{ accessFlags := 24, nameIndex := 28, descriptorIndex := 29, attributes := #[] }, { accessFlags := 26, nameIndex := 38, descriptorIndex := 39, attributes := #[] }, { accessFlags := 25, nameIndex := 121, descriptorIndex := 25, attributes := #[] }, { accessFlags := 25, nameIndex := 131, descriptorIndex := 25, attributes := #[] }, { accessFlags := 25, nameIndex := 137, descriptorIndex := 25, attributes := #[] }, { accessFlags := 25, nameIndex := 143, descriptorIndex := 25, attributes := #[] }, { accessFlags := 25, nameIndex := 53, descriptorIndex := 25, attributes := #[] }, { accessFlags := 25, nameIndex := 24, descriptorIndex := 25, attributes := #[] }, { accessFlags := 25, nameIndex := 162, descriptorIndex := 25, attributes := #[] }, { accessFlags := 25, nameIndex := 187, descriptorIndex := 25, attributes := #[] }, { accessFlags := 26, nameIndex := 48, descriptorIndex := 25, attributes := #[] }, { accessFlags := 25, nameIndex := 277, descriptorIndex := 25, attributes := #[] }, { accessFlags := 25, nameIndex := 280, descriptorIndex := 25, attributes := #[] }, { accessFlags := 25, nameIndex := 282, descriptorIndex := 25, attributes := #[] }, { accessFlags := 25, nameIndex := 284, descriptorIndex := 25, attributes := #[] }, { accessFlags := 25, nameIndex := 286, descriptorIndex := 25, attributes := #[] }, { accessFlags := 25, nameIndex := 288, descriptorIndex := 25, attributes := #[] }, { accessFlags := 25, nameIndex := 290, descriptorIndex := 25, attributes := #[] }, { accessFlags := 25, nameIndex := 292, descriptorIndex := 25, attributes := #[] }, { accessFlags := 26, nameIndex := 108, descriptorIndex := 109, attributes := #[] }, { accessFlags := 25, nameIndex := 294, descriptorIndex := 25, attributes := #[] }])
  fields := #[{ name := "U", type := (.object "jdk/internal/misc/Unsafe"), accessFlags := 24, slot := 0, constantValue := 0 }, { name := "BIG_ENDIAN", type := .boolean, accessFlags := 26, slot := 1, constantValue := 0 }, { name := "LOG2_ARRAY_BOOLEAN_INDEX_SCALE", type := .int, accessFlags := 25, slot := 2, constantValue := 0 }, { name := "LOG2_ARRAY_BYTE_INDEX_SCALE", type := .int, accessFlags := 25, slot := 3, constantValue := 0 }, { name := "LOG2_ARRAY_CHAR_INDEX_SCALE", type := .int, accessFlags := 25, slot := 4, constantValue := 0 }, { name := "LOG2_ARRAY_SHORT_INDEX_SCALE", type := .int, accessFlags := 25, slot := 5, constantValue := 0 }, { name := "LOG2_ARRAY_INT_INDEX_SCALE", type := .int, accessFlags := 25, slot := 6, constantValue := 0 }, { name := "LOG2_ARRAY_LONG_INDEX_SCALE", type := .int, accessFlags := 25, slot := 7, constantValue := 0 }, { name := "LOG2_ARRAY_FLOAT_INDEX_SCALE", type := .int, accessFlags := 25, slot := 8, constantValue := 0 }, { name := "LOG2_ARRAY_DOUBLE_INDEX_SCALE", type := .int, accessFlags := 25, slot := 9, constantValue := 0 }, { name := "LOG2_BYTE_BIT_SIZE", type := .int, accessFlags := 26, slot := 10, constantValue := 0 }, { name := "T_BOOLEAN", type := .int, accessFlags := 25, slot := 11, constantValue := 0 }, { name := "T_CHAR", type := .int, accessFlags := 25, slot := 12, constantValue := 0 }, { name := "T_FLOAT", type := .int, accessFlags := 25, slot := 13, constantValue := 0 }, { name := "T_DOUBLE", type := .int, accessFlags := 25, slot := 14, constantValue := 0 }, { name := "T_BYTE", type := .int, accessFlags := 25, slot := 15, constantValue := 0 }, { name := "T_SHORT", type := .int, accessFlags := 25, slot := 16, constantValue := 0 }, { name := "T_INT", type := .int, accessFlags := 25, slot := 17, constantValue := 0 }, { name := "T_LONG", type := .int, accessFlags := 25, slot := 18, constantValue := 0 }, { name := "JLA", type := (.object "jdk/internal/access/JavaLangAccess"), accessFlags := 26, slot := 19, constantValue := 0 }, { name := "SOFT_MAX_ARRAY_LENGTH", type := .int, accessFlags := 25, slot := 20, constantValue := 0 }]
  methods := #[k16m0]
  instanceTypes := #[]
  staticTypes := #[(.object "jdk/internal/misc/Unsafe"), .boolean, .int, .int, .int, .int, .int, .int, .int, .int, .int, .int, .int, .int, .int, .int, .int, .int, .int, (.object "jdk/internal/access/JavaLangAccess"), .int]
  resolved := Array.replicate 378 none
  statics := none }

def pool17 : Array CpInfo := pool [(1, u "java/lang/Cloneable"), (0, .class_ 1), (0, u "java/lang/Object"), (0, .class_ 3)] 3

/-- java/lang/Cloneable -/
def k17 : Class := { plain "java/lang/Cloneable" (some 0) with
  accessFlags := 1537
  interfaces := #[]
  cf := some (fileOf pool17 2 #[] #[] 1537 4 #[] #[])
  fields := #[]
  methods := #[]
  instanceTypes := #[]
  staticTypes := #[]
  resolved := Array.replicate 8 none
  statics := none }

/-- the primitive byte -/
def k18 : Class := { plain "byte" none with kind := .primitive 'B', accessFlags := 0x411 }
/-- [B -/
def k19 : Class := { plain "[B" (some 0) with kind := .array 18 .byte, interfaces := #[17, 2], accessFlags := 1041 }

/-- the primitive char -/
def k20 : Class := { plain "char" none with kind := .primitive 'C', accessFlags := 0x411 }
/-- [C -/
def k21 : Class := { plain "[C" (some 0) with kind := .array 20 .char, interfaces := #[17, 2], accessFlags := 1041 }

/-- the primitive int -/
def k22 : Class := { plain "int" none with kind := .primitive 'I', accessFlags := 0x411 }
/-- [I -/
def k23 : Class := { plain "[I" (some 0) with kind := .array 22 .int, interfaces := #[17, 2], accessFlags := 1041 }

def heap : Heap := #[{ cls := 7, slots := #[.long 0, .int 1, .null, .int 0, .null, .int 0, .int 0], vm := .statics 7 },
  { cls := 12, slots := #[.int 0, .int 8, .int 0, .int 1], vm := .statics 12 },
  { cls := 13, slots := #[.null, .null, .null], vm := .statics 13 },
  { cls := 16, slots := #[], vm := .none },
  { cls := 15, slots := #[], vm := .none }]
def classes : Array Class := #[k0, k1, k2, k3, k4, k5, k6, k7, k8, k9, k10, k11, k12, k13, k14, k15, k16, k17, k18, k19, k20, k21, k22, k23]
def interned : List (Array UInt16 × Addr) := []
def slotsUsed : Nat := 14
def theMethod : MethodId := ⟨1, 6⟩
def args0 : Array Value := #[.int 97, .int 98, .int 99, .int 100, .int 3]
def aboutOver (below : List Frame) : State where
  vm := { classes := classes, interned := interned.toArray }
  heap := heap
  slotsUsed := slotsUsed
  threads := #[{ frames := .invoking theMethod args0 :: below }]
def below0 : List Frame := [.native { method := ⟨0, 0⟩, args := #[] }]
def about1 : State := aboutOver below0
def p0 : Program := .bare "" "" ""
def e0 : Env := launch0.env 0 0 0
theorem w_frames : about1.frames = Frame.invoking theMethod args0 :: below0 := rfl
set_option maxRecDepth 65536 in
theorem w_args : argsFit about1.vm theMethod args0 = true := by decide +kernel
set_option maxRecDepth 65536 in
theorem w_heap : heapFits about1 = true := by decide +kernel
set_option maxRecDepth 65536 in
theorem w_runnable : about1.curStatus? = some .runnable := by decide +kernel
set_option maxRecDepth 65536 in
theorem w_alone : about1.alone = true := by decide +kernel
set_option maxRecDepth 65536 in
theorem w_named : about1.methodNamed? x = some theMethod := by decide +kernel
set_option maxRecDepth 65536 in
theorem w_hears : about1.hears theMethod below0 = true := by decide +kernel
set_option maxRecDepth 65536 in
theorem w_ripe : about1.ripe theMethod args0 below0 = true := by decide +kernel
theorem w_running : about1.status = .running := rfl
set_option maxRecDepth 65536 in
theorem w_room : about1.hasRoom e0.platform room_1 = true :=
  launch0.hasRoom_least _ room_1 (by decide +kernel) (by decide +kernel) (by decide +kernel) (by decide +kernel) (by decide +kernel) (by decide +kernel)
theorem allAtoms_all (ts : List Jvm.Cond) (a : Array Jvm.Value) (st : Jvm.State) : (allAtoms ts).before a st = ts.all (fun c => c.before a st) := by
  induction ts with
  | nil => rfl
  | cons c t ih =>
    show (Jvm.Cond.and c (allAtoms t)).before a st = _
    rw [Jvm.Cond.before_and, ih, List.all_cons]
def words1 : List Jvm.Cond := Jvm.Cond.code x code maxLocals ret :: tables_1
/-- a 'code' word, met by the world's own term for the bytes: nothing is compared byte by byte -/
theorem code_word {y : MethodName} {bytes : ByteArray} {mx : Nat} {rt : Option FieldType} {a : Array Value} {s : State} {m : MethodId} {meth : Method} {c : Code} (h1 : s.methodNamed? y = some m) (h2 : s.vm.method? m = some meth) (h3 : meth.code = some c) (h4 : c.code = bytes)
    (h5 : (c.maxLocals == mx && c.exceptionTable.isEmpty && decide (c.maxStack ≤ mostOperands) && decide (meth.sig.returnType = rt) && !meth.locks && decide (parseMethodDescriptor y.desc = some meth.sig)) = true) : (Jvm.Cond.code y bytes mx rt).before a s = true := by
  simp only [Bool.and_eq_true, beq_iff_eq, Bool.not_eq_true', decide_eq_true_eq] at h5
  obtain ⟨⟨⟨⟨⟨g1, g2⟩, g3⟩, g4⟩, g5⟩, g6⟩ := h5
  simp [Cond.before, Cond.holds, Cond.value, h1, h2, h3, h4, g1, g2, g3, g4, g5, g6]
def isCode : Jvm.Cond → Bool
  | .code _ _ _ _ => true
  | _ => false
theorem all_split {L : List Jvm.Cond} {P : Jvm.Cond → Bool} (h1 : L.all (fun c => isCode c || P c) = true) (h2 : ∀ c ∈ L.filter isCode, P c = true) : L.all P = true := by
  refine List.all_eq_true.mpr fun c hc => ?_
  have h := List.all_eq_true.mp h1 c hc
  rcases Bool.eq_false_or_eq_true (isCode c) with hi | hi
  · exact h2 c (List.mem_filter.mpr ⟨hc, hi⟩)
  · simpa [hi] using h
set_option maxRecDepth 65536 in
theorem w_c0 : (Jvm.Cond.code x code maxLocals ret).before args0 about1 = true := code_word (m := ⟨1, 6⟩) (meth := k1m6) (c := k1c6) (by decide +kernel) rfl rfl rfl (by decide +kernel)
set_option maxRecDepth 65536 in
theorem w_c1 : (Jvm.Cond.code ({ cls := "com/example/vetch/vetch/util/CharacterOrderComparePinLaw", name := "draw", desc := "(I)C" } : Jvm.MethodName) method_2_code (2 : Nat) (Option.some Jvm.ClassFile.FieldType.char)).before args0 about1 = true := code_word (m := ⟨1, 1⟩) (meth := k1m1) (c := k1c1) (by decide +kernel) rfl rfl rfl (by decide +kernel)
set_option maxRecDepth 65536 in
theorem w_c2 : (Jvm.Cond.code ({ cls := "com/example/vetch/vetch/util/CharacterOrderComparePinLaw", name := "make", desc := "(ICC)Ljava/lang/String;" } : Jvm.MethodName) method_3_code (3 : Nat) (Option.some (Jvm.ClassFile.FieldType.object "java/lang/String"))).before args0 about1 = true := code_word (m := ⟨1, 2⟩) (meth := k1m2) (c := k1c2) (by decide +kernel) rfl rfl rfl (by decide +kernel)
set_option maxRecDepth 65536 in
theorem w_c3 : (Jvm.Cond.code ({ cls := "java/lang/String", name := "<init>", desc := "([C)V" } : Jvm.MethodName) jdk_42_method_3_code (2 : Nat) (Option.none : Option Jvm.ClassFile.FieldType)).before args0 about1 = true := code_word (m := ⟨7, 1⟩) (meth := k7m1) (c := k7c1) (by decide +kernel) rfl rfl rfl (by decide +kernel)
set_option maxRecDepth 65536 in
theorem w_c4 : (Jvm.Cond.code ({ cls := "java/lang/String", name := "<init>", desc := "([CIILjava/lang/Void;)V" } : Jvm.MethodName) jdk_42_method_149_code (6 : Nat) (Option.none : Option Jvm.ClassFile.FieldType)).before args0 about1 = true := code_word (m := ⟨7, 4⟩) (meth := k7m4) (c := k7c4) (by decide +kernel) rfl rfl rfl (by decide +kernel)
set_option maxRecDepth 65536 in
theorem w_c5 : (Jvm.Cond.code ({ cls := "java/lang/Object", name := "<init>", desc := "()V" } : Jvm.MethodName) object_method_1_code (1 : Nat) (Option.none : Option Jvm.ClassFile.FieldType)).before args0 about1 = true := code_word (m := ⟨0, 0⟩) (meth := k0m0) (c := k0c0) (by decide +kernel) rfl rfl rfl (by decide +kernel)
set_option maxRecDepth 65536 in
theorem w_c6 : (Jvm.Cond.code ({ cls := "com/example/vetch/vetch/util/CharacterOrderComparePinLaw", name := "points", desc := "(ICC)[I" } : Jvm.MethodName) method_4_code (4 : Nat) (Option.some (Jvm.ClassFile.FieldType.array Jvm.ClassFile.FieldType.int))).before args0 about1 = true := code_word (m := ⟨1, 3⟩) (meth := k1m3) (c := k1c3) (by decide +kernel) rfl rfl rfl (by decide +kernel)
set_option maxRecDepth 65536 in
theorem w_c7 : (Jvm.Cond.code ({ cls := "com/example/vetch/vetch/util/CharacterOrderComparePinLaw", name := "expected", desc := "([I[I)I" } : Jvm.MethodName) method_6_code (2 : Nat) (Option.some Jvm.ClassFile.FieldType.int)).before args0 about1 = true := code_word (m := ⟨1, 5⟩) (meth := k1m5) (c := k1c5) (by decide +kernel) rfl rfl rfl (by decide +kernel)
set_option maxRecDepth 65536 in
theorem w_c8 : (Jvm.Cond.code ({ cls := "com/example/vetch/vetch/util/CharacterOrder", name := "compare", desc := "(Ljava/lang/String;Ljava/lang/String;)I" } : Jvm.MethodName) prog_29_method_2_code (6 : Nat) (Option.some Jvm.ClassFile.FieldType.int)).before args0 about1 = true := code_word (m := ⟨8, 1⟩) (meth := k8m1) (c := k8c1) (by decide +kernel) rfl rfl rfl (by decide +kernel)
set_option maxRecDepth 65536 in
theorem w_c9 : (Jvm.Cond.code ({ cls := "java/lang/String", name := "length", desc := "()I" } : Jvm.MethodName) jdk_42_method_54_code (1 : Nat) (Option.some Jvm.ClassFile.FieldType.int)).before args0 about1 = true := code_word (m := ⟨7, 2⟩) (meth := k7m2) (c := k7c2) (by decide +kernel) rfl rfl rfl (by decide +kernel)
set_option maxRecDepth 65536 in
theorem w_c10 : (Jvm.Cond.code ({ cls := "java/lang/String", name := "coder", desc := "()B" } : Jvm.MethodName) jdk_42_method_152_code (1 : Nat) (Option.some Jvm.ClassFile.FieldType.byte)).before args0 about1 = true := code_word (m := ⟨7, 5⟩) (meth := k7m5) (c := k7c5) (by decide +kernel) rfl rfl rfl (by decide +kernel)
set_option maxRecDepth 65536 in
theorem w_c11 : (Jvm.Cond.code ({ cls := "java/lang/Math", name := "min", desc := "(II)I" } : Jvm.MethodName) jdk_29_method_69_code (2 : Nat) (Option.some Jvm.ClassFile.FieldType.int)).before args0 about1 = true := code_word (m := ⟨9, 1⟩) (meth := k9m1) (c := k9c1) (by decide +kernel) rfl rfl rfl (by decide +kernel)
set_option maxRecDepth 65536 in
theorem w_c12 : (Jvm.Cond.code ({ cls := "java/lang/Integer", name := "compare", desc := "(II)I" } : Jvm.MethodName) jdk_33_method_40_code (2 : Nat) (Option.some Jvm.ClassFile.FieldType.int)).before args0 about1 = true := code_word (m := ⟨11, 0⟩) (meth := k11m0) (c := k11c0) (by decide +kernel) rfl rfl rfl (by decide +kernel)
set_option maxRecDepth 65536 in
theorem w_c13 : (Jvm.Cond.code ({ cls := "com/example/vetch/vetch/util/CharacterOrderComparePinLaw", name := "sign", desc := "(I)I" } : Jvm.MethodName) method_5_code (1 : Nat) (Option.some Jvm.ClassFile.FieldType.int)).before args0 about1 = true := code_word (m := ⟨1, 4⟩) (meth := k1m4) (c := k1c4) (by decide +kernel) rfl rfl rfl (by decide +kernel)
set_option maxRecDepth 65536 in
theorem w_c14 : (Jvm.Cond.code ({ cls := "java/lang/StringUTF16", name := "compress", desc := "([CII)[B" } : Jvm.MethodName) jdk_52_method_16_code (6 : Nat) (Option.some (Jvm.ClassFile.FieldType.array Jvm.ClassFile.FieldType.byte))).before args0 about1 = true := code_word (m := ⟨12, 9⟩) (meth := k12m9) (c := k12c9) (by decide +kernel) rfl rfl rfl (by decide +kernel)
set_option maxRecDepth 65536 in
theorem w_c15 : (Jvm.Cond.code ({ cls := "java/lang/StringUTF16", name := "compress", desc := "([CI[BII)I" } : Jvm.MethodName) jdk_52_method_21_code (7 : Nat) (Option.some Jvm.ClassFile.FieldType.int)).before args0 about1 = true := code_word (m := ⟨12, 10⟩) (meth := k12m10) (c := k12c10) (by decide +kernel) rfl rfl rfl (by decide +kernel)
set_option maxRecDepth 65536 in
theorem w_c16 : (Jvm.Cond.code ({ cls := "java/lang/StringUTF16", name := "coderFromArrayLen", desc := "([BI)B" } : Jvm.MethodName) jdk_52_method_15_code (2 : Nat) (Option.some Jvm.ClassFile.FieldType.byte)).before args0 about1 = true := code_word (m := ⟨12, 8⟩) (meth := k12m8) (c := k12c8) (by decide +kernel) rfl rfl rfl (by decide +kernel)
set_option maxRecDepth 65536 in
theorem w_c17 : (Jvm.Cond.code ({ cls := "java/lang/StringUTF16", name := "toBytes", desc := "([CII)[B" } : Jvm.MethodName) jdk_52_method_14_code (5 : Nat) (Option.some (Jvm.ClassFile.FieldType.array Jvm.ClassFile.FieldType.byte))).before args0 about1 = true := code_word (m := ⟨12, 7⟩) (meth := k12m7) (c := k12c7) (by decide +kernel) rfl rfl rfl (by decide +kernel)
set_option maxRecDepth 65536 in
theorem w_c18 : (Jvm.Cond.code ({ cls := "java/lang/StringUTF16", name := "newBytesFor", desc := "(I)[B" } : Jvm.MethodName) jdk_52_method_2_code (1 : Nat) (Option.some (Jvm.ClassFile.FieldType.array Jvm.ClassFile.FieldType.byte))).before args0 about1 = true := code_word (m := ⟨12, 1⟩) (meth := k12m1) (c := k12c1) (by decide +kernel) rfl rfl rfl (by decide +kernel)
set_option maxRecDepth 65536 in
theorem w_c19 : (Jvm.Cond.code ({ cls := "java/lang/StringUTF16", name := "newBytesLength", desc := "(I)I" } : Jvm.MethodName) jdk_52_method_3_code (1 : Nat) (Option.some Jvm.ClassFile.FieldType.int)).before args0 about1 = true := code_word (m := ⟨12, 2⟩) (meth := k12m2) (c := k12c2) (by decide +kernel) rfl rfl rfl (by decide +kernel)
set_option maxRecDepth 65536 in
theorem w_c20 : (Jvm.Cond.code ({ cls := "java/lang/StringUTF16", name := "putChar", desc := "([BII)V" } : Jvm.MethodName) jdk_52_method_4_code (3 : Nat) (Option.none : Option Jvm.ClassFile.FieldType)).before args0 about1 = true := code_word (m := ⟨12, 3⟩) (meth := k12m3) (c := k12c3) (by decide +kernel) rfl rfl rfl (by decide +kernel)
set_option maxRecDepth 65536 in
theorem w_c21 : (Jvm.Cond.code ({ cls := "java/lang/StringUTF16", name := "getChar", desc := "([BI)C" } : Jvm.MethodName) jdk_52_method_5_code (2 : Nat) (Option.some Jvm.ClassFile.FieldType.char)).before args0 about1 = true := code_word (m := ⟨12, 4⟩) (meth := k12m4) (c := k12c4) (by decide +kernel) rfl rfl rfl (by decide +kernel)
set_option maxRecDepth 65536 in
theorem w_c22 : (Jvm.Cond.code ({ cls := "java/lang/String", name := "codePointAt", desc := "(I)I" } : Jvm.MethodName) jdk_42_method_57_code (3 : Nat) (Option.some Jvm.ClassFile.FieldType.int)).before args0 about1 = true := code_word (m := ⟨7, 3⟩) (meth := k7m3) (c := k7c3) (by decide +kernel) rfl rfl rfl (by decide +kernel)
set_option maxRecDepth 65536 in
theorem w_c23 : (Jvm.Cond.code ({ cls := "java/lang/String", name := "isLatin1", desc := "()Z" } : Jvm.MethodName) jdk_42_method_154_code (1 : Nat) (Option.some Jvm.ClassFile.FieldType.boolean)).before args0 about1 = true := code_word (m := ⟨7, 6⟩) (meth := k7m6) (c := k7c6) (by decide +kernel) rfl rfl rfl (by decide +kernel)
set_option maxRecDepth 65536 in
theorem w_c24 : (Jvm.Cond.code ({ cls := "java/lang/String", name := "checkIndex", desc := "(II)V" } : Jvm.MethodName) jdk_42_method_155_code (2 : Nat) (Option.none : Option Jvm.ClassFile.FieldType)).before args0 about1 = true := code_word (m := ⟨7, 7⟩) (meth := k7m7) (c := k7c7) (by decide +kernel) rfl rfl rfl (by decide +kernel)
set_option maxRecDepth 65536 in
theorem w_c25 : (Jvm.Cond.code ({ cls := "jdk/internal/util/Preconditions", name := "checkIndex", desc := "(IILjava/util/function/BiFunction;)I" } : Jvm.MethodName) jdk_41_method_11_code (3 : Nat) (Option.some Jvm.ClassFile.FieldType.int)).before args0 about1 = true := code_word (m := ⟨13, 1⟩) (meth := k13m1) (c := k13c1) (by decide +kernel) rfl rfl rfl (by decide +kernel)
set_option maxRecDepth 65536 in
theorem w_c26 : (Jvm.Cond.code ({ cls := "java/lang/StringUTF16", name := "codePointAt", desc := "([BII)I" } : Jvm.MethodName) jdk_52_method_8_code (3 : Nat) (Option.some Jvm.ClassFile.FieldType.int)).before args0 about1 = true := code_word (m := ⟨12, 6⟩) (meth := k12m6) (c := k12c6) (by decide +kernel) rfl rfl rfl (by decide +kernel)
set_option maxRecDepth 65536 in
theorem w_c27 : (Jvm.Cond.code ({ cls := "java/lang/StringUTF16", name := "codePointAt", desc := "([BIIZ)I" } : Jvm.MethodName) jdk_52_method_7_code (6 : Nat) (Option.some Jvm.ClassFile.FieldType.int)).before args0 about1 = true := code_word (m := ⟨12, 5⟩) (meth := k12m5) (c := k12c5) (by decide +kernel) rfl rfl rfl (by decide +kernel)
set_option maxRecDepth 65536 in
theorem w_c28 : (Jvm.Cond.code ({ cls := "java/lang/Character", name := "isHighSurrogate", desc := "(C)Z" } : Jvm.MethodName) jdk_89_method_14_code (1 : Nat) (Option.some Jvm.ClassFile.FieldType.boolean)).before args0 about1 = true := code_word (m := ⟨14, 0⟩) (meth := k14m0) (c := k14c0) (by decide +kernel) rfl rfl rfl (by decide +kernel)
set_option maxRecDepth 65536 in
theorem w_c29 : (Jvm.Cond.code ({ cls := "java/lang/Character", name := "charCount", desc := "(I)I" } : Jvm.MethodName) jdk_89_method_18_code (1 : Nat) (Option.some Jvm.ClassFile.FieldType.int)).before args0 about1 = true := code_word (m := ⟨14, 2⟩) (meth := k14m2) (c := k14c2) (by decide +kernel) rfl rfl rfl (by decide +kernel)
set_option maxRecDepth 65536 in
theorem w_c30 : (Jvm.Cond.code ({ cls := "java/lang/Character", name := "isLowSurrogate", desc := "(C)Z" } : Jvm.MethodName) jdk_89_method_15_code (1 : Nat) (Option.some Jvm.ClassFile.FieldType.boolean)).before args0 about1 = true := code_word (m := ⟨14, 1⟩) (meth := k14m1) (c := k14c1) (by decide +kernel) rfl rfl rfl (by decide +kernel)
set_option maxRecDepth 65536 in
theorem w_c31 : (Jvm.Cond.code ({ cls := "java/lang/Character", name := "toCodePoint", desc := "(CC)I" } : Jvm.MethodName) jdk_89_method_19_code (2 : Nat) (Option.some Jvm.ClassFile.FieldType.int)).before args0 about1 = true := code_word (m := ⟨14, 3⟩) (meth := k14m3) (c := k14c3) (by decide +kernel) rfl rfl rfl (by decide +kernel)
def codes1 : List Jvm.Cond := [Jvm.Cond.code x code maxLocals ret, Jvm.Cond.code ({ cls := "com/example/vetch/vetch/util/CharacterOrderComparePinLaw", name := "draw", desc := "(I)C" } : Jvm.MethodName) method_2_code (2 : Nat) (Option.some Jvm.ClassFile.FieldType.char), Jvm.Cond.code ({ cls := "com/example/vetch/vetch/util/CharacterOrderComparePinLaw", name := "make", desc := "(ICC)Ljava/lang/String;" } : Jvm.MethodName) method_3_code (3 : Nat) (Option.some (Jvm.ClassFile.FieldType.object "java/lang/String")), Jvm.Cond.code ({ cls := "java/lang/String", name := "<init>", desc := "([C)V" } : Jvm.MethodName) jdk_42_method_3_code (2 : Nat) (Option.none : Option Jvm.ClassFile.FieldType), Jvm.Cond.code ({ cls := "java/lang/String", name := "<init>", desc := "([CIILjava/lang/Void;)V" } : Jvm.MethodName) jdk_42_method_149_code (6 : Nat) (Option.none : Option Jvm.ClassFile.FieldType), Jvm.Cond.code ({ cls := "java/lang/Object", name := "<init>", desc := "()V" } : Jvm.MethodName) object_method_1_code (1 : Nat) (Option.none : Option Jvm.ClassFile.FieldType), Jvm.Cond.code ({ cls := "com/example/vetch/vetch/util/CharacterOrderComparePinLaw", name := "points", desc := "(ICC)[I" } : Jvm.MethodName) method_4_code (4 : Nat) (Option.some (Jvm.ClassFile.FieldType.array Jvm.ClassFile.FieldType.int)), Jvm.Cond.code ({ cls := "com/example/vetch/vetch/util/CharacterOrderComparePinLaw", name := "expected", desc := "([I[I)I" } : Jvm.MethodName) method_6_code (2 : Nat) (Option.some Jvm.ClassFile.FieldType.int), Jvm.Cond.code ({ cls := "com/example/vetch/vetch/util/CharacterOrder", name := "compare", desc := "(Ljava/lang/String;Ljava/lang/String;)I" } : Jvm.MethodName) prog_29_method_2_code (6 : Nat) (Option.some Jvm.ClassFile.FieldType.int), Jvm.Cond.code ({ cls := "java/lang/String", name := "length", desc := "()I" } : Jvm.MethodName) jdk_42_method_54_code (1 : Nat) (Option.some Jvm.ClassFile.FieldType.int), Jvm.Cond.code ({ cls := "java/lang/String", name := "coder", desc := "()B" } : Jvm.MethodName) jdk_42_method_152_code (1 : Nat) (Option.some Jvm.ClassFile.FieldType.byte), Jvm.Cond.code ({ cls := "java/lang/Math", name := "min", desc := "(II)I" } : Jvm.MethodName) jdk_29_method_69_code (2 : Nat) (Option.some Jvm.ClassFile.FieldType.int), Jvm.Cond.code ({ cls := "java/lang/Integer", name := "compare", desc := "(II)I" } : Jvm.MethodName) jdk_33_method_40_code (2 : Nat) (Option.some Jvm.ClassFile.FieldType.int), Jvm.Cond.code ({ cls := "com/example/vetch/vetch/util/CharacterOrderComparePinLaw", name := "sign", desc := "(I)I" } : Jvm.MethodName) method_5_code (1 : Nat) (Option.some Jvm.ClassFile.FieldType.int), Jvm.Cond.code ({ cls := "java/lang/StringUTF16", name := "compress", desc := "([CII)[B" } : Jvm.MethodName) jdk_52_method_16_code (6 : Nat) (Option.some (Jvm.ClassFile.FieldType.array Jvm.ClassFile.FieldType.byte)), Jvm.Cond.code ({ cls := "java/lang/StringUTF16", name := "compress", desc := "([CI[BII)I" } : Jvm.MethodName) jdk_52_method_21_code (7 : Nat) (Option.some Jvm.ClassFile.FieldType.int), Jvm.Cond.code ({ cls := "java/lang/StringUTF16", name := "coderFromArrayLen", desc := "([BI)B" } : Jvm.MethodName) jdk_52_method_15_code (2 : Nat) (Option.some Jvm.ClassFile.FieldType.byte), Jvm.Cond.code ({ cls := "java/lang/StringUTF16", name := "toBytes", desc := "([CII)[B" } : Jvm.MethodName) jdk_52_method_14_code (5 : Nat) (Option.some (Jvm.ClassFile.FieldType.array Jvm.ClassFile.FieldType.byte)), Jvm.Cond.code ({ cls := "java/lang/StringUTF16", name := "newBytesFor", desc := "(I)[B" } : Jvm.MethodName) jdk_52_method_2_code (1 : Nat) (Option.some (Jvm.ClassFile.FieldType.array Jvm.ClassFile.FieldType.byte)), Jvm.Cond.code ({ cls := "java/lang/StringUTF16", name := "newBytesLength", desc := "(I)I" } : Jvm.MethodName) jdk_52_method_3_code (1 : Nat) (Option.some Jvm.ClassFile.FieldType.int), Jvm.Cond.code ({ cls := "java/lang/StringUTF16", name := "putChar", desc := "([BII)V" } : Jvm.MethodName) jdk_52_method_4_code (3 : Nat) (Option.none : Option Jvm.ClassFile.FieldType), Jvm.Cond.code ({ cls := "java/lang/StringUTF16", name := "getChar", desc := "([BI)C" } : Jvm.MethodName) jdk_52_method_5_code (2 : Nat) (Option.some Jvm.ClassFile.FieldType.char), Jvm.Cond.code ({ cls := "java/lang/String", name := "codePointAt", desc := "(I)I" } : Jvm.MethodName) jdk_42_method_57_code (3 : Nat) (Option.some Jvm.ClassFile.FieldType.int), Jvm.Cond.code ({ cls := "java/lang/String", name := "isLatin1", desc := "()Z" } : Jvm.MethodName) jdk_42_method_154_code (1 : Nat) (Option.some Jvm.ClassFile.FieldType.boolean), Jvm.Cond.code ({ cls := "java/lang/String", name := "checkIndex", desc := "(II)V" } : Jvm.MethodName) jdk_42_method_155_code (2 : Nat) (Option.none : Option Jvm.ClassFile.FieldType), Jvm.Cond.code ({ cls := "jdk/internal/util/Preconditions", name := "checkIndex", desc := "(IILjava/util/function/BiFunction;)I" } : Jvm.MethodName) jdk_41_method_11_code (3 : Nat) (Option.some Jvm.ClassFile.FieldType.int), Jvm.Cond.code ({ cls := "java/lang/StringUTF16", name := "codePointAt", desc := "([BII)I" } : Jvm.MethodName) jdk_52_method_8_code (3 : Nat) (Option.some Jvm.ClassFile.FieldType.int), Jvm.Cond.code ({ cls := "java/lang/StringUTF16", name := "codePointAt", desc := "([BIIZ)I" } : Jvm.MethodName) jdk_52_method_7_code (6 : Nat) (Option.some Jvm.ClassFile.FieldType.int), Jvm.Cond.code ({ cls := "java/lang/Character", name := "isHighSurrogate", desc := "(C)Z" } : Jvm.MethodName) jdk_89_method_14_code (1 : Nat) (Option.some Jvm.ClassFile.FieldType.boolean), Jvm.Cond.code ({ cls := "java/lang/Character", name := "charCount", desc := "(I)I" } : Jvm.MethodName) jdk_89_method_18_code (1 : Nat) (Option.some Jvm.ClassFile.FieldType.int), Jvm.Cond.code ({ cls := "java/lang/Character", name := "isLowSurrogate", desc := "(C)Z" } : Jvm.MethodName) jdk_89_method_15_code (1 : Nat) (Option.some Jvm.ClassFile.FieldType.boolean), Jvm.Cond.code ({ cls := "java/lang/Character", name := "toCodePoint", desc := "(CC)I" } : Jvm.MethodName) jdk_89_method_19_code (2 : Nat) (Option.some Jvm.ClassFile.FieldType.int)]
set_option maxRecDepth 65536 in
theorem codes_eq : words1.filter isCode = codes1 := rfl
theorem w_codes : ∀ c ∈ words1.filter isCode, c.before args0 about1 = true := by
  rw [codes_eq]
  intro c hc
  simp only [codes1, List.mem_cons, List.not_mem_nil, or_false] at hc
  rcases hc with rfl | rfl | rfl | rfl | rfl | rfl | rfl | rfl | rfl | rfl | rfl | rfl | rfl | rfl | rfl | rfl | rfl | rfl | rfl | rfl | rfl | rfl | rfl | rfl | rfl | rfl | rfl | rfl | rfl | rfl | rfl | rfl
  · exact w_c0
  · exact w_c1
  · exact w_c2
  · exact w_c3
  · exact w_c4
  · exact w_c5
  · exact w_c6
  · exact w_c7
  · exact w_c8
  · exact w_c9
  · exact w_c10
  · exact w_c11
  · exact w_c12
  · exact w_c13
  · exact w_c14
  · exact w_c15
  · exact w_c16
  · exact w_c17
  · exact w_c18
  · exact w_c19
  · exact w_c20
  · exact w_c21
  · exact w_c22
  · exact w_c23
  · exact w_c24
  · exact w_c25
  · exact w_c26
  · exact w_c27
  · exact w_c28
  · exact w_c29
  · exact w_c30
  · exact w_c31
set_option maxRecDepth 65536 in
theorem w_t1 : (words1.take 24).all (fun c => isCode c || c.before args0 about1) = true := by decide +kernel
set_option maxRecDepth 65536 in
theorem w_t2 : ((words1.drop 24).take 24).all (fun c => isCode c || c.before args0 about1) = true := by decide +kernel
set_option maxRecDepth 65536 in
theorem w_t3 : (((words1.drop 24).drop 24).take 24).all (fun c => isCode c || c.before args0 about1) = true := by decide +kernel
set_option maxRecDepth 65536 in
theorem w_t4 : ((((words1.drop 24).drop 24).drop 24).take 24).all (fun c => isCode c || c.before args0 about1) = true := by decide +kernel
set_option maxRecDepth 65536 in
theorem w_t5 : (((((words1.drop 24).drop 24).drop 24).drop 24).take 24).all (fun c => isCode c || c.before args0 about1) = true := by decide +kernel
set_option maxRecDepth 65536 in
theorem w_t6 : (((((words1.drop 24).drop 24).drop 24).drop 24).drop 24).all (fun c => isCode c || c.before args0 about1) = true := by decide +kernel
theorem w_tables : (allAtoms (Jvm.Cond.code x code maxLocals ret :: tables_1)).before args0 about1 = true := by
  rw [allAtoms_all]
  show words1.all (fun c => c.before args0 about1) = true
  refine all_split ?_ w_codes
  rw [← List.take_append_drop 24 words1, List.all_append, w_t1, ← List.take_append_drop 24 (words1.drop 24), List.all_append, w_t2, ← List.take_append_drop 24 ((words1.drop 24).drop 24), List.all_append, w_t3, ← List.take_append_drop 24 (((words1.drop 24).drop 24).drop 24), List.all_append, w_t4, ← List.take_append_drop 24 ((((words1.drop 24).drop 24).drop 24).drop 24), List.all_append, w_t5, w_t6]
  rfl
set_option maxRecDepth 65536 in
theorem w_rest : rest_1_c.before args0 about1 = true := by decide +kernel
set_option maxRecDepth 65536 in
theorem w_case : (Jvm.Cond.and given_1 narrow_1).before args0 about1 = true := by decide +kernel
set_option maxRecDepth 65536 in
theorem w_consts : constsHeld consts_1 about1 := Jvm.Lit.constsHeldB_iff.mp (by decide +kernel)
theorem w_applies : (headSpec (Jvm.Cond.code x code maxLocals ret :: tables_1) room_1).applies x e0.platform about1 = true :=
  (Spec.applies_iff w_frames).mpr ⟨w_running, w_runnable, w_alone, w_named, w_hears, w_ripe, w_room, w_tables⟩
theorem atStart : AtStart classFile x code maxLocals ret World_1 tables_1 room_1 Calls_1 rest_1 Pre_1 launch0 p0 e0 about1 theMethod args0 below0 :=
  ⟨lists_1, trivial, launch0.admits_env _ _ _, launch0.least_env, fairChoices_fair.cas, fairChoices_fair.clock, w_frames, w_args, w_heap, w_applies, ⟨w_consts, trivial⟩, w_rest, w_case⟩
end start1
theorem witness_1 : WitnessClaimed_1 := ⟨start1.p0, start1.e0, start1.about1, start1.theMethod, start1.args0, start1.below0, start1.atStart⟩
end Jvm.Pilot.@@N@@
