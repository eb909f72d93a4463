import JvmDerived
import JvmDerived.Pilot.@@N@@Statement
import JvmDerived.Pilot.@@N@@Code
set_option linter.unusedVariables false
set_option linter.unusedSimpArgs false
/- laws to paste: Road.backV, Road.codOf, Road.lenW, Road.chN (cut by pick.py; bodies as the Statement names them) -/
namespace Jvm.Pilot.@@N@@
namespace StrChars
open Jvm Sem ClassFile Op Lib Jvm.Stand Jvm.Free.XT Jvm.Free.ALB Jvm.Free.JM Jvm.Free
open Jvm.Lib.Cold (StaticIs)
/-- a char array whose places are chars -/
def Ch (a : Addr) (A : Cell) (U : State) : Prop := Arr .char a A U ∧ Typed .char A
theorem Ch.mv {a : Addr} {A : Cell} {U U' : State} (h : Ch a A U) (hal : U.vm.Alike U'.vm) (hh : U'.heap = U.heap) : Ch a A U' := ⟨h.1.mv hal hh, h.2⟩
theorem Ch.keep {a : Addr} {A : Cell} {U U' : State} (h : Ch a A U) (hal : U.vm.Alike U'.vm) (hk : U'.heap[a]? = some A) : Ch a A U' := ⟨h.1.keep hal hk, h.2⟩
/-- what place i of a char[]'s cell holds -/
def cv (A : Cell) (i : Nat) : Int32 := match A.slots[i]? with | some (.int x) => x | _ => 0
theorem Ch.get {a : Addr} {A : Cell} {U : State} (h : Ch a A U) {i : Nat} (hi : i < A.slots.size) : A.slots[i]? = some (.int (cv A i)) := by
  have e := Array.getElem?_eq_getElem hi
  have f := h.2 i _ e
  unfold cv; rw [e]
  generalize A.slots[i] = v at f
  cases v <;> simp [fits] at f ⊢
/-- the byte that i2b leaves of a char -/
def lo8 (x : Int32) : Int32 := x.toInt8.toInt32
theorem fits_lo8 (y : Int32) : fits .byte (.int (lo8 y)) = true := by
  have h1 := y.toInt8.le_toInt
  have h2 := y.toInt8.toInt_lt
  simp only [lo8, fits, Bool.and_eq_true, decide_eq_true_eq, Int32.le_iff_toInt_le, Int8.toInt_toInt32, show (-128 : Int32).toInt = -128 from by decide, show (127 : Int32).toInt = 127 from by decide]
  omega
/-- A' is A but that each place j of lo .. hi - 1 holds f j -/
def Laid (A A' : Cell) (lo hi : Nat) (f : Nat → Value) : Prop := A'.cls = A.cls ∧ A'.vm = A.vm ∧ A'.slots.size = A.slots.size ∧ ∀ i, A'.slots[i]? = if lo ≤ i ∧ i < hi then some (f i) else A.slots[i]?
theorem Laid.zero (A : Cell) (lo : Nat) (f : Nat → Value) : Laid A A lo (lo + 0) f := ⟨rfl, rfl, rfl, fun i => by rw [if_neg (by omega)]⟩
theorem Laid.step {A Ak : Cell} {lo k : Nat} {f : Nat → Value} {v : Value} (h : Laid A Ak lo k f) (hlo : lo ≤ k) (hk : k < Ak.slots.size) (hv : v = f k) : Laid A (Ak.setSlot k v) lo (k + 1) f := by
  refine ⟨h.1, h.2.1, by simpa [Cell.setSlot] using h.2.2.1, fun i => ?_⟩
  by_cases e : k = i
  · subst e; rw [Cell.slots_setSlot_self v hk, if_pos (by omega), hv]
  · rw [Cell.slots_setSlot_ne v e, h.2.2.2 i]
    by_cases q : lo ≤ i ∧ i < k
    · rw [if_pos q, if_pos (by omega)]
    · rw [if_neg q, if_neg (by omega)]
def U16 : String := "java/lang/StringUTF16"
namespace Cmp5
def yN : MethodName := ⟨"java/lang/StringUTF16", "compress", "([CI[BII)I"⟩
abbrev yB : ByteArray := jdk_52_method_21_code
theorem d0 : decode yB 0 = .ok (.iconst 0, 1) := by decide +kernel
theorem d1 : decode yB 1 = .ok (.istore 5, 2) := by decide +kernel
theorem d3 : decode yB 3 = .ok (.iload 5, 2) := by decide +kernel
theorem d5 : decode yB 5 = .ok (.iload 4, 2) := by decide +kernel
theorem d7 : decode yB 7 = .ok (.if_icmp (.ge) 37, 3) := by decide +kernel
theorem d10 : decode yB 10 = .ok (.aload_n 0, 1) := by decide +kernel
theorem d11 : decode yB 11 = .ok (.iload_n 1, 1) := by decide +kernel
theorem d12 : decode yB 12 = .ok (.caload, 1) := by decide +kernel
theorem d13 : decode yB 13 = .ok (.istore 6, 2) := by decide +kernel
theorem d15 : decode yB 15 = .ok (.iload 6, 2) := by decide +kernel
theorem d17 : decode yB 17 = .ok (.sipush 255, 3) := by decide +kernel
theorem d20 : decode yB 20 = .ok (.if_icmp (.le) 6, 3) := by decide +kernel
theorem d26 : decode yB 26 = .ok (.aload_n 2, 1) := by decide +kernel
theorem d27 : decode yB 27 = .ok (.iload_n 3, 1) := by decide +kernel
theorem d28 : decode yB 28 = .ok (.iload 6, 2) := by decide +kernel
theorem d30 : decode yB 30 = .ok (.i2b, 1) := by decide +kernel
theorem d31 : decode yB 31 = .ok (.bastore, 1) := by decide +kernel
theorem d32 : decode yB 32 = .ok (.iinc 1 1, 3) := by decide +kernel
theorem d35 : decode yB 35 = .ok (.iinc 3 1, 3) := by decide +kernel
theorem d38 : decode yB 38 = .ok (.iinc 5 1, 3) := by decide +kernel
theorem d41 : decode yB 41 = .ok (.goto (-38), 3) := by decide +kernel
theorem d44 : decode yB 44 = .ok (.iload 4, 2) := by decide +kernel
theorem d46 : decode yB 46 = .ok (.ireturn, 1) := by decide +kernel
def site : List Cond := []
def tab : Cond := tabOf yN yB 7 (some .int) site
def P (b : Addr) (A : Cell) (d : Addr) (B : Cell) (o q len : Nat) (args : Array Value) (s : State) : Prop := args = #[.ref b, .int (Int32.ofNat o), .ref d, .int (Int32.ofNat q), .int (Int32.ofNat len)] ∧ Ch b A s ∧ Arr .byte d B s ∧ b ≠ d ∧ o + len ≤ A.slots.size ∧ q + len ≤ B.slots.size ∧ ∀ i, i < len → ¬ 255 < cv A (o + i)
def E (b : Addr) (A : Cell) (d : Addr) (B : Cell) (o q len : Nat) (r : Option Value) (s u : State) : Prop := r = some (.int (Int32.ofNat len)) ∧ ∃ B', Put d B' s u ∧ Laid B B' q (q + len) (fun j => Value.int (lo8 (cv A (o + (j - q)))))
/-- no char of the range above 255: len; the places written hold each char's low byte -/
theorem law (l : Launch) (b : Addr) (A : Cell) (d : Addr) (B : Cell) (o q len : Nat) : Law l yN 5 5 0 0 yB 7 (some .int) site (P b A d B o q len) (E b A d B o q len) (copyLocs d q len) 0 0 := by
  refine Law.of_walk (plainFor_of_name (by decide +kernel)) (by decide +kernel) (by decide +kernel) (by decide) (fun _ _ h => by rw [h.1]; rfl) (fun _ U U' hal hh h => ⟨h.1, h.2.1.mv hal hh, h.2.2.1.mv hal hh, h.2.2.2⟩) (fun r U U' V V' h1 hal h2 h => ⟨h.1, h.2.elim fun B' q => ⟨B', q.1.mv h1 h2, q.2⟩⟩) ?_
  intro p e s m args below meth c s₁ X0 hexec hbytes hml hret hlk hnm hown hh0 W hP
  obtain ⟨rfl, hA, hB, hne, l1, l2, hp⟩ := hP
  have c1 : Steps p.tables e below (s₁.setTop (entryFrame m #[.ref b, .int (Int32.ofNat o), .ref d, .int (Int32.ofNat q), .int (Int32.ofNat len)] 7)) (s₁.setTop (mkF m 0 #[.val (.ref b), .val (.int (Int32.ofNat o)), .val (.ref d), .val (.int (Int32.ofNat q)), .val (.int (Int32.ofNat len)), .unset, .unset] [])) := entry rfl
  have hA0 := hA.1.mv X0.warmed.alike hh0
  have hB0 := hB.mv X0.warmed.alike hh0
  have a31 := hA.1.2.2.2
  have c2 : Steps p.tables e below (s₁.setTop (entryFrame m #[.ref b, .int (Int32.ofNat o), .ref d, .int (Int32.ofNat q), .int (Int32.ofNat len)] 7)) (s₁.setTop (mkF m 3 #[.val (.ref b), .val (.int (Int32.ofNat o)), .val (.ref d), .val (.int (Int32.ofNat q)), .val (.int (Int32.ofNat len)), .val (.int 0), .unset] [])) := c1.trans (by
    refine iconstV X0.here hexec rfl 0 (hb hbytes d0) (by decide) ?_
    refine XS.istore X0.here hexec rfl (hb hbytes d1) rfl rfl ?_
    exact Steps.refl _)
  have loop : ∀ (r i : Nat), i + r = len → ∀ (z : Slot), (z = .unset ∨ ∃ w, z = .val w ∧ w.category = 1) → ∀ (Tl : State) (Bk : Cell), Stand p l e { frames := 0, locals := 0, cells := 0, slots := 0 } s m #[.ref b, .int (Int32.ofNat o), .ref d, .int (Int32.ofNat q), .int (Int32.ofNat len)] below meth c Tl ([] ++ copyLocs d q i) 0 0 → Put d Bk s₁ Tl → Laid B Bk q (q + i) (fun j => Value.int (lo8 (cv A (o + (j - q))))) →
      Steps p.tables e below (s₁.setTop (entryFrame m #[.ref b, .int (Int32.ofNat o), .ref d, .int (Int32.ofNat q), .int (Int32.ofNat len)] 7)) (Tl.setTop (mkF m 3 #[.val (.ref b), .val (.int (Int32.ofNat (o + i))), .val (.ref d), .val (.int (Int32.ofNat (q + i))), .val (.int (Int32.ofNat len)), .val (.int (Int32.ofNat i)), z] [])) → ∃ (T' : State) (B' : Cell) (z' : Slot), Stand p l e { frames := 0, locals := 0, cells := 0, slots := 0 } s m #[.ref b, .int (Int32.ofNat o), .ref d, .int (Int32.ofNat q), .int (Int32.ofNat len)] below meth c T' ([] ++ copyLocs d q len) 0 0 ∧ Put d B' s₁ T' ∧ Laid B B' q (q + len) (fun j => Value.int (lo8 (cv A (o + (j - q))))) ∧
      Steps p.tables e below (s₁.setTop (entryFrame m #[.ref b, .int (Int32.ofNat o), .ref d, .int (Int32.ofNat q), .int (Int32.ofNat len)] 7)) (T'.setTop (mkF m 3 #[.val (.ref b), .val (.int (Int32.ofNat (o + len))), .val (.ref d), .val (.int (Int32.ofNat (q + len))), .val (.int (Int32.ofNat len)), .val (.int (Int32.ofNat len)), z'] [])) := by
    intro r
    induction r with
    | zero =>
      intro i hi z hz Tl Bk Xl pl fl cl
      have hil : i = len := by omega
      rw [hil] at Xl fl cl
      exact ⟨Tl, Bk, z, Xl, pl, fl, cl⟩
    | succ r ih =>
      intro i hi z hz Tl Bk Xl pl fl cl
      have all := X0.warmed.alike.symm.trans Xl.warmed.alike
      have hAl := hA0.keep all (pl.other hne hA0.1)
      have hBk := hB0.like all pl.1 fl.1 fl.2.1 fl.2.2.1
      have hlt : q + i < Bk.slots.size := by rw [fl.2.2.1]; omega
      have c3 : Steps p.tables e below (s₁.setTop (entryFrame m #[.ref b, .int (Int32.ofNat o), .ref d, .int (Int32.ofNat q), .int (Int32.ofNat len)] 7)) (Tl.setTop (mkF m 12 #[.val (.ref b), .val (.int (Int32.ofNat (o + i))), .val (.ref d), .val (.int (Int32.ofNat (q + i))), .val (.int (Int32.ofNat len)), .val (.int (Int32.ofNat i)), z] [.int (Int32.ofNat (o + i)), .ref b])) := cl.trans (by
        refine XS.iload Xl.here hexec rfl (hb hbytes d3) rfl ?_
        refine XS.iload Xl.here hexec rfl (hb hbytes d5) rfl ?_
        refine XS.icmpNo Xl.here hexec rfl (hb hbytes d7) rfl (ii_ge_f (lt32 (by omega) (by omega))) ?_
        refine XS.aloadN Xl.here hexec rfl (hb hbytes d10) rfl rfl ?_
        refine XS.iloadN Xl.here hexec rfl (hb hbytes d11) rfl ?_
        exact Steps.refl _)
      have c4 : Steps p.tables e below (s₁.setTop (entryFrame m #[.ref b, .int (Int32.ofNat o), .ref d, .int (Int32.ofNat q), .int (Int32.ofNat len)] 7)) (Tl.setTop (mkF m 13 #[.val (.ref b), .val (.int (Int32.ofNat (o + i))), .val (.ref d), .val (.int (Int32.ofNat (q + i))), .val (.int (Int32.ofNat len)), .val (.int (Int32.ofNat i)), z] [.int (cv A (o + i))])) := c3.trans (by
        refine Xl.aget hexec hAl rfl (hA.get (i := o + i) (by omega)) rfl rfl (hb hbytes d12) ?_
        exact Steps.refl _)
      have c5 : Steps p.tables e below (s₁.setTop (entryFrame m #[.ref b, .int (Int32.ofNat o), .ref d, .int (Int32.ofNat q), .int (Int32.ofNat len)] 7)) (Tl.setTop (mkF m 15 #[.val (.ref b), .val (.int (Int32.ofNat (o + i))), .val (.ref d), .val (.int (Int32.ofNat (q + i))), .val (.int (Int32.ofNat len)), .val (.int (Int32.ofNat i)), .val (.int (cv A (o + i)))] [])) := c4.trans (by
        refine XS.istoreS Xl.here hexec rfl (hb hbytes d13) rfl rfl hz ?_
        exact Steps.refl _)
      have c6 : Steps p.tables e below (s₁.setTop (entryFrame m #[.ref b, .int (Int32.ofNat o), .ref d, .int (Int32.ofNat q), .int (Int32.ofNat len)] 7)) (Tl.setTop (mkF m 31 #[.val (.ref b), .val (.int (Int32.ofNat (o + i))), .val (.ref d), .val (.int (Int32.ofNat (q + i))), .val (.int (Int32.ofNat len)), .val (.int (Int32.ofNat i)), .val (.int (cv A (o + i)))] [.int (lo8 (cv A (o + i))), .int (Int32.ofNat (q + i)), .ref d])) := c5.trans (by
        refine XS.iload Xl.here hexec rfl (hb hbytes d15) rfl ?_
        refine sipushV Xl.here hexec rfl 255 (hb hbytes d17) (by decide) ?_
        refine XS.icmpYes Xl.here hexec rfl (pc0 := 20) rfl (hb hbytes d20) rfl (ii_le_t (hp i (by omega))) (by decide) rfl ?_
        refine XS.aloadN Xl.here hexec rfl (hb hbytes d26) rfl rfl ?_
        refine XS.iloadN Xl.here hexec rfl (hb hbytes d27) rfl ?_
        refine XS.iload Xl.here hexec rfl (hb hbytes d28) rfl ?_
        refine i2b Xl.here hexec rfl (hb hbytes d30) rfl ?_
        exact Steps.refl _)
      obtain ⟨T7, X7, p7, st7⟩ := Xl.aput hexec hBk rfl hlt rfl (fits_lo8 (cv A (o + i))) (g := (mkF m 31 #[.val (.ref b), .val (.int (Int32.ofNat (o + i))), .val (.ref d), .val (.int (Int32.ofNat (q + i))), .val (.int (Int32.ofNat len)), .val (.int (Int32.ofNat i)), .val (.int (cv A (o + i)))] [.int (lo8 (cv A (o + i))), .int (Int32.ofNat (q + i)), .ref d])) rfl (rest := []) rfl (hb hbytes d31)
      have c8 : Steps p.tables e below (s₁.setTop (entryFrame m #[.ref b, .int (Int32.ofNat o), .ref d, .int (Int32.ofNat q), .int (Int32.ofNat len)] 7)) (T7.setTop (mkF m 32 #[.val (.ref b), .val (.int (Int32.ofNat (o + i))), .val (.ref d), .val (.int (Int32.ofNat (q + i))), .val (.int (Int32.ofNat len)), .val (.int (Int32.ofNat i)), .val (.int (cv A (o + i)))] [])) := c6.trans (st7 _ (Steps.refl _))
      have c9 : Steps p.tables e below (s₁.setTop (entryFrame m #[.ref b, .int (Int32.ofNat o), .ref d, .int (Int32.ofNat q), .int (Int32.ofNat len)] 7)) (T7.setTop (mkF m 3 #[.val (.ref b), .val (.int (Int32.ofNat (o + i) + 1)), .val (.ref d), .val (.int (Int32.ofNat (q + i) + 1)), .val (.int (Int32.ofNat len)), .val (.int (Int32.ofNat i + 1)), .val (.int (cv A (o + i)))] [])) := c8.trans (by
        refine iincV X7.here hexec rfl 1 (hb hbytes d32) (by decide) rfl rfl ?_
        refine iincV X7.here hexec rfl 1 (hb hbytes d35) (by decide) rfl rfl ?_
        refine iincV X7.here hexec rfl 1 (hb hbytes d38) (by decide) rfl rfl ?_
        refine XS.goto X7.here hexec rfl (pc0 := 41) rfl (hb hbytes d41) (by decide) rfl ?_
        exact Steps.refl _)
      have c10 : Steps p.tables e below (s₁.setTop (entryFrame m #[.ref b, .int (Int32.ofNat o), .ref d, .int (Int32.ofNat q), .int (Int32.ofNat len)] 7)) (T7.setTop (mkF m 3 #[.val (.ref b), .val (.int (Int32.ofNat (o + (i + 1)))), .val (.ref d), .val (.int (Int32.ofNat (q + (i + 1)))), .val (.int (Int32.ofNat len)), .val (.int (Int32.ofNat (i + 1))), .val (.int (cv A (o + i)))] [])) := by
        have := c9
        rw [succ32, succ32, succ32] at this
        exact this
      exact ih (i + 1) (by omega) _ (Or.inr ⟨_, rfl, rfl⟩) T7 _ (by rw [copyLocs_step, ← List.append_assoc]; exact X7) (pl.trans p7) (fl.step (by omega) hlt (by simp)) c10
  obtain ⟨T9, B9, z9, X9, p9, f9, g9⟩ := loop len 0 (by omega) .unset (Or.inl rfl) s₁ B (by simpa [copyLocs] using X0) ⟨hB0.1, fun _ _ => rfl, rfl⟩ (Laid.zero _ _ _) c2
  have c11 : Steps p.tables e below (s₁.setTop (entryFrame m #[.ref b, .int (Int32.ofNat o), .ref d, .int (Int32.ofNat q), .int (Int32.ofNat len)] 7)) (T9.setTop (mkF m 46 #[.val (.ref b), .val (.int (Int32.ofNat (o + len))), .val (.ref d), .val (.int (Int32.ofNat (q + len))), .val (.int (Int32.ofNat len)), .val (.int (Int32.ofNat len)), z9] [.int (Int32.ofNat len)])) := g9.trans (by
    refine XS.iload X9.here hexec rfl (hb hbytes d3) rfl ?_
    refine XS.iload X9.here hexec rfl (hb hbytes d5) rfl ?_
    refine XS.icmpYes X9.here hexec rfl (pc0 := 7) rfl (hb hbytes d7) rfl (ii_ge_t (nlt32 (by omega) (Nat.le_refl _))) (by decide) rfl ?_
    refine XS.iload X9.here hexec rfl (hb hbytes d44) rfl ?_
    exact Steps.refl _)
  exact ⟨T9, some (.int (Int32.ofNat len)), _, _, _, X9, by simp, rfl, rfl, (fun h => by cases h), ⟨rfl, B9, p9.from hh0, f9⟩, fun fs hl => c11.trans (X9.ireturnOut hexec hret rfl (Or.inl rfl) (hb hbytes d46) hl)⟩
end Cmp5
namespace Cmp3
def yN : MethodName := ⟨"java/lang/StringUTF16", "compress", "([CII)[B"⟩
abbrev yB : ByteArray := jdk_52_method_16_code
theorem d0 : decode yB 0 = .ok (.iload_n 2, 1) := by decide +kernel
theorem d1 : decode yB 1 = .ok (.newarray .byte, 2) := by decide +kernel
theorem d3 : decode yB 3 = .ok (.astore_n 3, 1) := by decide +kernel
theorem d4 : decode yB 4 = .ok (.aload_n 0, 1) := by decide +kernel
theorem d5 : decode yB 5 = .ok (.iload_n 1, 1) := by decide +kernel
theorem d6 : decode yB 6 = .ok (.aload_n 3, 1) := by decide +kernel
theorem d7 : decode yB 7 = .ok (.iconst 0, 1) := by decide +kernel
theorem d8 : decode yB 8 = .ok (.iload_n 2, 1) := by decide +kernel
theorem d9 : decode yB 9 = .ok (.invokestatic 115, 3) := by decide +kernel
theorem d12 : decode yB 12 = .ok (.istore 4, 2) := by decide +kernel
theorem d14 : decode yB 14 = .ok (.iload 4, 2) := by decide +kernel
theorem d16 : decode yB 16 = .ok (.iload_n 2, 1) := by decide +kernel
theorem d17 : decode yB 17 = .ok (.if_icmp (.eq) 40, 3) := by decide +kernel
theorem d57 : decode yB 57 = .ok (.aload_n 3, 1) := by decide +kernel
theorem d58 : decode yB 58 = .ok (.areturn, 1) := by decide +kernel
def site : List Cond := [.arrayClass .byte, Cmp5.tab] ++ staticW U16 115 Cmp5.yN
def tab : Cond := tabOf yN yB 6 (some (.array .byte)) site
def P (b : Addr) (A : Cell) (o len : Nat) (args : Array Value) (s : State) : Prop := args = #[.ref b, .int (Int32.ofNat o), .int (Int32.ofNat len)] ∧ Ch b A s ∧ o + len ≤ A.slots.size ∧ len ≤ 536870912 ∧ ∀ i, i < len → ¬ 255 < cv A (o + i)
def E (b : Addr) (A : Cell) (o len : Nat) (r : Option Value) (s u : State) : Prop := NewArr .byte "[B" len (fun j => .int (lo8 (cv A (o + j)))) r s u ∧ u.heap.size = s.heap.size + 1
/-- no char of the range above 255: a new byte[] of their low bytes -/
theorem law (l : Launch) (b : Addr) (A : Cell) (o len : Nat) : Law l yN 3 3 1 18 yB 6 (some (.array .byte)) site (P b A o len) (E b A o len) [] 1 len := by
  refine Law.of_walk (plainFor_of_name (by decide +kernel)) (by decide +kernel) (by decide +kernel) (by decide) (fun _ _ h => by rw [h.1]; rfl) (fun _ U U' hal hh h => ⟨h.1, h.2.1.mv hal hh, h.2.2⟩) (fun r U U' V V' h1 hal h2 h => ⟨NewArr.mv r U U' V V' h1 hal h2 h.1, by rw [h1, h2]; exact h.2⟩) ?_
  intro p e s m args below meth c s₁ X0 hexec hbytes hml hret hlk hnm hown hh0 W hP
  obtain ⟨rfl, hA, l1, l2, hp⟩ := hP
  have a31 := hA.1.2.2.2
  have c1 : Steps p.tables e below (s₁.setTop (entryFrame m #[.ref b, .int (Int32.ofNat o), .int (Int32.ofNat len)] 6)) (s₁.setTop (mkF m 0 #[.val (.ref b), .val (.int (Int32.ofNat o)), .val (.int (Int32.ofNat len)), .unset, .unset, .unset] [])) := entry rfl
  have c2 : Steps p.tables e below (s₁.setTop (entryFrame m #[.ref b, .int (Int32.ofNat o), .int (Int32.ofNat len)] 6)) (s₁.setTop (mkF m 1 #[.val (.ref b), .val (.int (Int32.ofNat o)), .val (.int (Int32.ofNat len)), .unset, .unset, .unset] [.int (Int32.ofNat len)])) := c1.trans (by
    refine XS.iloadN X0.here hexec rfl (hb hbytes d0) rfl ?_
    exact Steps.refl _)
  obtain ⟨T3, B3, X3, ba3, bs3, bv3, bh3, bf3, st3⟩ := X0.anew hexec (atype := .byte) (wk W (.arrayClass .byte)) rfl (by show len * 1 ≤ _; omega) (by omega) (g := (mkF m 1 #[.val (.ref b), .val (.int (Int32.ofNat o)), .val (.int (Int32.ofNat len)), .unset, .unset, .unset] [.int (Int32.ofNat len)])) rfl (hb hbytes d1) (rest := []) rfl (Nat.le_refl _) (by show 0 + len ≤ len; omega)
  rw [hh0] at ba3 st3
  have kp3 : XT.Kept s T3 := (XT.Kept.of_eq hh0).push bh3
  have hA3 := hA.keep X3.warmed.alike (kp3 _ _ hA.1.1)
  have hne : b ≠ s.heap.size := hA.1.ne
  have c4 : Steps p.tables e below (s₁.setTop (entryFrame m #[.ref b, .int (Int32.ofNat o), .int (Int32.ofNat len)] 6)) (T3.setTop (mkF m 3 #[.val (.ref b), .val (.int (Int32.ofNat o)), .val (.int (Int32.ofNat len)), .unset, .unset, .unset] [.ref s.heap.size])) := c2.trans (st3 _ (Steps.refl _))
  have c5 : Steps p.tables e below (s₁.setTop (entryFrame m #[.ref b, .int (Int32.ofNat o), .int (Int32.ofNat len)] 6)) (T3.setTop (mkF m 9 #[.val (.ref b), .val (.int (Int32.ofNat o)), .val (.int (Int32.ofNat len)), .val (.ref s.heap.size), .unset, .unset] [.int (Int32.ofNat len), .int 0, .ref s.heap.size, .int (Int32.ofNat o), .ref b])) := c4.trans (by
    refine XS.astoreN X3.here hexec rfl (hb hbytes d3) rfl rfl rfl ?_
    refine XS.aloadN X3.here hexec rfl (hb hbytes d4) rfl rfl ?_
    refine XS.iloadN X3.here hexec rfl (hb hbytes d5) rfl ?_
    refine XS.aloadN X3.here hexec rfl (hb hbytes d6) rfl rfl ?_
    refine iconstV X3.here hexec rfl 0 (hb hbytes d7) (by decide) ?_
    refine XS.iloadN X3.here hexec rfl (hb hbytes d8) rfl ?_
    exact Steps.refl _)
  obtain ⟨v6, T6, X6, E6, g6⟩ := X3.callS hexec (Cmp5.law l b A s.heap.size B3 o 0 len) hown (wks W (staticW U16 115 Cmp5.yN)) (wk W Cmp5.tab) (W := 0) (Nat.le_of_ble_eq_true rfl) (Nat.le_of_ble_eq_true rfl) (Nat.le_refl _) (by show 0 + len + 0 ≤ len; omega) (g := (mkF m 9 #[.val (.ref b), .val (.int (Int32.ofNat o)), .val (.int (Int32.ofNat len)), .val (.ref s.heap.size), .unset, .unset] [.int (Int32.ofNat len), .int (Int32.ofNat 0), .ref s.heap.size, .int (Int32.ofNat o), .ref b])) rfl (by rw [hml]; rfl) c5 (argsL := [.ref b, .int (Int32.ofNat o), .ref s.heap.size, .int (Int32.ofNat 0), .int (Int32.ofNat len)]) (rest := []) rfl rfl (by show 2 * 0 + 0 ≤ _; decide) (hb hbytes d9) (⟨rfl, hA3, ba3, hne, l1, by rw [bs3]; simp, hp⟩)
  obtain ⟨rfl, B6, p6, f6⟩ := E6
  have c7 : Steps p.tables e below (s₁.setTop (entryFrame m #[.ref b, .int (Int32.ofNat o), .int (Int32.ofNat len)] 6)) (T6.setTop (mkF m 12 #[.val (.ref b), .val (.int (Int32.ofNat o)), .val (.int (Int32.ofNat len)), .val (.ref s.heap.size), .unset, .unset] [.int (Int32.ofNat len)])) := g6
  have c8 : Steps p.tables e below (s₁.setTop (entryFrame m #[.ref b, .int (Int32.ofNat o), .int (Int32.ofNat len)] 6)) (T6.setTop (mkF m 58 #[.val (.ref b), .val (.int (Int32.ofNat o)), .val (.int (Int32.ofNat len)), .val (.ref s.heap.size), .val (.int (Int32.ofNat len)), .unset] [.ref s.heap.size])) := c7.trans (by
    refine XS.istore X6.here hexec rfl (hb hbytes d12) rfl rfl ?_
    refine XS.iload X6.here hexec rfl (hb hbytes d14) rfl ?_
    refine XS.iloadN X6.here hexec rfl (hb hbytes d16) rfl ?_
    refine XS.icmpYes X6.here hexec rfl (pc0 := 17) rfl (hb hbytes d17) rfl (ii_eq_t rfl) (by decide) rfl ?_
    refine XS.aloadN X6.here hexec rfl (hb hbytes d57) rfl rfl ?_
    exact Steps.refl _)
  have X8 := X6.wide (L' := []) (cells' := 1) (slots' := len) (fun x hx hlt => by
    simp only [List.nil_append, copyLocs, List.mem_map, List.mem_range] at hx
    obtain ⟨i, -, rfl⟩ := hx
    exact absurd hlt (Nat.lt_irrefl _)) (Nat.le_refl _) (by omega)
  exact ⟨T6, some (.ref s.heap.size), _, _, _, X8, rfl, rfl, rfl, (fun h => by cases h), ⟨⟨rfl, B6, ba3.like (X3.warmed.alike.symm.trans X6.warmed.alike) p6.1 f6.1 f6.2.1 f6.2.2.1, f6.2.1.trans bv3, by rw [X6.warmed.alike.findClass, f6.1]; exact bf3, by rw [f6.2.2.1, bs3]; simp, fun j hj => by rw [f6.2.2.2 j, if_pos (by omega)]; rfl, kp3.put p6 (Nat.le_refl _)⟩, by rw [p6.2.2, bh3, hh0]; simp⟩, fun fs hl => c8.trans (X8.areturnOut hexec rfl hret rfl (hb hbytes d58) hl)⟩
end Cmp3
namespace CodL
def yN : MethodName := ⟨"java/lang/StringUTF16", "coderFromArrayLen", "([BI)B"⟩
abbrev yB : ByteArray := jdk_52_method_15_code
theorem d0 : decode yB 0 = .ok (.iload_n 1, 1) := by decide +kernel
theorem d1 : decode yB 1 = .ok (.aload_n 0, 1) := by decide +kernel
theorem d2 : decode yB 2 = .ok (.arraylength, 1) := by decide +kernel
theorem d3 : decode yB 3 = .ok (.isub, 1) := by decide +kernel
theorem d4 : decode yB 4 = .ok (.bipush 31, 2) := by decide +kernel
theorem d6 : decode yB 6 = .ok (.iushr, 1) := by decide +kernel
theorem d7 : decode yB 7 = .ok (.i2b, 1) := by decide +kernel
theorem d8 : decode yB 8 = .ok (.ireturn, 1) := by decide +kernel
def site : List Cond := []
def tab : Cond := tabOf yN yB 2 (some .byte) site
def P (d : Addr) (B : Cell) (args : Array Value) (s : State) : Prop := args = #[.ref d, .int (Int32.ofNat B.slots.size)] ∧ Arr .byte d B s
def E (r : Option Value) (s u : State) : Prop := XT.PureE (some (.int 0)) r s u
/-- an array as long as the number of chars: LATIN1 -/
theorem law (l : Launch) (d : Addr) (B : Cell) : Law l yN 2 2 0 0 yB 2 (some .byte) site (P d B) E [] 0 0 := by
  refine Law.of_walk (plainFor_of_name (by decide +kernel)) (by decide +kernel) (by decide +kernel) (by decide) (fun _ _ h => by rw [h.1]; rfl) (fun _ U U' hal hh h => ⟨h.1, h.2.mv hal hh⟩) (fun r U U' V V' h1 hal h2 h => XT.PureE.mv r U U' V V' h1 hal h2 h) ?_
  intro p e s m args below meth c s₁ X0 hexec hbytes hml hret hlk hnm hown hh0 W hP
  obtain ⟨rfl, hB⟩ := hP
  have hB0 := hB.mv X0.warmed.alike hh0
  have c1 : Steps p.tables e below (s₁.setTop (entryFrame m #[.ref d, .int (Int32.ofNat B.slots.size)] 2)) (s₁.setTop (mkF m 0 #[.val (.ref d), .val (.int (Int32.ofNat B.slots.size))] [])) := entry rfl
  have c2 : Steps p.tables e below (s₁.setTop (entryFrame m #[.ref d, .int (Int32.ofNat B.slots.size)] 2)) (s₁.setTop (mkF m 2 #[.val (.ref d), .val (.int (Int32.ofNat B.slots.size))] [.ref d, .int (Int32.ofNat B.slots.size)])) := c1.trans (by
    refine XS.iloadN X0.here hexec rfl (hb hbytes d0) rfl ?_
    refine XS.aloadN X0.here hexec rfl (hb hbytes d1) rfl rfl ?_
    exact Steps.refl _)
  have c3 : Steps p.tables e below (s₁.setTop (entryFrame m #[.ref d, .int (Int32.ofNat B.slots.size)] 2)) (s₁.setTop (mkF m 8 #[.val (.ref d), .val (.int (Int32.ofNat B.slots.size))] [.int (lo8 (ushr (Int32.ofNat B.slots.size - Int32.ofNat B.slots.size) 31))])) := c2.trans (by
    refine X0.alen hexec hB0 rfl rfl (hb hbytes d2) ?_
    refine XS.isub X0.here hexec rfl (hb hbytes d3) rfl ?_
    refine bipushV X0.here hexec rfl 31 (hb hbytes d4) (by decide) ?_
    refine iushr X0.here hexec rfl (hb hbytes d6) rfl ?_
    refine i2b X0.here hexec rfl (hb hbytes d7) rfl ?_
    exact Steps.refl _)
  have e0 : lo8 (ushr (Int32.ofNat B.slots.size - Int32.ofNat B.slots.size) 31) = 0 := by rw [Int32.sub_self]; decide
  rw [e0] at c3
  exact ⟨s₁, some (.int 0), _, _, _, X0, rfl, rfl, rfl, (fun h => by cases h), ⟨rfl, hh0⟩, fun fs hl => c3.trans (X0.ireturnOut hexec hret rfl (Or.inr (Or.inr (Or.inl rfl))) (hb hbytes d8) hl)⟩
end CodL
/-- the String at a is Latin-1 over a new byte[] (the heap's one new cell): the low bytes of the len chars of A from o on; every cell but a is kept -/
def Got (a : Addr) (D : Cell) (fV fC : Field) (A : Cell) (o len : Nat) (r : Option Value) (s u : State) : Prop := r = none ∧ ∃ D' V : Cell, Blank "java/lang/String" a D' u ∧ Same D D' [fV.slot, fC.slot] ∧ D'.slots[fV.slot]? = some (.ref s.heap.size) ∧ D'.slots[fC.slot]? = some (.int 0) ∧ Arr .byte s.heap.size V u ∧ V.vm = .none ∧ u.vm.findClass "[B" = some V.cls ∧ V.slots.size = len ∧ (∀ j, j < len → V.slots[j]? = some (.int (lo8 (cv A (o + j))))) ∧ (∀ (y : Addr) (c : Cell), y ≠ a → s.heap[y]? = some c → u.heap[y]? = some c) ∧ u.heap.size = s.heap.size + 1
theorem Got.mv {a : Addr} {D A : Cell} {fV fC : Field} {o len : Nat} : ∀ r (U U' V V' : State), U'.heap = U.heap → V.vm.Alike V'.vm → V'.heap = V.heap → Got a D fV fC A o len r U V → Got a D fV fC A o len r U' V' :=
  fun r U U' V V' h1 hal h2 ⟨e0, D', X, a1, a2, a3, a4, a5, a6, a7, a8, a9, a10, a11⟩ => ⟨e0, D', X, a1.mv hal h2, a2, by rw [h1]; exact a3, a4, by rw [h1]; exact a5.mv hal h2, a6, by rw [hal.findClass]; exact a7, a8, a9, by rw [h1, h2]; exact a10, by rw [h1, h2]; exact a11⟩
namespace New4
def yN : MethodName := ⟨"java/lang/String", "<init>", "([CIILjava/lang/Void;)V"⟩
abbrev yB : ByteArray := jdk_42_method_149_code
theorem d0 : decode yB 0 = .ok (.aload_n 0, 1) := by decide +kernel
theorem d1 : decode yB 1 = .ok (.invokespecial 1, 3) := by decide +kernel
theorem d4 : decode yB 4 = .ok (.iload_n 3, 1) := by decide +kernel
theorem d5 : decode yB 5 = .ok (.ifCond (.ne) 22, 3) := by decide +kernel
theorem d27 : decode yB 27 = .ok (.getstatic 38, 3) := by decide +kernel
theorem d30 : decode yB 30 = .ok (.ifCond (.eq) 28, 3) := by decide +kernel
theorem d33 : decode yB 33 = .ok (.aload_n 1, 1) := by decide +kernel
theorem d34 : decode yB 34 = .ok (.iload_n 2, 1) := by decide +kernel
theorem d35 : decode yB 35 = .ok (.iload_n 3, 1) := by decide +kernel
theorem d36 : decode yB 36 = .ok (.invokestatic 177, 3) := by decide +kernel
theorem d39 : decode yB 39 = .ok (.astore 5, 2) := by decide +kernel
theorem d41 : decode yB 41 = .ok (.aload_n 0, 1) := by decide +kernel
theorem d42 : decode yB 42 = .ok (.aload 5, 2) := by decide +kernel
theorem d44 : decode yB 44 = .ok (.iload_n 3, 1) := by decide +kernel
theorem d45 : decode yB 45 = .ok (.invokestatic 47, 3) := by decide +kernel
theorem d48 : decode yB 48 = .ok (.putfield 15, 3) := by decide +kernel
theorem d51 : decode yB 51 = .ok (.aload_n 0, 1) := by decide +kernel
theorem d52 : decode yB 52 = .ok (.aload 5, 2) := by decide +kernel
theorem d54 : decode yB 54 = .ok (.putfield 9, 3) := by decide +kernel
theorem d57 : decode yB 57 = .ok (.return_, 1) := by decide +kernel
def site : List Cond := [.fieldLink "java/lang/String" 38 "java/lang/String" "COMPACT_STRINGS" "Z", Cmp3.tab, CodL.tab, .laysFinal "java/lang/String" "java/lang/String" "value" "[B", .fieldLink "java/lang/String" 9 "java/lang/String" "value" "[B", .laysFinal "java/lang/String" "java/lang/String" "coder" "B", .fieldLink "java/lang/String" 15 "java/lang/String" "coder" "B"] ++ objW "java/lang/String" 1 ++ staticW "java/lang/String" 177 Cmp3.yN ++ staticW "java/lang/String" 47 CodL.yN
def tab : Cond := tabOf yN yB 6 none site
def P (a : Addr) (D : Cell) (fV fC : Field) (b : Addr) (A : Cell) (z : Int32) (o len : Nat) (args : Array Value) (s : State) : Prop := args = #[.ref a, .ref b, .int (Int32.ofNat o), .int (Int32.ofNat len), .null] ∧ Blank "java/lang/String" a D s ∧ Found "java/lang/String" "value" "[B" fV s ∧ Found "java/lang/String" "coder" "B" fC s ∧ Ch b A s ∧ StaticIs s "java/lang/String" "COMPACT_STRINGS" "Z" (.int z) ∧ ¬ z = 0 ∧ 0 < len ∧ o + len ≤ A.slots.size ∧ len ≤ 536870912 ∧ ∀ i, i < len → ¬ 255 < cv A (o + i)
def E (a : Addr) (D : Cell) (fV fC : Field) (A : Cell) (o len : Nat) (r : Option Value) (s u : State) : Prop := Got a D fV fC A o len r s u
/-- len > 0, no char of the range above 255: a Latin-1 String of their low bytes -/
theorem law (l : Launch) (a : Addr) (D : Cell) (fV fC : Field) (b : Addr) (A : Cell) (z : Int32) (o len : Nat) : Law l yN 5 4 2 35 yB 6 none site (P a D fV fC b A z o len) (E a D fV fC A o len) [⟨a, fC.slot⟩, ⟨a, fV.slot⟩] 1 len := by
  refine Law.of_walk (plainFor_of_name (by decide +kernel)) (by decide +kernel) (by decide +kernel) (by decide) (fun _ _ h => by rw [h.1]; rfl) (fun _ U U' hal hh h => ⟨h.1, h.2.1.mv hal hh, h.2.2.1.al hal, h.2.2.2.1.al hal, h.2.2.2.2.1.mv hal hh, h.2.2.2.2.2.1.there hal hh, h.2.2.2.2.2.2⟩) (fun r U U' V V' h1 hal h2 h => Got.mv r U U' V V' h1 hal h2 h) ?_
  intro p e s m args below meth c s₁ X0 hexec hbytes hml hret hlk hnm hown hh0 W hP
  obtain ⟨rfl, hB, f1, f2, hA, s1, hz, l0, l1, l2, hp⟩ := hP
  have a31 := hA.1.2.2.2
  have c1 : Steps p.tables e below (s₁.setTop (entryFrame m #[.ref a, .ref b, .int (Int32.ofNat o), .int (Int32.ofNat len), .null] 6)) (s₁.setTop (mkF m 0 #[.val (.ref a), .val (.ref b), .val (.int (Int32.ofNat o)), .val (.int (Int32.ofNat len)), .val .null, .unset] [])) := entry rfl
  have c2 : Steps p.tables e below (s₁.setTop (entryFrame m #[.ref a, .ref b, .int (Int32.ofNat o), .int (Int32.ofNat len), .null] 6)) (s₁.setTop (mkF m 1 #[.val (.ref a), .val (.ref b), .val (.int (Int32.ofNat o)), .val (.int (Int32.ofNat len)), .val .null, .unset] [.ref a])) := c1.trans (by
    refine XS.aloadN X0.here hexec rfl (hb hbytes d0) rfl rfl ?_
    exact Steps.refl _)
  obtain ⟨T3, X3, q3, st3⟩ := X0.oinit hexec hown (wks W (objW "java/lang/String" 1)) (g := (mkF m 1 #[.val (.ref a), .val (.ref b), .val (.int (Int32.ofNat o)), .val (.int (Int32.ofNat len)), .val .null, .unset] [.ref a])) rfl (by rw [hml]; rfl) (rest := []) rfl (hb hbytes d1) (W := 0) (by show 2 * 0 + 0 ≤ _; decide) (Nat.le_of_ble_eq_true rfl) (Nat.le_of_ble_eq_true rfl)
  have hh3 := q3.trans hh0
  have c4 : Steps p.tables e below (s₁.setTop (entryFrame m #[.ref a, .ref b, .int (Int32.ofNat o), .int (Int32.ofNat len), .null] 6)) (T3.setTop (mkF m 27 #[.val (.ref a), .val (.ref b), .val (.int (Int32.ofNat o)), .val (.int (Int32.ofNat len)), .val .null, .unset] [])) := (c2.trans (st3 _ (Steps.refl _))).trans (by
    refine XS.iloadN X3.here hexec rfl (hb hbytes d4) rfl ?_
    refine XS.ifYes X3.here hexec rfl (pc0 := 5) rfl (hb hbytes d5) rfl (i0_ne_t (nz32 (by omega) l0)) (by decide) rfl ?_
    exact Steps.refl _)
  obtain ⟨T5, X5, q5, st5⟩ := X3.sget hexec hown (wk W (.fieldLink "java/lang/String" 38 "java/lang/String" "COMPACT_STRINGS" "Z")) s1 (fun _ _ h => by rw [hh3]; exact h) (g := (mkF m 27 #[.val (.ref a), .val (.ref b), .val (.int (Int32.ofNat o)), .val (.int (Int32.ofNat len)), .val .null, .unset] [])) rfl (hb hbytes d27)
  have hh5 := q5.trans hh3
  have c6 : Steps p.tables e below (s₁.setTop (entryFrame m #[.ref a, .ref b, .int (Int32.ofNat o), .int (Int32.ofNat len), .null] 6)) (T5.setTop (mkF m 30 #[.val (.ref a), .val (.ref b), .val (.int (Int32.ofNat o)), .val (.int (Int32.ofNat len)), .val .null, .unset] [.int z])) := c4.trans (st5 _ (Steps.refl _))
  have c7 : Steps p.tables e below (s₁.setTop (entryFrame m #[.ref a, .ref b, .int (Int32.ofNat o), .int (Int32.ofNat len), .null] 6)) (T5.setTop (mkF m 36 #[.val (.ref a), .val (.ref b), .val (.int (Int32.ofNat o)), .val (.int (Int32.ofNat len)), .val .null, .unset] [.int (Int32.ofNat len), .int (Int32.ofNat o), .ref b])) := c6.trans (by
    refine XS.ifNo X5.here hexec rfl (hb hbytes d30) rfl (i0_eq_f hz) ?_
    refine XS.aloadN X5.here hexec rfl (hb hbytes d33) rfl rfl ?_
    refine XS.iloadN X5.here hexec rfl (hb hbytes d34) rfl ?_
    refine XS.iloadN X5.here hexec rfl (hb hbytes d35) rfl ?_
    exact Steps.refl _)
  obtain ⟨v8, T8, X8, E8, g8⟩ := X5.callS hexec (Cmp3.law l b A o len) hown (wks W (staticW "java/lang/String" 177 Cmp3.yN)) (wk W Cmp3.tab) (W := 0) (Nat.le_of_ble_eq_true rfl) (Nat.le_of_ble_eq_true rfl) (Nat.le_refl _) (by show 0 + len ≤ len; omega) (g := (mkF m 36 #[.val (.ref a), .val (.ref b), .val (.int (Int32.ofNat o)), .val (.int (Int32.ofNat len)), .val .null, .unset] [.int (Int32.ofNat len), .int (Int32.ofNat o), .ref b])) rfl (by rw [hml]; rfl) c7 (argsL := [.ref b, .int (Int32.ofNat o), .int (Int32.ofNat len)]) (rest := []) rfl rfl (by show 2 * 0 + 0 ≤ _; decide) (hb hbytes d36) (⟨rfl, hA.mv X5.warmed.alike hh5, l1, l2, hp⟩)
  obtain ⟨e8, z8⟩ := E8
  obtain ⟨rfl, N, n1, n2, n3, n4, n5, n6⟩ := NewArr.mv _ T5 s _ _ hh5.symm (Vm.Alike.refl _) rfl e8
  rw [hh5] at z8
  have hB1 := hB.keep X8.warmed.alike (n6 _ _ hB.1)
  have hne : s.heap.size ≠ a := (Nat.ne_of_lt (Array.getElem?_eq_some_iff.mp hB.1).1).symm
  have c9 : Steps p.tables e below (s₁.setTop (entryFrame m #[.ref a, .ref b, .int (Int32.ofNat o), .int (Int32.ofNat len), .null] 6)) (T8.setTop (mkF m 39 #[.val (.ref a), .val (.ref b), .val (.int (Int32.ofNat o)), .val (.int (Int32.ofNat len)), .val .null, .unset] [.ref s.heap.size])) := g8
  have c10 : Steps p.tables e below (s₁.setTop (entryFrame m #[.ref a, .ref b, .int (Int32.ofNat o), .int (Int32.ofNat len), .null] 6)) (T8.setTop (mkF m 45 #[.val (.ref a), .val (.ref b), .val (.int (Int32.ofNat o)), .val (.int (Int32.ofNat len)), .val .null, .val (.ref s.heap.size)] [.int (Int32.ofNat N.slots.size), .ref s.heap.size, .ref a])) := by
    have hc : Steps p.tables e below (s₁.setTop (entryFrame m #[.ref a, .ref b, .int (Int32.ofNat o), .int (Int32.ofNat len), .null] 6)) (T8.setTop (mkF m 45 #[.val (.ref a), .val (.ref b), .val (.int (Int32.ofNat o)), .val (.int (Int32.ofNat len)), .val .null, .val (.ref s.heap.size)] [.int (Int32.ofNat len), .ref s.heap.size, .ref a])) := c9.trans (by
      refine XS.astore X8.here hexec rfl (hb hbytes d39) rfl rfl rfl ?_
      refine XS.aloadN X8.here hexec rfl (hb hbytes d41) rfl rfl ?_
      refine XS.aload X8.here hexec rfl (hb hbytes d42) rfl rfl ?_
      refine XS.iloadN X8.here hexec rfl (hb hbytes d44) rfl ?_
      exact Steps.refl _)
    rw [n4]; exact hc
  obtain ⟨v11, T11, X11, E11, g11⟩ := X8.callS hexec (CodL.law l s.heap.size N) hown (wks W (staticW "java/lang/String" 47 CodL.yN)) (wk W CodL.tab) (W := 1) (Nat.le_of_ble_eq_true rfl) (Nat.le_of_ble_eq_true rfl) (Nat.le_refl _) (by show 0 + len + 0 ≤ len; omega) (g := (mkF m 45 #[.val (.ref a), .val (.ref b), .val (.int (Int32.ofNat o)), .val (.int (Int32.ofNat len)), .val .null, .val (.ref s.heap.size)] [.int (Int32.ofNat N.slots.size), .ref s.heap.size, .ref a])) rfl (by rw [hml]; rfl) c10 (argsL := [.ref s.heap.size, .int (Int32.ofNat N.slots.size)]) (rest := [.ref a]) rfl rfl (by show 2 * 0 + (1 + 0) ≤ _; decide) (hb hbytes d45) (⟨rfl, n1⟩)
  obtain ⟨rfl, q11⟩ := E11
  have hB11 := hB1.mv (X8.warmed.alike.symm.trans X11.warmed.alike) q11
  have c12 : Steps p.tables e below (s₁.setTop (entryFrame m #[.ref a, .ref b, .int (Int32.ofNat o), .int (Int32.ofNat len), .null] 6)) (T11.setTop (mkF m 48 #[.val (.ref a), .val (.ref b), .val (.int (Int32.ofNat o)), .val (.int (Int32.ofNat len)), .val .null, .val (.ref s.heap.size)] [.int 0, .ref a])) := g11
  obtain ⟨T13, X13, p13, bl13, sl13, st13⟩ := X11.finit hexec hown (wk W (.fieldLink "java/lang/String" 15 "java/lang/String" "coder" "B")) (Or.inr ⟨_, (wk W (.laysFinal "java/lang/String" "java/lang/String" "coder" "B"))⟩) (Or.inl ⟨rfl, hnm⟩) f2 (Or.inl rfl) hB11 (t := .byte) (by decide +kernel) rfl (g := (mkF m 48 #[.val (.ref a), .val (.ref b), .val (.int (Int32.ofNat o)), .val (.int (Int32.ofNat len)), .val .null, .val (.ref s.heap.size)] [.int 0, .ref a])) rfl (rest := []) rfl (hb hbytes d48)
  have c14 : Steps p.tables e below (s₁.setTop (entryFrame m #[.ref a, .ref b, .int (Int32.ofNat o), .int (Int32.ofNat len), .null] 6)) (T13.setTop (mkF m 54 #[.val (.ref a), .val (.ref b), .val (.int (Int32.ofNat o)), .val (.int (Int32.ofNat len)), .val .null, .val (.ref s.heap.size)] [.ref s.heap.size, .ref a])) := (c12.trans (st13 _ (Steps.refl _))).trans (by
    refine XS.aloadN X13.here hexec rfl (hb hbytes d51) rfl rfl ?_
    refine XS.aload X13.here hexec rfl (hb hbytes d52) rfl rfl ?_
    exact Steps.refl _)
  obtain ⟨T15, X15, p15, bl15, sl15, st15⟩ := X13.finit hexec hown (wk W (.fieldLink "java/lang/String" 9 "java/lang/String" "value" "[B")) (Or.inr ⟨_, (wk W (.laysFinal "java/lang/String" "java/lang/String" "value" "[B"))⟩) (Or.inl ⟨rfl, hnm⟩) f1 (Or.inl rfl) bl13 (t := (.array .byte)) (by decide +kernel) rfl (g := (mkF m 54 #[.val (.ref a), .val (.ref b), .val (.int (Int32.ofNat o)), .val (.int (Int32.ofNat len)), .val .null, .val (.ref s.heap.size)] [.ref s.heap.size, .ref a])) rfl (rest := []) rfl (hb hbytes d54)
  have c16 : Steps p.tables e below (s₁.setTop (entryFrame m #[.ref a, .ref b, .int (Int32.ofNat o), .int (Int32.ofNat len), .null] 6)) (T15.setTop (mkF m 57 #[.val (.ref a), .val (.ref b), .val (.int (Int32.ofNat o)), .val (.int (Int32.ofNat len)), .val .null, .val (.ref s.heap.size)] [])) := c14.trans (st15 _ (Steps.refl _))
  have ap := apart (Or.inr ⟨_, (wk W (.laysFinal "java/lang/String" "java/lang/String" "value" "[B"))⟩) (Or.inr ⟨_, (wk W (.laysFinal "java/lang/String" "java/lang/String" "coder" "B"))⟩) f1 f2 (t₁ := .array .byte) (t₂ := .byte) (by decide +kernel) (by decide +kernel) (by decide)
  have al := X8.warmed.alike.symm.trans X15.warmed.alike
  have n7 : T11.heap[s.heap.size]? = some N := by rw [q11]; exact n1.1
  exact ⟨T15, none, _, _, _, X15, by simp, rfl, by omega, (fun _ => rfl), ⟨rfl, _, N, bl15, ((Same.refl D _).set _ (by simp)).set _ (by simp), sl15, (Cell.slots_setSlot_ne _ ap).trans sl13, n1.keep al (p15.other hne (p13.other hne n7)), n2, by rw [al.findClass]; exact n3, n4, n5, fun y c h1 h2 => p15.other h1 (p13.other h1 (by rw [q11]; exact n6 y c h2)), by rw [p15.2.2, p13.2.2, q11]; exact z8⟩, fun fs hl => c16.trans (X15.returnOut hexec hret (hb hbytes d57) hl)⟩
end New4
namespace New1
def yN : MethodName := ⟨"java/lang/String", "<init>", "([C)V"⟩
abbrev yB : ByteArray := jdk_42_method_3_code
theorem d0 : decode yB 0 = .ok (.aload_n 0, 1) := by decide +kernel
theorem d1 : decode yB 1 = .ok (.aload_n 1, 1) := by decide +kernel
theorem d2 : decode yB 2 = .ok (.iconst 0, 1) := by decide +kernel
theorem d3 : decode yB 3 = .ok (.aload_n 1, 1) := by decide +kernel
theorem d4 : decode yB 4 = .ok (.arraylength, 1) := by decide +kernel
theorem d5 : decode yB 5 = .ok (.aconst_null, 1) := by decide +kernel
theorem d6 : decode yB 6 = .ok (.invokespecial 27, 3) := by decide +kernel
theorem d9 : decode yB 9 = .ok (.return_, 1) := by decide +kernel
def site : List Cond := [New4.tab] ++ initW "java/lang/String" 27 New4.yN
def tab : Cond := tabOf yN yB 2 none site
def P (a : Addr) (D : Cell) (fV fC : Field) (b : Addr) (A : Cell) (z : Int32) (args : Array Value) (s : State) : Prop := args = #[.ref a, .ref b] ∧ Blank "java/lang/String" a D s ∧ Found "java/lang/String" "value" "[B" fV s ∧ Found "java/lang/String" "coder" "B" fC s ∧ Ch b A s ∧ StaticIs s "java/lang/String" "COMPACT_STRINGS" "Z" (.int z) ∧ ¬ z = 0 ∧ 0 < A.slots.size ∧ A.slots.size ≤ 536870912 ∧ ∀ i, i < A.slots.size → ¬ 255 < cv A i
def E (a : Addr) (D : Cell) (fV fC : Field) (A : Cell) (r : Option Value) (s u : State) : Prop := Got a D fV fC A 0 A.slots.size r s u
/-- new String(chars), not empty, no char above 255: a Latin-1 String of their low bytes -/
theorem law (l : Launch) (a : Addr) (D : Cell) (fV fC : Field) (b : Addr) (A : Cell) (z : Int32) : Law l yN 2 1 3 52 yB 2 none site (P a D fV fC b A z) (E a D fV fC A) [⟨a, fC.slot⟩, ⟨a, fV.slot⟩] 1 A.slots.size := by
  refine Law.of_walk (plainFor_of_name (by decide +kernel)) (by decide +kernel) (by decide +kernel) (by decide) (fun _ _ h => by rw [h.1]; rfl) (fun _ U U' hal hh h => ⟨h.1, h.2.1.mv hal hh, h.2.2.1.al hal, h.2.2.2.1.al hal, h.2.2.2.2.1.mv hal hh, h.2.2.2.2.2.1.there hal hh, h.2.2.2.2.2.2⟩) (fun r U U' V V' h1 hal h2 h => Got.mv r U U' V V' h1 hal h2 h) ?_
  intro p e s m args below meth c s₁ X0 hexec hbytes hml hret hlk hnm hown hh0 W hP
  obtain ⟨rfl, hB, f1, f2, hA, s1, hz, l0, l2, hp⟩ := hP
  have c1 : Steps p.tables e below (s₁.setTop (entryFrame m #[.ref a, .ref b] 2)) (s₁.setTop (mkF m 0 #[.val (.ref a), .val (.ref b)] [])) := entry rfl
  have c2 : Steps p.tables e below (s₁.setTop (entryFrame m #[.ref a, .ref b] 2)) (s₁.setTop (mkF m 6 #[.val (.ref a), .val (.ref b)] [.null, .int (Int32.ofNat A.slots.size), .int 0, .ref b, .ref a])) := c1.trans (by
    refine XS.aloadN X0.here hexec rfl (hb hbytes d0) rfl rfl ?_
    refine XS.aloadN X0.here hexec rfl (hb hbytes d1) rfl rfl ?_
    refine iconstV X0.here hexec rfl 0 (hb hbytes d2) (by decide) ?_
    refine XS.aloadN X0.here hexec rfl (hb hbytes d3) rfl rfl ?_
    refine X0.alen hexec (hA.1.mv X0.warmed.alike hh0) rfl rfl (hb hbytes d4) ?_
    refine XS.aconstNull X0.here hexec rfl (hb hbytes d5) ?_
    exact Steps.refl _)
  obtain ⟨v3, T3, X3, E3, g3⟩ := X0.callN hexec (New4.law l a D fV fC b A z 0 A.slots.size) rfl hown (wks W (initW "java/lang/String" 27 New4.yN)) (W New4.tab (by simp only [site, List.mem_cons, List.mem_append, true_or, or_true])) (W := 0) (Nat.le_of_ble_eq_true rfl) (Nat.le_of_ble_eq_true rfl) (Nat.le_refl _) (by show 0 + A.slots.size ≤ A.slots.size; omega) (g := (mkF m 6 #[.val (.ref a), .val (.ref b)] [.null, .int (Int32.ofNat A.slots.size), .int (Int32.ofNat 0), .ref b, .ref a])) rfl (by rw [hml]; rfl) c2 (argsL := [.ref b, .int (Int32.ofNat 0), .int (Int32.ofNat A.slots.size), .null]) (rest := []) rfl rfl (by show 2 * 0 + 0 ≤ _; decide) (hb hbytes d6) (⟨rfl, hB.mv X0.warmed.alike hh0, f1.al X0.warmed.alike, f2.al X0.warmed.alike, hA.mv X0.warmed.alike hh0, s1.there X0.warmed.alike hh0, hz, l0, by omega, l2, fun i hi => by rw [Nat.zero_add]; exact hp i hi⟩)
  have e0 := Got.mv _ s₁ s _ _ hh0.symm (Vm.Alike.refl _) rfl E3
  obtain rfl := e0.1
  have c4 : Steps p.tables e below (s₁.setTop (entryFrame m #[.ref a, .ref b] 2)) (T3.setTop (mkF m 9 #[.val (.ref a), .val (.ref b)] [])) := g3
  exact ⟨T3, none, _, _, _, X3, by simp, rfl, by omega, (fun _ => rfl), e0, fun fs hl => c4.trans (X3.returnOut hexec hret (hb hbytes d9) hl)⟩
theorem pays {l : Launch} {R : Room} {p : Program} {e : Env} {below : List Frame} {s : State} {sargs : Array Value} {len W : Nat} (a : Addr) (D : Cell) (fV fC : Field) (b : Addr) (A : Cell) (z : Int32) (htab : tab.before sargs s = true) (hfr : 4 ≤ R.frames) (hlo : W + 65 ≤ R.locals) :
    Back l R p e below s sargs yN len W (fun A₁ a₁ => A₁.cells + 1 ≤ R.cells ∧ A₁.slots + A.slots.size ≤ R.slots ∧ P a D fV fC b A z a₁ A₁.U) (fun A₁ _ v₁ B₁ => E a D fV fC A v₁ A₁.U B₁.U ∧ B₁.locs = A₁.locs ++ [⟨a, fC.slot⟩, ⟨a, fV.slot⟩] ∧ B₁.cells = A₁.cells + 1 ∧ B₁.slots = A₁.slots + A.slots.size) :=
  (law l a D fV fC b A z).pays htab hfr (by omega)
end New1
/-- the byte, read back as charAt reads it, is the char -/
theorem lo8_mask {x : Int32} (h0 : ¬ x < 0) (h1 : ¬ 255 < x) : lo8 x &&& 255 = x := by
  have t : ∀ k : Fin 256, lo8 (Int32.ofNat k.val) &&& 255 = Int32.ofNat k.val := by decide +kernel
  rw [Int32.lt_iff_toInt_lt] at h0 h1
  have e0 : (0 : Int32).toInt = 0 := rfl
  have e1 : (255 : Int32).toInt = 255 := rfl
  obtain ⟨k, hk⟩ : ∃ k : Nat, x.toInt = k := ⟨x.toInt.toNat, by omega⟩
  have hx : x = Int32.ofNat k := Int32.toInt_inj.mp (by rw [hk, Int32.toInt_ofNat_small (by omega)])
  rw [hx]
  exact t ⟨k, by omega⟩
end StrChars
namespace StrChars.Road
open Jvm Sem ClassFile Op Lib Jvm.Stand Jvm.Free Jvm.Free.XT
open Jvm.Lib.Cold (StaticIs)
abbrev ST : String := "java/lang/String"
/-- every table word that New1's law asks, flat -/
abbrev words : List Jvm.Cond := [.code New1.yN New1.yB 2 none, .initialized ST, .methodLink ST 27 New4.yN, .instanceMethod New4.yN,
  .code New4.yN New4.yB 6 none, .fieldLink ST 38 ST "COMPACT_STRINGS" "Z", .laysFinal ST ST "value" "[B", .fieldLink ST 9 ST "value" "[B", .laysFinal ST ST "coder" "B", .fieldLink ST 15 ST "coder" "B",
  .methodLink ST 1 Lib.objectInit, .instanceMethod Lib.objectInit, .code Lib.objectInit ⟨#[0xb1]⟩ 1 none, .methodLink ST 177 Cmp3.yN, .static Cmp3.yN, .methodLink ST 47 CodL.yN, .static CodL.yN,
  .code Cmp3.yN Cmp3.yB 6 (some (.array .byte)), .initialized U16, .arrayClass .byte, .methodLink U16 115 Cmp5.yN, .static Cmp5.yN, .code Cmp5.yN Cmp5.yB 7 (some .int), .code CodL.yN CodL.yB 2 (some .byte)]
theorem tab_of {a : Array Value} {s : State} (h : ∀ w ∈ words, w.before a s = true) : New1.tab.before a s = true := by
  have h5 : Cmp5.tab.before a s = true := unparts (wk h (.code Cmp5.yN Cmp5.yB 7 (some .int))) (wks h (.initialized Cmp5.yN.cls :: Cmp5.site))
  have hc : CodL.tab.before a s = true := unparts (wk h (.code CodL.yN CodL.yB 2 (some .byte))) (wks h (.initialized CodL.yN.cls :: CodL.site))
  have q5 : ∀ w ∈ Cmp5.tab :: words, w.before a s = true := fun w hw => (List.mem_cons.mp hw).elim (fun e => e ▸ h5) (h w)
  have h3 : Cmp3.tab.before a s = true := unparts (wk q5 (.code Cmp3.yN Cmp3.yB 6 (some (.array .byte)))) (wks q5 (.initialized Cmp3.yN.cls :: Cmp3.site))
  have q3 : ∀ w ∈ Cmp3.tab :: CodL.tab :: words, w.before a s = true := fun w hw => (List.mem_cons.mp hw).elim (fun e => e ▸ h3) fun hw => (List.mem_cons.mp hw).elim (fun e => e ▸ hc) (h w)
  have h4 : New4.tab.before a s = true := unparts (wk q3 (.code New4.yN New4.yB 6 none)) (wks q3 (.initialized New4.yN.cls :: New4.site))
  have q4 : ∀ w ∈ New4.tab :: words, w.before a s = true := fun w hw => (List.mem_cons.mp hw).elim (fun e => e ▸ h4) (h w)
  exact unparts (wk q4 (.code New1.yN New1.yB 2 none)) (wks q4 (.initialized New1.yN.cls :: New1.site))
/-- the words ride from the start Z to the walk's own state -/
theorem moved {Z s : State} {a0 args : Array Value} (hZ : Z.Warmed39 s.vm) (hw : ∀ d ∈ words, d.before a0 Z = true) : ∀ d ∈ words, d.before args s = true := fun d hd => by
  have q := hw d hd
  have t : ∀ d ∈ words, d = .arrayClass .byte ∨ (d.onTables && d.keepsFace) = true := by decide +kernel
  rcases t d hd with rfl | t
  · exact RoadKit.mvA hZ q
  · exact RoadKit.mv hZ q t
/-- WHAT COMES BACK, over the tables of the start Z: h the heap at the call, h' behind it -/
def Q (Z : State) (x : Addr) (A : Cell) (h : Heap) (v : Option Value) (h' : Heap) (L : List Loc) : Prop := v = none ∧ (∀ y ∈ L, y.base = x) ∧ RoadKit.Keep h h' [x] ∧ h'.size = h.size + 1 ∧ RoadKit.Exa Z h' x ST ∧ RoadKit.Fld Z h' x ST "value" "[B" (.ref h.size) ∧ RoadKit.Fld Z h' x ST "coder" "B" (.int 0) ∧
  (∃ V : Cell, RoadKit.Arr Z h' h.size V .byte ∧ V.vm = .none ∧ Z.vm.findClass "[B" = some V.cls ∧ V.slots.size = A.slots.size ∧ ∀ j, j < A.slots.size → V.slots[j]? = some (.int (lo8 (cv A j)))) ∧
  ∀ (O n d : String) (w : Value), RoadKit.Fld Z h x O n d w → RoadKit.slotOf Z O n d ≠ RoadKit.slotOf Z ST "value" "[B" → RoadKit.slotOf Z O n d ≠ RoadKit.slotOf Z ST "coder" "B" → RoadKit.Fld Z h' x O n d w
/-- **new String(chars) AT A CALL, IN THE ROAD'S FORM**: for specialBack behind newO: x the fresh String, b the char[] with the cell A -/
theorem back {p : Program} {l : Launch} {e : Env} {R : Room} {s : State} {args : Array Value} {below : List Frame} {len W : Nat} {Z : State} {a0 : Array Value} {h : Heap} (hZ : Z.Warmed39 s.vm) (hw : ∀ d ∈ words, d.before a0 Z = true) {kI : Nat} (wi : (Jvm.Cond.instantiable ST kI).before a0 Z = true)
    {x b : Addr} {A : Cell} {z : Int32} {v0 c0 : Value} (E : RoadKit.Exa Z h x ST) (V : RoadKit.Fld Z h x ST "value" "[B" v0) (C : RoadKit.Fld Z h x ST "coder" "B" c0) (K : RoadKit.Arr Z h b A .char) (hty : Typed .char A) (S : RoadKit.Sta Z h ST "COMPACT_STRINGS" "Z" (.int z)) (hz : ¬ z = 0)
    (l0 : 0 < A.slots.size) (l2 : A.slots.size ≤ 536870912) (hp : ∀ i, i < A.slots.size → ¬ 255 < cv A i) (hfr : 4 ≤ R.frames) (hlo : W + 65 ≤ R.locals) :
    Back l R p e below s args New1.yN len W (fun P a => a = #[.ref x, .ref b] ∧ P.U.heap = h ∧ P.cells + 1 ≤ R.cells ∧ P.slots + A.slots.size ≤ R.slots)
      (fun P _ v B => ∃ L, Q Z x A h v B.U.heap L ∧ B.locs = P.locs ++ L ∧ B.cells = P.cells + 1 ∧ B.slots = P.slots + A.slots.size) := by
  intro m meth c P g ig mk a X hg hsize hdg hW hn hp'
  obtain ⟨rfl, rfl, r1, r2⟩ := hp'
  have al : Z.vm.Alike P.U.vm := hZ.alike.trans X.warmed.alike
  obtain ⟨D, cfV, kV, iV, fV, hD, gV, stV, knV, obV, asV, slV⟩ := id V
  obtain ⟨D', cfC, kC, iC, fC, hD', gC, stC, -, -, asC, slC⟩ := id C
  cases hD.symm.trans hD'
  obtain ⟨D2, kD, e1, e2, e3, e4, e5⟩ := id E
  cases hD.symm.trans e1
  obtain ⟨c2, k2, i1, i2, i3, -⟩ := Cond.instantiable_spec wi
  cases e2.symm.trans i1
  cases e3.symm.trans i2
  obtain ⟨kU, u1, u2⟩ := al.2.2 _ _ e3
  have hB : Blank ST x D P.U := ⟨hD, ⟨knV, fun q hq => by rw [hq] at obV; cases obV⟩, by rw [al.findClass]; exact e2, kU, u1, by rw [u2]; exact i3, by rw [u2]; exact e5 i3⟩
  have F1 : Found ST "value" "[B" fV P.U := ⟨SBG.found_only al ⟨cfV, kV, iV, gV⟩, stV⟩
  have F2 : Found ST "coder" "B" fC P.U := ⟨SBG.found_only al ⟨cfC, kC, iC, gC⟩, stC⟩
  have hA : Ch b A P.U := ⟨⟨K.1, State.isArrayOf_alike al K.2.1, K.2.2, by omega⟩, hty⟩
  have hS : StaticIs P.U ST "COMPACT_STRINGS" "Z" (.int z) := by
    obtain ⟨cfS, iS, kS, fS, st, cS, t1, t2, t3, t4, t5, t6, t7⟩ := S
    exact StaticIs.there (s := { Z with heap := P.U.heap }) ⟨cfS, iS, kS, fS, st, cS, t1, t2, t3, t4, t5, (fun q => by rw [q] at t6; cases t6), t7⟩ al rfl
  obtain ⟨v, B, X', ⟨⟨hv, E', V', q1, q2, q3, q4, q5, q6, q7, q8, q9, q10, q11⟩, hl, hc, hs⟩, st⟩ := New1.pays x D fV fC b A z (tab_of (moved hZ hw)) hfr hlo m meth c P g ig mk _ X hg hsize hdg hW hn ⟨r1, r2, rfl, hB, F1, F2, hA, hS, hz, l0, l2, hp⟩
  have al' : Z.vm.Alike B.U.vm := hZ.alike.trans X'.warmed.alike
  have hsz : E'.slots.size = D.slots.size := by
    obtain ⟨-, -, -, kB, w1, w2, w3⟩ := q1
    obtain ⟨kB', y1, y2⟩ := al'.2.2 _ _ e3
    rw [q2.2.1] at w1
    cases w1.symm.trans y1
    rw [w3, e5 i3, y2]
  refine ⟨v, B, X', ⟨_, ⟨hv, ?_, ⟨by omega, fun y cy hy hn' => q10 y cy (by simpa using hn') hy, fun y cy hy => ?_⟩, q11, ⟨E', _, q1.1, by rw [q2.2.1]; exact e2, by rw [q2.2.1]; exact e3, by rw [q2.1]; exact obV, fun _ => by rw [hsz]; exact e5 i3⟩,
    ⟨E', cfV, kV, iV, fV, q1.1, gV, stV, by rw [q2.1]; exact knV, by rw [q2.1]; exact obV, by rw [q2.2.1]; exact asV, q3⟩, ⟨E', cfC, kC, iC, fC, q1.1, gC, stC, by rw [q2.1]; exact knV, by rw [q2.1]; exact obV, by rw [q2.2.1]; exact asC, q4⟩,
    ⟨V', ⟨q5.1, State.isArrayOf_alike al'.symm q5.2.1, q5.2.2.1⟩, q6, by rw [← al'.findClass]; exact q7, q8, fun j hj => by have := q9 j hj; rwa [Nat.zero_add] at this⟩, fun O n d w F n1 n2 => ?_⟩, hl, hc, hs⟩, st⟩
  · intro y hy
    simp only [List.mem_cons, List.not_mem_nil, or_false] at hy
    rcases hy with rfl | rfl <;> rfl
  · by_cases q : y = x
    · subst q
      cases hD.symm.trans hy
      exact ⟨E', q1.1, q2.2.1, q2.1, hsz⟩
    · exact ⟨cy, q10 y cy q hy, rfl, rfl, rfl⟩
  · obtain ⟨D3, cf, k, i, f, g1, g2, g3, g4, g5, g6, g7⟩ := F
    cases hD.symm.trans g1
    simp only [RoadKit.slotOf, g2, gV, gC, Option.map_some, Option.getD_some] at n1 n2
    exact ⟨E', cf, k, i, f, q1.1, g2, g3, by rw [q2.1]; exact g4, by rw [q2.1]; exact g5, by rw [q2.2.1]; exact g6, by rw [q2.2.2 f.slot (by simp [n1, n2])]; exact g7⟩
end StrChars.Road
namespace StrChars.Road
open Jvm Sem ClassFile Op Lib Jvm.Stand Jvm.Free Jvm.Free.XT
/-- WHAT COMES BACK, the byte[] as a list of values -/
def QA (Z : State) (x : Addr) (zn : Int32) (cs : List Int32) (h : Heap) (v : Option Value) (h' : Heap) (L : List Loc) : Prop := v = none ∧ (∀ y ∈ L, y.base = x) ∧ RoadKit.Keep h h' [x] ∧ h'.size = h.size + 1 ∧ RoadKit.Exa Z h' x ST ∧ RoadKit.Fld Z h' x ST "value" "[B" (.ref h.size) ∧ RoadKit.Fld Z h' x ST "coder" "B" (.int 0) ∧
  (∃ kb, Z.vm.findClass "[B" = some kb ∧ RoadKit.Arv Z h' h.size kb .byte zn (cs.map fun c => .int (lo8 c)) (.int 0)) ∧
  ∀ (O n d : String) (w : Value), RoadKit.Fld Z h x O n d w → RoadKit.slotOf Z O n d ≠ RoadKit.slotOf Z ST "value" "[B" → RoadKit.slotOf Z O n d ≠ RoadKit.slotOf Z ST "coder" "B" → RoadKit.Fld Z h' x O n d w
/-- **new String(chars) AT A CALL, THE ARRAYS AS LISTS**: the char[] at b holds cs, not empty, no char above 255 -/
theorem backArv {p : Program} {l : Launch} {e : Env} {R : Room} {s : State} {args : Array Value} {below : List Frame} {len W : Nat} {Z : State} {a0 : Array Value} {h : Heap} (hZ : Z.Warmed39 s.vm) (hw : ∀ d ∈ words, d.before a0 Z = true) {kI : Nat} (wi : (Jvm.Cond.instantiable ST kI).before a0 Z = true)
    {x b : Addr} {k : ClassId} {zn z : Int32} {cs : List Int32} {dv v0 c0 : Value} (E : RoadKit.Exa Z h x ST) (V : RoadKit.Fld Z h x ST "value" "[B" v0) (C : RoadKit.Fld Z h x ST "coder" "B" c0) (K : RoadKit.Arv Z h b k .char zn (cs.map Value.int) dv) (S : RoadKit.Sta Z h ST "COMPACT_STRINGS" "Z" (.int z)) (hz : ¬ z = 0)
    (hlen : zn.toNatClampNeg = cs.length) (h0 : 0 < cs.length) (hbig : cs.length ≤ 536870912) (hall : ∀ c ∈ cs, ¬ 255 < c) (hfr : 4 ≤ R.frames) (hlo : W + 65 ≤ R.locals) :
    Back l R p e below s args New1.yN len W (fun P a => a = #[.ref x, .ref b] ∧ P.U.heap = h ∧ P.cells + 1 ≤ R.cells ∧ P.slots + cs.length ≤ R.slots)
      (fun P _ v B => ∃ L, QA Z x zn cs h v B.U.heap L ∧ B.locs = P.locs ++ L ∧ B.cells = P.cells + 1 ∧ B.slots = P.slots + cs.length) := by
  obtain ⟨A, K1, K2, K3, K4, K5, K6⟩ := K
  have e : A.slots.size = cs.length := K3.trans hlen
  have hat : ∀ (i : Nat) (hi : i < cs.length), A.slots[i]? = some (.int cs[i]) := fun i hi => by rw [K5 i (by omega)]; simp [List.getD_eq_getElem?_getD, hi]
  have hcv : ∀ (i : Nat) (hi : i < cs.length), cv A i = cs[i] := fun i hi => by unfold cv; rw [hat i hi]
  have hty : Typed .char A := fun i v hv => by
    have hi : i < A.slots.size := (Array.getElem?_eq_some_iff.mp hv).1
    have q := K5 i hi
    rw [hv] at q
    rw [Option.some.inj q]
    exact K6 i hi
  refine Back.mono (back hZ hw wi E V C K1 hty S hz (by omega) (by omega) (fun i hi => by rw [hcv i (by omega)]; exact hall _ (List.getElem_mem _)) hfr hlo) (fun P a hp => ⟨hp.1, hp.2.1, hp.2.2.1, by rw [e]; exact hp.2.2.2⟩) (fun P a v B hp hq => ?_)
  obtain ⟨L, ⟨q1, q2, q3, q4, q5, q6, q7, ⟨V', v1, v2, v3, v4, v5⟩, q9⟩, hl, hc, hs⟩ := hq
  refine ⟨L, ⟨q1, q2, q3, q4, q5, q6, q7, ⟨V'.cls, v3, V', v1, rfl, by rw [v4, e, hlen], K4, fun i hi => ?_, fun i hi => ?_⟩, q9⟩, hl, hc, by rw [hs, e]⟩
  · have hi' : i < cs.length := by omega
    rw [v5 i (by omega), hcv i hi']; simp [List.getD_eq_getElem?_getD, hi']
  · have hi' : i < cs.length := by omega
    simp only [List.getD_eq_getElem?_getD, List.getElem?_map, List.getElem?_eq_getElem hi', Option.map_some, Option.getD_some]
    exact fits_lo8 _
end StrChars.Road
namespace StrChars.Road
open Jvm Sem ClassFile Op Lib Jvm.Stand Jvm.Free Jvm.Free.XT
/-- WHAT COMES BACK, in the writer's own shape -/
def QV (Z : State) (x : Addr) (N : Int32) (bs : List Int32) (h : Heap) (n0 : Nat) (v : Option Value) (h' : Heap) (L : List Loc) : Prop := v = none ∧ RoadKit.Fr n0 L ∧ RoadKit.Keep h h' [x] ∧ RoadKit.Exa Z h' x ST ∧ RoadKit.Fld Z h' x ST "coder" "B" (.int 0) ∧
  ∃ (t : Addr) (kb : ClassId), n0 ≤ t ∧ h.size ≤ t ∧ ¬ t = x ∧ RoadKit.Fld Z h' x ST "value" "[B" (.ref t) ∧ RoadKit.Arv Z h' t kb .byte N (bs.map Value.int) (.int 0)
/-- **new String(chars) AT A CALL, FOR THE WRITER**: a char[] of n known ints, each 0 to 255 -/
theorem backV {p : Program} {l : Launch} {e : Env} {R : Room} {s : State} {args : Array Value} {below : List Frame} {len W : Nat} {Z : State} {a0 : Array Value} {h : Heap} (hZ : Z.Warmed39 s.vm) (hw : ∀ d ∈ words, d.before a0 Z = true) {kI : Nat} (wi : (Jvm.Cond.instantiable ST kI).before a0 Z = true)
    {x b : Addr} {kC : ClassId} {cs bs : List Int32} {d v0 c0 : Value} {z N : Int32} {n n0 : Nat} (hx0 : n0 ≤ x) (hh0 : n0 ≤ h.size) (E : RoadKit.Exa Z h x ST) (V : RoadKit.Fld Z h x ST "value" "[B" v0) (C : RoadKit.Fld Z h x ST "coder" "B" c0) (K : RoadKit.Arv Z h b kC .char N (cs.map Value.int) d) (S : RoadKit.Sta Z h ST "COMPACT_STRINGS" "Z" (.int z)) (hz : ¬ z = 0)
    (hn : cs.length = n) (hN : N = Int32.ofNat n) (l0 : 0 < n) (l2 : n ≤ 4000) (hp : ∀ c ∈ cs, ¬ c < 0 ∧ ¬ (255 : Int32) < c) (hb : bs = cs.map (fun c => c.toInt8.toInt32)) (hfr : 4 ≤ R.frames) (hlo : W + 65 ≤ R.locals) :
    Back l R p e below s args (⟨"java/lang/String", "<init>", "([C)V"⟩ : MethodName) len W (fun P a => a = #[.ref x, .ref b] ∧ P.U.heap = h ∧ P.cells + 1 ≤ R.cells ∧ P.slots + n ≤ R.slots)
      (fun P _ v B => ∃ L, QV Z x N bs h n0 v B.U.heap L ∧ B.locs = P.locs ++ L ∧ B.cells = P.cells + 1 ∧ B.slots = P.slots + n) := by
  subst hn hN hb
  refine Back.mono (backArv hZ hw wi E V C K S hz (n32 (by omega)) l0 (by omega) (fun c hc => (hp c hc).2) hfr hlo) (fun P a hp => hp) (fun P a v B hp hq => ?_)
  obtain ⟨L, ⟨q1, q2, q3, q4, q5, q6, q7, ⟨kb, v1, v2⟩, q9⟩, hl, hc, hs⟩ := hq
  exact ⟨L, ⟨q1, fun y hy => by rw [q2 y hy]; exact hx0, q3, q5, q7, h.size, kb, hh0, Nat.le_refl _, Nat.ne_of_gt E.lt, q6, by rw [List.map_map]; exact v2⟩, hl, hc, hs⟩
end StrChars.Road
namespace StrChars
open Jvm Sem ClassFile Op Lib Jvm.Stand Jvm.Free.XT Jvm.Free.ALB Jvm.Free.JM Jvm.Free
open Jvm.Lib.Cold (StaticIs)
def hi8 (x : Int32) : Int32 := lo8 (x >>> ((8 : Int32) &&& 31))
/-- what StringUTF16.getChar makes of two bytes -/
def pairCh (u v : Int32) : Int32 := (((u &&& 255) <<< ((0 : Int32) &&& 31)) ||| ((v &&& 255) <<< ((8 : Int32) &&& 31))).toUInt32.toUInt16.toUInt32.toInt32
theorem shr0 (c : Int32) : c >>> ((0 : Int32) &&& 31) = c := by
  have e : ((0 : Int32) &&& 31) = 0 := by decide
  rw [e]
  apply Int32.toBitVec_inj.mp
  rw [Int32.toBitVec_shiftRight]
  have e1 : ((0 : Int32).toBitVec.smod 32) = 0#32 := by decide
  rw [e1, BitVec.sshiftRight_eq']
  exact BitVec.sshiftRight_zero
theorem lo8_and (x : Int32) : (lo8 x &&& 255).toBitVec.toNat = x.toBitVec.toNat % 256 := by
  have h : (lo8 x).toBitVec = (x.toBitVec.signExtend 8).signExtend 32 := by rw [lo8, Int8.toBitVec_toInt32, Int32.toBitVec_toInt8]
  rw [Int32.toBitVec_and, BitVec.toNat_and, h]
  have e : ((x.toBitVec.signExtend 8).signExtend 32).toNat % 256 = x.toBitVec.toNat % 256 := by
    rw [BitVec.toNat_signExtend]
    have hlt := x.toBitVec.isLt
    simp only [BitVec.toNat_setWidth, BitVec.toNat_signExtend]
    split <;> split <;> omega
  rw [← e]
  exact Nat.and_two_pow_sub_one_eq_mod _ 8
theorem pair_says {c : Int32} (h0 : ¬ c < 0) (h1 : ¬ 65535 < c) : pairCh (lo8 c) (hi8 c) = c := by
  rw [Int32.lt_iff_toInt_lt] at h0 h1
  have e0 : (0 : Int32).toInt = 0 := rfl
  have e1 : (65535 : Int32).toInt = 65535 := rfl
  have hc : c.toInt = c.toBitVec.toNat := by
    have := c.toBitVec.isLt
    have e : c.toInt = c.toBitVec.toInt := rfl
    rw [e] at h0 h1
    rw [e]
    rw [BitVec.toInt_eq_toNat_cond] at h0 h1 ⊢
    split at h0 <;> split <;> omega
  have hn : c.toBitVec.toNat < 65536 := by omega
  have a1 := lo8_and c
  have a2 : (hi8 c &&& 255).toBitVec.toNat = c.toBitVec.toNat / 256 := by
    rw [hi8, lo8_and]
    have e : ((8 : Int32) &&& 31) = 8 := by decide
    rw [e, Int32.toBitVec_shiftRight]
    have e2 : ((8 : Int32).toBitVec.smod 32) = 8#32 := by decide
    rw [e2, BitVec.sshiftRight_eq', BitVec.toNat_sshiftRight_of_msb_false (by rw [BitVec.msb_eq_false_iff_two_mul_lt]; omega)]
    show c.toBitVec.toNat >>> 8 % 256 = _
    rw [Nat.shiftRight_eq_div_pow]
    omega
  unfold pairCh
  apply Int32.toBitVec_inj.mp
  apply BitVec.eq_of_toNat_eq
  have f0 : ((0 : Int32) &&& 31) = 0 := by decide
  have f8 : ((8 : Int32) &&& 31) = 8 := by decide
  rw [f0, f8]
  have g : (((lo8 c &&& 255) <<< (0 : Int32)) ||| ((hi8 c &&& 255) <<< (8 : Int32))).toBitVec.toNat = c.toBitVec.toNat := by
    rw [Int32.toBitVec_or, Int32.toBitVec_shiftLeft, Int32.toBitVec_shiftLeft]
    have s0 : ((0 : Int32).toBitVec.smod 32) = 0#32 := by decide
    have s8 : ((8 : Int32).toBitVec.smod 32) = 8#32 := by decide
    rw [s0, s8, BitVec.toNat_or]
    simp only [BitVec.shiftLeft_eq', BitVec.toNat_shiftLeft, a1, a2]
    show (c.toBitVec.toNat % 256) <<< 0 % 2 ^ 32 ||| (c.toBitVec.toNat / 256) <<< 8 % 2 ^ 32 = _
    rw [Nat.shiftLeft_zero, Nat.mod_eq_of_lt (show c.toBitVec.toNat % 256 < 2 ^ 32 by omega), Nat.mod_eq_of_lt (show (c.toBitVec.toNat / 256) <<< 8 < 2 ^ 32 by rw [Nat.shiftLeft_eq]; omega), Nat.or_comm, ← Nat.shiftLeft_add_eq_or_of_lt (by omega), Nat.shiftLeft_eq]
    omega
  show BitVec.toNat (((((lo8 c &&& 255) <<< (0 : Int32)) ||| ((hi8 c &&& 255) <<< (8 : Int32))).toBitVec.setWidth 16).setWidth 32) = _
  rw [BitVec.toNat_setWidth, BitVec.toNat_setWidth, g]
  omega
end StrChars
namespace StrChars
open Jvm Sem ClassFile Op Lib Jvm.Stand Jvm.Free.XT Jvm.Free.ALB Jvm.Free.JM Jvm.Free
open Jvm.Lib.Cold (StaticIs)
theorem shr1 {n : Nat} (h : 2 * n < 2 ^ 31) : Int32.ofNat (2 * n) >>> ((1 : Int32) &&& 31) = Int32.ofNat n := by
  have e : ((1 : Int32) &&& 31) = 1 := by decide
  rw [e]
  apply Int32.toBitVec_inj.mp
  rw [Int32.toBitVec_shiftRight]
  have e1 : ((1 : Int32).toBitVec.smod 32) = 1#32 := by decide
  have hm : (BitVec.ofNat 32 (2 * n)).toNat = 2 * n := by rw [BitVec.toNat_ofNat, Nat.mod_eq_of_lt (by omega)]
  rw [e1, BitVec.sshiftRight_eq']
  apply BitVec.eq_of_toNat_eq
  show ((BitVec.ofNat 32 (2 * n)).sshiftRight 1).toNat = (BitVec.ofNat 32 n).toNat
  rw [BitVec.toNat_sshiftRight_of_msb_false (by rw [BitVec.msb_eq_false_iff_two_mul_lt, hm]; omega), hm, BitVec.toNat_ofNat, Nat.shiftRight_eq_div_pow]
  omega
/-- charAt's cast of a byte read back -/
def chr8 (u : Int32) : Int32 := (u &&& 255).toUInt32.toUInt16.toUInt32.toInt32
theorem chr8_lo8 {c : Int32} (h0 : ¬ c < 0) (h1 : ¬ 255 < c) : chr8 (lo8 c) = c := by
  have t : ∀ k : Fin 256, (Int32.ofNat k.val).toUInt32.toUInt16.toUInt32.toInt32 = Int32.ofNat k.val := by decide +kernel
  unfold chr8
  rw [lo8_mask h0 h1]
  rw [Int32.lt_iff_toInt_lt] at h0 h1
  have e0 : (0 : Int32).toInt = 0 := rfl
  have e1 : (255 : Int32).toInt = 255 := rfl
  obtain ⟨k, hk⟩ : ∃ k : Nat, c.toInt = k := ⟨c.toInt.toNat, by omega⟩
  have hx : c = Int32.ofNat k := Int32.toInt_inj.mp (by rw [hk, Int32.toInt_ofNat_small (by omega)])
  rw [hx]
  exact t ⟨k, by omega⟩
theorem narrow_ch {c : Int32} (h0 : ¬ c < 0) (h1 : ¬ 65535 < c) : narrow .char (.int c) = .int c := by
  have q : narrow .char (.int (pairCh (lo8 c) (hi8 c))) = .int (pairCh (lo8 c) (hi8 c)) := narrow_c _
  rwa [pair_says h0 h1] at q
/-- the array's cell V codes the n chars f 0 .. f (n - 1) by the coder cd, as the JDK does: coder 1 just where some char is above 255 -/
def Cod (cd : Int32) (n : Nat) (f : Nat → Int32) (V : Cell) : Prop := (cd = 0 ∧ V.slots.size = n ∧ ∀ j, j < n → V.slots[j]? = some (.int (lo8 (f j))) ∧ ¬ 255 < f j) ∨ (cd = 1 ∧ V.slots.size = 2 * n ∧ (∀ j, j < n → V.slots[2 * j]? = some (.int (lo8 (f j))) ∧ V.slots[2 * j + 1]? = some (.int (hi8 (f j)))) ∧ ∃ j, j < n ∧ 255 < f j)
theorem Cod.cd {cd : Int32} {n : Nat} {f : Nat → Int32} {V : Cell} (h : Cod cd n f V) : cd = 0 ∨ cd = 1 := h.imp (fun q => q.1) fun q => q.1
theorem Cod.len {cd : Int32} {n : Nat} {f : Nat → Int32} {V : Cell} (h : Cod cd n f V) (hs : V.slots.size < 2 ^ 31) : Int32.ofNat V.slots.size >>> (cd &&& 31) = Int32.ofNat n := by
  rcases h with ⟨rfl, h, -⟩ | ⟨rfl, h, -⟩
  · rw [shr0, h]
  · rw [h, shr1 (by omega)]
/-- **x is a String of the n chars f 0 .. f (n - 1)**, Latin-1 or UTF-16; its array at t has the cell V -/
def Txt (x t : Addr) (V : Cell) (cd : Int32) (n : Nat) (f : Nat → Int32) (U : State) : Prop := Exact "java/lang/String" x U ∧ Has x "java/lang/String" "value" "[B" (.ref t) U ∧ Has x "java/lang/String" "coder" "B" (.int cd) U ∧ XT.Arr .byte t V U ∧ Cod cd n f V ∧ ∀ j, j < n → ¬ f j < 0 ∧ ¬ 65535 < f j
theorem Txt.mv {x t : Addr} {V : Cell} {cd : Int32} {n : Nat} {f : Nat → Int32} {U U' : State} (h : Txt x t V cd n f U) (hal : U.vm.Alike U'.vm) (hh : U'.heap = U.heap) : Txt x t V cd n f U' := ⟨h.1.mv hal hh, h.2.1.mv hal hh, h.2.2.1.mv hal hh, h.2.2.2.1.mv hal hh, h.2.2.2.2⟩
namespace Cdr
def yN : MethodName := ⟨"java/lang/String", "coder", "()B"⟩
abbrev yB : ByteArray := jdk_42_method_152_code
theorem d0 : decode yB 0 = .ok (.getstatic 38, 3) := by decide +kernel
theorem d3 : decode yB 3 = .ok (.ifCond (.eq) 10, 3) := by decide +kernel
theorem d6 : decode yB 6 = .ok (.aload_n 0, 1) := by decide +kernel
theorem d7 : decode yB 7 = .ok (.getfield 15, 3) := by decide +kernel
theorem d10 : decode yB 10 = .ok (.goto 4, 3) := by decide +kernel
theorem d14 : decode yB 14 = .ok (.ireturn, 1) := by decide +kernel
def site : List Cond := [.fieldLink "java/lang/String" 38 "java/lang/String" "COMPACT_STRINGS" "Z", .fieldLink "java/lang/String" 15 "java/lang/String" "coder" "B"]
def tab : Cond := tabOf yN yB 1 (some .byte) site
def P (x : Addr) (cd z : Int32) (args : Array Value) (s : State) : Prop := args = #[.ref x] ∧ Has x "java/lang/String" "coder" "B" (.int cd) s ∧ (cd = 0 ∨ cd = 1) ∧ StaticIs s "java/lang/String" "COMPACT_STRINGS" "Z" (.int z) ∧ ¬ z = 0
def E (cd : Int32) (r : Option Value) (s u : State) : Prop := XT.PureE (some (.int cd)) r s u
theorem law (l : Launch) (x : Addr) (cd z : Int32) : Law l yN 1 0 0 0 yB 1 (some .byte) site (P x cd z) (E cd) [] 0 0 := by
  refine Law.of_walk (plainFor_of_name (by decide +kernel)) (by decide +kernel) (by decide +kernel) (by decide) (fun _ _ h => by rw [h.1]; rfl) (fun _ U U' hal hh h => ⟨h.1, h.2.1.mv hal hh, h.2.2.1, h.2.2.2.1.there hal hh, h.2.2.2.2⟩) (fun r U U' V V' h1 hal h2 h => XT.PureE.mv r U U' V V' h1 hal h2 h) ?_
  intro p e s m args below meth c s₁ X0 hexec hbytes hml hret hlk hnm hown hh0 W hP
  obtain ⟨rfl, hx, hc, s1, hz⟩ := hP
  have c1 : Steps p.tables e below (s₁.setTop (entryFrame m #[.ref x] 1)) (s₁.setTop (mkF m 0 #[.val (.ref x)] [])) := entry rfl
  obtain ⟨T2, X2, q2, st2⟩ := X0.sget hexec hown (wk W (.fieldLink "java/lang/String" 38 "java/lang/String" "COMPACT_STRINGS" "Z")) s1 (fun _ _ h => by rw [hh0]; exact h) (g := (mkF m 0 #[.val (.ref x)] [])) rfl (hb hbytes d0)
  have hh2 := q2.trans hh0
  have c3 : Steps p.tables e below (s₁.setTop (entryFrame m #[.ref x] 1)) (T2.setTop (mkF m 7 #[.val (.ref x)] [.ref x])) := (c1.trans (st2 _ (Steps.refl _))).trans (by
    refine XS.ifNo X2.here hexec rfl (hb hbytes d3) rfl (i0_eq_f hz) ?_
    refine XS.aloadN X2.here hexec rfl (hb hbytes d6) rfl rfl ?_
    exact Steps.refl _)
  obtain ⟨T4, X4, q4, st4⟩ := X2.hget hexec hown (wk W (.fieldLink "java/lang/String" 15 "java/lang/String" "coder" "B")) (hx.mv X2.warmed.alike hh2) (g := (mkF m 7 #[.val (.ref x)] [.ref x])) rfl (rest := []) rfl (hb hbytes d7)
  have c5 : Steps p.tables e below (s₁.setTop (entryFrame m #[.ref x] 1)) (T4.setTop (mkF m 14 #[.val (.ref x)] [.int cd])) := (c3.trans (st4 _ (Steps.refl _))).trans (by
    refine XS.goto X4.here hexec rfl (pc0 := 10) rfl (hb hbytes d10) (by decide) rfl ?_
    exact Steps.refl _)
  exact ⟨T4, some (.int cd), _, _, _, X4, rfl, rfl, rfl, (fun h => by cases h), ⟨rfl, q4.trans hh2⟩, fun fs hl => c5.trans (X4.ireturnOut hexec hret (by rcases hc with rfl | rfl <;> rfl) (Or.inr (Or.inr (Or.inl rfl))) (hb hbytes d14) hl)⟩
end Cdr
namespace Len
def yN : MethodName := ⟨"java/lang/String", "length", "()I"⟩
abbrev yB : ByteArray := jdk_42_method_54_code
theorem d0 : decode yB 0 = .ok (.aload_n 0, 1) := by decide +kernel
theorem d1 : decode yB 1 = .ok (.getfield 9, 3) := by decide +kernel
theorem d4 : decode yB 4 = .ok (.arraylength, 1) := by decide +kernel
theorem d5 : decode yB 5 = .ok (.aload_n 0, 1) := by decide +kernel
theorem d6 : decode yB 6 = .ok (.invokevirtual 335, 3) := by decide +kernel
theorem d9 : decode yB 9 = .ok (.ishr, 1) := by decide +kernel
theorem d10 : decode yB 10 = .ok (.ireturn, 1) := by decide +kernel
def site : List Cond := [.fieldLink "java/lang/String" 9 "java/lang/String" "value" "[B", Cdr.tab] ++ virtW "java/lang/String" 335 "java/lang/String" Cdr.yN Cdr.yN
def tab : Cond := tabOf yN yB 1 (some .int) site
def P (x t : Addr) (V : Cell) (cd : Int32) (n : Nat) (f : Nat → Int32) (z : Int32) (args : Array Value) (s : State) : Prop := args = #[.ref x] ∧ Txt x t V cd n f s ∧ StaticIs s "java/lang/String" "COMPACT_STRINGS" "Z" (.int z) ∧ ¬ z = 0
def E (n : Nat) (r : Option Value) (s u : State) : Prop := XT.PureE (some (.int (Int32.ofNat n))) r s u
/-- length() of a String of n chars, in either coding -/
theorem law (l : Launch) (x t : Addr) (V : Cell) (cd : Int32) (n : Nat) (f : Nat → Int32) (z : Int32) : Law l yN 1 0 1 13 yB 1 (some .int) site (P x t V cd n f z) (E n) [] 0 0 := by
  refine Law.of_walk (plainFor_of_name (by decide +kernel)) (by decide +kernel) (by decide +kernel) (by decide) (fun _ _ h => by rw [h.1]; rfl) (fun _ U U' hal hh h => ⟨h.1, h.2.1.mv hal hh, h.2.2.1.there hal hh, h.2.2.2⟩) (fun r U U' V V' h1 hal h2 h => XT.PureE.mv r U U' V V' h1 hal h2 h) ?_
  intro p e s m args below meth c s₁ X0 hexec hbytes hml hret hlk hnm hown hh0 W hP
  obtain ⟨rfl, hx, s1, hz⟩ := hP
  have v31 := hx.2.2.2.1.2.2.2
  have c1 : Steps p.tables e below (s₁.setTop (entryFrame m #[.ref x] 1)) (s₁.setTop (mkF m 1 #[.val (.ref x)] [.ref x])) := Steps.trans (entry rfl) (by
    show Steps p.tables e below (s₁.setTop (mkF m 0 #[.val (.ref x)] [])) _
    refine XS.aloadN X0.here hexec rfl (hb hbytes d0) rfl rfl ?_
    exact Steps.refl _)
  obtain ⟨T2, X2, q2, st2⟩ := X0.hget hexec hown (wk W (.fieldLink "java/lang/String" 9 "java/lang/String" "value" "[B")) (hx.mv X0.warmed.alike hh0).2.1 (g := (mkF m 1 #[.val (.ref x)] [.ref x])) rfl (rest := []) rfl (hb hbytes d1)
  have hh2 := q2.trans hh0
  have hx2 := hx.mv X2.warmed.alike hh2
  have c3 : Steps p.tables e below (s₁.setTop (entryFrame m #[.ref x] 1)) (T2.setTop (mkF m 6 #[.val (.ref x)] [.ref x, .int (Int32.ofNat V.slots.size)])) := (c1.trans (st2 _ (Steps.refl _))).trans (by
    refine X2.alen hexec hx2.2.2.2.1 rfl rfl (hb hbytes d4) ?_
    refine XS.aloadN X2.here hexec rfl (hb hbytes d5) rfl rfl ?_
    exact Steps.refl _)
  obtain ⟨v4, T4, X4, E4, g4⟩ := X2.callV hexec (Cdr.law l x cd z) hown (wks W (virtW "java/lang/String" 335 "java/lang/String" Cdr.yN Cdr.yN)) rfl (by decide) (wk W Cdr.tab) (W := 1) (Nat.le_of_ble_eq_true rfl) (Nat.le_of_ble_eq_true rfl) (Nat.le_refl _) (Nat.le_refl _) (hx2.1.fc X2.warmed.alike) hx2.1.is (g := (mkF m 6 #[.val (.ref x)] [.ref x, .int (Int32.ofNat V.slots.size)])) rfl (by rw [hml]; rfl) c3 (argsL := []) (rest := [.int (Int32.ofNat V.slots.size)]) rfl rfl (by show 2 * 0 + (1 + 0) ≤ _; decide) (hb hbytes d6) (⟨rfl, hx2.2.2.1, hx.2.2.2.2.1.cd, s1.there X2.warmed.alike hh2, hz⟩)
  obtain ⟨rfl, q4⟩ := E4
  have c5 : Steps p.tables e below (s₁.setTop (entryFrame m #[.ref x] 1)) (T4.setTop (mkF m 10 #[.val (.ref x)] [.int (Int32.ofNat V.slots.size >>> (cd &&& 31))])) := Steps.trans g4 (by
    refine ishr X4.here hexec rfl (hb hbytes d9) rfl ?_
    exact Steps.refl _)
  rw [hx.2.2.2.2.1.len v31] at c5
  exact ⟨T4, some (.int (Int32.ofNat n)), _, _, _, X4, rfl, rfl, rfl, (fun h => by cases h), ⟨rfl, q4.trans hh2⟩, fun fs hl => c5.trans (X4.ireturnOut hexec hret rfl (Or.inl rfl) (hb hbytes d10) hl)⟩
theorem pays {l : Launch} {R : Room} {p : Program} {e : Env} {below : List Frame} {s : State} {sargs : Array Value} {len W : Nat} (x t : Addr) (V : Cell) (cd : Int32) (n : Nat) (f : Nat → Int32) (z : Int32) (htab : tab.before sargs s = true) (hfr : 2 ≤ R.frames) (hlo : W + 25 ≤ R.locals) :
    Back l R p e below s sargs yN len W (fun A₁ a₁ => A₁.cells + 0 ≤ R.cells ∧ A₁.slots + 0 ≤ R.slots ∧ P x t V cd n f z a₁ A₁.U) (fun A₁ _ v₁ B₁ => E n v₁ A₁.U B₁.U ∧ B₁.locs = A₁.locs ++ [] ∧ B₁.cells = A₁.cells + 0 ∧ B₁.slots = A₁.slots + 0) :=
  (law l x t V cd n f z).pays htab hfr (by omega)
end Len
namespace IsL
def yN : MethodName := ⟨"java/lang/String", "isLatin1", "()Z"⟩
abbrev yB : ByteArray := jdk_42_method_154_code
theorem d0 : decode yB 0 = .ok (.getstatic 38, 3) := by decide +kernel
theorem d3 : decode yB 3 = .ok (.ifCond (.eq) 14, 3) := by decide +kernel
theorem d6 : decode yB 6 = .ok (.aload_n 0, 1) := by decide +kernel
theorem d7 : decode yB 7 = .ok (.getfield 15, 3) := by decide +kernel
theorem d10 : decode yB 10 = .ok (.ifCond (.ne) 7, 3) := by decide +kernel
theorem d13 : decode yB 13 = .ok (.iconst 1, 1) := by decide +kernel
theorem d14 : decode yB 14 = .ok (.goto 4, 3) := by decide +kernel
theorem d17 : decode yB 17 = .ok (.iconst 0, 1) := by decide +kernel
theorem d18 : decode yB 18 = .ok (.ireturn, 1) := by decide +kernel
def site : List Cond := [.fieldLink "java/lang/String" 38 "java/lang/String" "COMPACT_STRINGS" "Z", .fieldLink "java/lang/String" 15 "java/lang/String" "coder" "B"]
def tab : Cond := tabOf yN yB 1 (some .boolean) site
def P (x : Addr) (cd z : Int32) (args : Array Value) (s : State) : Prop := args = #[.ref x] ∧ Has x "java/lang/String" "coder" "B" (.int cd) s ∧ (cd = 0 ∨ cd = 1) ∧ StaticIs s "java/lang/String" "COMPACT_STRINGS" "Z" (.int z) ∧ ¬ z = 0
def E (cd : Int32) (r : Option Value) (s u : State) : Prop := XT.PureE (some (.int (1 - cd))) r s u
theorem law (l : Launch) (x : Addr) (cd z : Int32) : Law l yN 1 0 0 0 yB 1 (some .boolean) site (P x cd z) (E cd) [] 0 0 := by
  refine Law.of_walk (plainFor_of_name (by decide +kernel)) (by decide +kernel) (by decide +kernel) (by decide) (fun _ _ h => by rw [h.1]; rfl) (fun _ U U' hal hh h => ⟨h.1, h.2.1.mv hal hh, h.2.2.1, h.2.2.2.1.there hal hh, h.2.2.2.2⟩) (fun r U U' V V' h1 hal h2 h => XT.PureE.mv r U U' V V' h1 hal h2 h) ?_
  intro p e s m args below meth c s₁ X0 hexec hbytes hml hret hlk hnm hown hh0 W hP
  obtain ⟨rfl, hx, hc, s1, hz⟩ := hP
  have c1 : Steps p.tables e below (s₁.setTop (entryFrame m #[.ref x] 1)) (s₁.setTop (mkF m 0 #[.val (.ref x)] [])) := entry rfl
  obtain ⟨T2, X2, q2, st2⟩ := X0.sget hexec hown (wk W (.fieldLink "java/lang/String" 38 "java/lang/String" "COMPACT_STRINGS" "Z")) s1 (fun _ _ h => by rw [hh0]; exact h) (g := (mkF m 0 #[.val (.ref x)] [])) rfl (hb hbytes d0)
  have hh2 := q2.trans hh0
  have c3 : Steps p.tables e below (s₁.setTop (entryFrame m #[.ref x] 1)) (T2.setTop (mkF m 7 #[.val (.ref x)] [.ref x])) := (c1.trans (st2 _ (Steps.refl _))).trans (by
    refine XS.ifNo X2.here hexec rfl (hb hbytes d3) rfl (i0_eq_f hz) ?_
    refine XS.aloadN X2.here hexec rfl (hb hbytes d6) rfl rfl ?_
    exact Steps.refl _)
  obtain ⟨T4, X4, q4, st4⟩ := X2.hget hexec hown (wk W (.fieldLink "java/lang/String" 15 "java/lang/String" "coder" "B")) (hx.mv X2.warmed.alike hh2) (g := (mkF m 7 #[.val (.ref x)] [.ref x])) rfl (rest := []) rfl (hb hbytes d7)
  have c5 : Steps p.tables e below (s₁.setTop (entryFrame m #[.ref x] 1)) (T4.setTop (mkF m 10 #[.val (.ref x)] [.int cd])) := c3.trans (st4 _ (Steps.refl _))
  have c6 : Steps p.tables e below (s₁.setTop (entryFrame m #[.ref x] 1)) (T4.setTop (mkF m 18 #[.val (.ref x)] [.int (1 - cd)])) := by
    rcases hc with rfl | rfl
    · exact c5.trans (by
        refine XS.ifNo X4.here hexec rfl (hb hbytes d10) rfl (i0_ne_f rfl) ?_
        refine iconstV X4.here hexec rfl 1 (hb hbytes d13) (by decide) ?_
        refine XS.goto X4.here hexec rfl (pc0 := 14) rfl (hb hbytes d14) (by decide) rfl ?_
        exact Steps.refl _)
    · exact c5.trans (by
        refine XS.ifYes X4.here hexec rfl (pc0 := 10) rfl (hb hbytes d10) rfl (i0_ne_t (by decide)) (by decide) rfl ?_
        refine iconstV X4.here hexec rfl 0 (hb hbytes d17) (by decide) ?_
        exact Steps.refl _)
  exact ⟨T4, some (.int (1 - cd)), _, _, _, X4, rfl, rfl, rfl, (fun h => by cases h), ⟨rfl, q4.trans hh2⟩, fun fs hl => c6.trans (X4.ireturnOut hexec hret (by rcases hc with rfl | rfl <;> rfl) (Or.inr (Or.inl rfl)) (hb hbytes d18) hl)⟩
end IsL
namespace LChA
def yN : MethodName := ⟨"java/lang/StringLatin1", "charAt", "([BI)C"⟩
abbrev yB : ByteArray := jdk_43_method_2_code
theorem d0 : decode yB 0 = .ok (.iload_n 1, 1) := by decide +kernel
theorem d1 : decode yB 1 = .ok (.aload_n 0, 1) := by decide +kernel
theorem d2 : decode yB 2 = .ok (.arraylength, 1) := by decide +kernel
theorem d3 : decode yB 3 = .ok (.invokestatic 9, 3) := by decide +kernel
theorem d6 : decode yB 6 = .ok (.aload_n 0, 1) := by decide +kernel
theorem d7 : decode yB 7 = .ok (.iload_n 1, 1) := by decide +kernel
theorem d8 : decode yB 8 = .ok (.baload, 1) := by decide +kernel
theorem d9 : decode yB 9 = .ok (.sipush 255, 3) := by decide +kernel
theorem d12 : decode yB 12 = .ok (.iand, 1) := by decide +kernel
theorem d13 : decode yB 13 = .ok (.i2c, 1) := by decide +kernel
theorem d14 : decode yB 14 = .ok (.ireturn, 1) := by decide +kernel
def site : List Cond := [JO.Str_checkIndex.tab] ++ staticW "java/lang/StringLatin1" 9 JO.Str_checkIndex.yN
def tab : Cond := tabOf yN yB 2 (some .char) site
def P (t : Addr) (V : Cell) (i : Nat) (u : Int32) (fm : Value) (args : Array Value) (s : State) : Prop := args = #[.ref t, .int (Int32.ofNat i)] ∧ XT.Arr .byte t V s ∧ V.slots[i]? = some (.int u) ∧ (StaticIs s "jdk/internal/util/Preconditions" "SIOOBE_FORMATTER" "Ljava/util/function/BiFunction;" fm ∧ fm.isRef = true)
def E (u : Int32) (r : Option Value) (s w : State) : Prop := XT.PureE (some (.int (chr8 u))) r s w
theorem law (l : Launch) (t : Addr) (V : Cell) (i : Nat) (u : Int32) (fm : Value) : Law l yN 2 2 2 27 yB 2 (some .char) site (P t V i u fm) (E u) [] 0 0 := by
  refine Law.of_walk (plainFor_of_name (by decide +kernel)) (by decide +kernel) (by decide +kernel) (by decide) (fun _ _ h => by rw [h.1]; rfl) (fun _ U U' hal hh h => ⟨h.1, h.2.1.mv hal hh, h.2.2.1, h.2.2.2.1.there hal hh, h.2.2.2.2⟩) (fun r U U' V V' h1 hal h2 h => XT.PureE.mv r U U' V V' h1 hal h2 h) ?_
  intro p e s m args below meth c s₁ X0 hexec hbytes hml hret hlk hnm hown hh0 W hP
  obtain ⟨rfl, hV, hu, s1, rf⟩ := hP
  have v31 := hV.2.2.2
  have hi : i < V.slots.size := (Array.getElem?_eq_some_iff.mp hu).1
  have c1 : Steps p.tables e below (s₁.setTop (entryFrame m #[.ref t, .int (Int32.ofNat i)] 2)) (s₁.setTop (mkF m 0 #[.val (.ref t), .val (.int (Int32.ofNat i))] [])) := entry rfl
  have c2 : Steps p.tables e below (s₁.setTop (entryFrame m #[.ref t, .int (Int32.ofNat i)] 2)) (s₁.setTop (mkF m 3 #[.val (.ref t), .val (.int (Int32.ofNat i))] [.int (Int32.ofNat V.slots.size), .int (Int32.ofNat i)])) := c1.trans (by
    refine XS.iloadN X0.here hexec rfl (hb hbytes d0) rfl ?_
    refine XS.aloadN X0.here hexec rfl (hb hbytes d1) rfl rfl ?_
    refine X0.alen hexec (hV.mv X0.warmed.alike hh0) rfl rfl (hb hbytes d2) ?_
    exact Steps.refl _)
  obtain ⟨v3, T3, X3, E3, g3⟩ := X0.callS hexec (JO.Str_checkIndex.law l (Int32.ofNat i) (Int32.ofNat V.slots.size) fm) hown (wks W (staticW "java/lang/StringLatin1" 9 JO.Str_checkIndex.yN)) (wk W JO.Str_checkIndex.tab) (W := 0) (Nat.le_of_ble_eq_true rfl) (Nat.le_of_ble_eq_true rfl) (Nat.le_refl _) (Nat.le_refl _) (g := (mkF m 3 #[.val (.ref t), .val (.int (Int32.ofNat i))] [.int (Int32.ofNat V.slots.size), .int (Int32.ofNat i)])) rfl (by rw [hml]; rfl) c2 (argsL := [.int (Int32.ofNat i), .int (Int32.ofNat V.slots.size)]) (rest := []) rfl rfl (by show 2 * 0 + 0 ≤ _; decide) (hb hbytes d3) (⟨rfl, rf, s1.there X0.warmed.alike hh0, Int32.ofNat_not_neg (by omega), lt32 v31 hi⟩)
  obtain ⟨rfl, q3⟩ := E3
  have hh3 := q3.trans hh0
  have c4 : Steps p.tables e below (s₁.setTop (entryFrame m #[.ref t, .int (Int32.ofNat i)] 2)) (T3.setTop (mkF m 14 #[.val (.ref t), .val (.int (Int32.ofNat i))] [.int (chr8 u)])) := Steps.trans g3 (by
    refine XS.aloadN X3.here hexec rfl (hb hbytes d6) rfl rfl ?_
    refine XS.iloadN X3.here hexec rfl (hb hbytes d7) rfl ?_
    refine X3.aget hexec (hV.mv X3.warmed.alike hh3) rfl hu rfl rfl (hb hbytes d8) ?_
    refine sipushV X3.here hexec rfl 255 (hb hbytes d9) (by decide) ?_
    refine XS.iand X3.here hexec rfl (hb hbytes d12) rfl ?_
    refine i2c X3.here hexec rfl (hb hbytes d13) rfl ?_
    exact Steps.refl _)
  exact ⟨T3, some (.int (chr8 u)), _, _, _, X3, rfl, rfl, rfl, (fun h => by cases h), ⟨rfl, hh3⟩, fun fs hl => c4.trans (X3.ireturnOut hexec hret (narrow_c _) (Or.inr (Or.inr (Or.inr (Or.inl rfl)))) (hb hbytes d14) hl)⟩
end LChA
end StrChars
namespace StrChars.Road
open Jvm Sem ClassFile Op Lib Jvm.Stand Jvm.Free Jvm.Free.XT
open Jvm.Lib.Cold (StaticIs)
theorem consq {a : Array Value} {s : State} {c : Jvm.Cond} {L : List Jvm.Cond} (h0 : c.before a s = true) (h : ∀ w ∈ L, w.before a s = true) : ∀ w ∈ c :: L, w.before a s = true := fun w hw => (List.mem_cons.mp hw).elim (fun e => e ▸ h0) (h w)
/-- the words of String.length(), either coding -/
abbrev wordsLen : List Jvm.Cond := [.code Len.yN Len.yB 1 (some .int), .initialized ST, .fieldLink ST 9 ST "value" "[B", .fieldLink ST 38 ST "COMPACT_STRINGS" "Z", .fieldLink ST 15 ST "coder" "B", .code Cdr.yN Cdr.yB 1 (some .byte), .methodLink ST 335 Cdr.yN, .declares Cdr.yN, .selects ST Cdr.yN Cdr.yN, .instanceMethod Cdr.yN]
theorem tabLen_of {a : Array Value} {s : State} (h : ∀ w ∈ wordsLen, w.before a s = true) : Len.tab.before a s = true := by
  have hc : Cdr.tab.before a s = true := unparts (wk h (.code Cdr.yN Cdr.yB 1 (some .byte))) (wks h (.initialized Cdr.yN.cls :: Cdr.site))
  have q := consq hc h
  exact unparts (wk q (.code Len.yN Len.yB 1 (some .int))) (wks q (.initialized Len.yN.cls :: Len.site))
theorem movedLen {Z s : State} {a0 args : Array Value} (hZ : Z.Warmed39 s.vm) (hw : ∀ d ∈ wordsLen, d.before a0 Z = true) : ∀ d ∈ wordsLen, d.before args s = true := fun d hd => by
  have q := hw d hd
  have t : ∀ d ∈ wordsLen, d = .arrayClass .byte ∨ (d.onTables && d.keepsFace) = true := by decide +kernel
  rcases t d hd with rfl | t
  · exact RoadKit.mvA hZ q
  · exact RoadKit.mv hZ q t
/-- the bytes of the chars cs, low before high -/
def wideBytes : List Int32 → List Value
  | [] => []
  | c :: cs => .int (lo8 c) :: .int (hi8 c) :: wideBytes cs
theorem wide_lo (d : Value) : ∀ (cs : List Int32) (j : Nat), j < cs.length → (wideBytes cs).getD (2 * j) d = .int (lo8 (cs.getD j 0))
  | [], j, h => absurd h (Nat.not_lt_zero j)
  | c :: cs, 0, _ => rfl
  | c :: cs, j + 1, h => by
    have q := wide_lo d cs j (by simpa using h)
    rw [show 2 * (j + 1) = 2 * j + 1 + 1 from by omega]
    simpa [wideBytes] using q
theorem wide_hi (d : Value) : ∀ (cs : List Int32) (j : Nat), j < cs.length → (wideBytes cs).getD (2 * j + 1) d = .int (hi8 (cs.getD j 0))
  | [], j, h => absurd h (Nat.not_lt_zero j)
  | c :: cs, 0, _ => rfl
  | c :: cs, j + 1, h => by
    have q := wide_hi d cs j (by simpa using h)
    rw [show 2 * (j + 1) + 1 = 2 * j + 1 + 1 + 1 from by omega]
    simpa [wideBytes] using q
theorem low_at (d : Value) (cs : List Int32) (j : Nat) (h : j < cs.length) : (cs.map fun c => Value.int (lo8 c)).getD j d = .int (lo8 (cs.getD j 0)) := by
  simp [List.getD_eq_getElem?_getD, h]
/-- an array of N2 bytes vs codes the chars cs by the coder cd -/
def CodA (cs : List Int32) (cd N2 : Int32) (vs : List Value) : Prop := (cd = 0 ∧ N2 = Int32.ofNat cs.length ∧ vs = (cs.map fun c => Value.int (lo8 c)) ∧ ∀ c ∈ cs, ¬ 255 < c) ∨ (cd = 1 ∧ N2 = Int32.ofNat (2 * cs.length) ∧ vs = wideBytes cs ∧ ∃ c ∈ cs, 255 < c)
theorem CodA.cod {cs : List Int32} {cd N2 : Int32} {vs : List Value} {V : Cell} (h : CodA cs cd N2 vs) (hn : 2 * cs.length < 2 ^ 31) (hs : V.slots.size = N2.toNatClampNeg) (hv : RoadKit.Has V vs (.int 0)) : Cod cd cs.length (fun j => cs.getD j 0) V := by
  rcases h with ⟨rfl, rfl, rfl, h⟩ | ⟨rfl, rfl, rfl, c, hc, hw⟩
  · rw [n32 (by omega)] at hs
    exact Or.inl ⟨rfl, hs, fun j hj => ⟨by rw [hv j (by omega), low_at _ _ _ hj], by
      have e : cs.getD j 0 = cs[j] := by simp [List.getD_eq_getElem?_getD, hj]
      show ¬ 255 < cs.getD j 0
      rw [e]; exact h _ (List.getElem_mem _)⟩⟩
  · rw [n32 (by omega)] at hs
    obtain ⟨j, hj, rfl⟩ := List.getElem_of_mem hc
    exact Or.inr ⟨rfl, hs, fun j hj => ⟨by rw [hv _ (by omega), wide_lo _ _ _ hj], by rw [hv _ (by omega), wide_hi _ _ _ hj]⟩, j, hj, by
      have e : cs.getD j 0 = cs[j] := by simp [List.getD_eq_getElem?_getD, hj]
      show 255 < cs.getD j 0
      rw [e]; exact hw⟩
/-- an object of exactly java/lang/String, its two fields found: as the laws ask it -/
theorem strObj {Z U : State} {a0 : Array Value} {kI : Nat} (wi : (Jvm.Cond.instantiable ST kI).before a0 Z = true) (al : Z.vm.Alike U.vm) {x : Addr} {v0 c0 : Value} (E : RoadKit.Exa Z U.heap x ST) (V : RoadKit.Fld Z U.heap x ST "value" "[B" v0) (C : RoadKit.Fld Z U.heap x ST "coder" "B" c0) :
    ∃ (D : Cell) (fV fC : Field), Blank ST x D U ∧ Found ST "value" "[B" fV U ∧ Found ST "coder" "B" fC U ∧ D.slots[fV.slot]? = some v0 ∧ D.slots[fC.slot]? = some c0 ∧ RoadKit.slotOf Z ST "value" "[B" = fV.slot ∧ RoadKit.slotOf Z ST "coder" "B" = fC.slot := by
  obtain ⟨D, cfV, kV, iV, fV, hD, gV, stV, knV, obV, asV, slV⟩ := V
  obtain ⟨D', cfC, kC, iC, fC, hD', gC, stC, -, -, asC, slC⟩ := C
  cases hD.symm.trans hD'
  obtain ⟨D2, kD, e1, e2, e3, e4, e5⟩ := E
  cases hD.symm.trans e1
  obtain ⟨c2, k2, i1, i2, i3, -⟩ := Cond.instantiable_spec wi
  cases e2.symm.trans i1
  cases e3.symm.trans i2
  obtain ⟨kU, u1, u2⟩ := al.2.2 _ _ e3
  exact ⟨D, fV, fC, ⟨hD, ⟨knV, fun q hq => by rw [hq] at obV; cases obV⟩, by rw [al.findClass]; exact e2, kU, u1, by rw [u2]; exact i3, by rw [u2]; exact e5 i3⟩, ⟨SBG.found_only al ⟨cfV, kV, iV, gV⟩, stV⟩, ⟨SBG.found_only al ⟨cfC, kC, iC, gC⟩, stC⟩, slV, slC, by simp [RoadKit.slotOf, gV], by simp [RoadKit.slotOf, gC]⟩
theorem sta_is {Z U : State} (al : Z.vm.Alike U.vm) {C n d : String} {v : Value} (S : RoadKit.Sta Z U.heap C n d v) : StaticIs U C n d v := by
  obtain ⟨cfS, iS, kS, fS, st, cS, t1, t2, t3, t4, t5, t6, t7⟩ := S
  exact StaticIs.there (s := { Z with heap := U.heap }) ⟨cfS, iS, kS, fS, st, cS, t1, t2, t3, t4, t5, (fun q => by rw [q] at t6; cases t6), t7⟩ al rfl
/-- **length() OF SUCH A STRING** -/
theorem lenW {p : Program} {l : Launch} {e : Env} {R : Room} {s : State} {args : Array Value} {below : List Frame} {len W : Nat} {Z : State} {a0 : Array Value} {h : Heap} (hZ : Z.Warmed39 s.vm) (hw : ∀ d ∈ wordsLen, d.before a0 Z = true) {kI : Nat} (wi : (Jvm.Cond.instantiable ST kI).before a0 Z = true)
    {x t : Addr} {kb : ClassId} {cs : List Int32} {cd N2 z : Int32} {vs : List Value} (E : RoadKit.Exa Z h x ST) (V : RoadKit.Fld Z h x ST "value" "[B" (.ref t)) (C : RoadKit.Fld Z h x ST "coder" "B" (.int cd)) (K : RoadKit.Arv Z h t kb .byte N2 vs (.int 0)) (hc : CodA cs cd N2 vs) (hb : ∀ c ∈ cs, ¬ c < 0 ∧ ¬ (65535 : Int32) < c)
    (S : RoadKit.Sta Z h ST "COMPACT_STRINGS" "Z" (.int z)) (hz : ¬ z = 0) (l2 : cs.length ≤ 4000) (hfr : 2 ≤ R.frames) (hlo : W + 25 ≤ R.locals) :
    Back l R p e below s args (⟨"java/lang/String", "length", "()I"⟩ : MethodName) len W (fun P a => a = #[.ref x] ∧ P.U.heap = h ∧ P.cells + 0 ≤ R.cells ∧ P.slots + 0 ≤ R.slots)
      (fun P _ v B => ∃ L, (v = some (.int (Int32.ofNat cs.length)) ∧ L = [] ∧ B.U.heap = h) ∧ B.locs = P.locs ++ L ∧ B.cells = P.cells + 0 ∧ B.slots = P.slots + 0) := by
  obtain ⟨A, K1, K2, K3, K4, K5, K6⟩ := K
  have hcod := hc.cod (by omega) K3 K5
  intro m meth c P g ig mk a X hg hsize hdg hW hn hp'
  obtain ⟨rfl, rfl, r1, r2⟩ := hp'
  have al : Z.vm.Alike P.U.vm := hZ.alike.trans X.warmed.alike
  obtain ⟨D, fV, fC, hB, F1, F2, g1, g2, -, -⟩ := strObj wi al E V C
  have hx : Txt x t A cd cs.length (fun j => cs.getD j 0) P.U := ⟨⟨_, hB.2.2.1, D, hB.1, rfl, by cases q : D.vm <;> first | rfl | exact absurd q (hB.2.1.2 _)⟩, Has.of hB F1 g1, Has.of hB F2 g2, ⟨K1.1, State.isArrayOf_alike al K1.2.1, K1.2.2, by rcases hcod with ⟨-, q, -⟩ | ⟨-, q, -⟩ <;> omega⟩, hcod, fun j hj => by
    have e : cs.getD j 0 = cs[j] := by simp [List.getD_eq_getElem?_getD, hj]
    show ¬ cs.getD j 0 < 0 ∧ ¬ 65535 < cs.getD j 0
    rw [e]; exact hb _ (List.getElem_mem _)⟩
  obtain ⟨v, B, X', ⟨⟨hv, hh⟩, hl, hk, hs⟩, st⟩ := Len.pays x t A cd cs.length (fun j => cs.getD j 0) z (tabLen_of (movedLen hZ hw)) hfr hlo m meth c P g ig mk _ X hg hsize hdg hW hn ⟨r1, r2, rfl, hx, sta_is al S, hz⟩
  exact ⟨v, B, X', ⟨[], ⟨hv, rfl, hh⟩, hl, hk, hs⟩, st⟩
end StrChars.Road
namespace StrChars.Road
open Jvm Sem ClassFile Op Lib Jvm.Stand Jvm.Free Jvm.Free.XT
open Jvm.Lib.Cold (StaticIs)
/-- the road's facts of a String, as the laws ask it -/
theorem txt_of {Z U : State} {a0 : Array Value} {kI : Nat} (wi : (Jvm.Cond.instantiable ST kI).before a0 Z = true) (al : Z.vm.Alike U.vm) {x t : Addr} {kb : ClassId} {cs : List Int32} {cd N2 : Int32} {vs : List Value} (E : RoadKit.Exa Z U.heap x ST) (V : RoadKit.Fld Z U.heap x ST "value" "[B" (.ref t)) (C : RoadKit.Fld Z U.heap x ST "coder" "B" (.int cd)) (K : RoadKit.Arv Z U.heap t kb .byte N2 vs (.int 0)) (hc : CodA cs cd N2 vs) (hb : ∀ c ∈ cs, ¬ c < 0 ∧ ¬ (65535 : Int32) < c) (l2 : cs.length ≤ 4000) :
    ∃ A, Txt x t A cd cs.length (fun j => cs.getD j 0) U := by
  obtain ⟨A, K1, K2, K3, K4, K5, K6⟩ := K
  have hcod := hc.cod (by omega) K3 K5
  obtain ⟨D, fV, fC, hB, F1, F2, g1, g2, -, -⟩ := strObj wi al E V C
  exact ⟨A, ⟨_, hB.2.2.1, D, hB.1, rfl, by cases q : D.vm <;> first | rfl | exact absurd q (hB.2.1.2 _)⟩, Has.of hB F1 g1, Has.of hB F2 g2, ⟨K1.1, State.isArrayOf_alike al K1.2.1, K1.2.2, by rcases hcod with ⟨-, q, -⟩ | ⟨-, q, -⟩ <;> omega⟩, hcod, fun j hj => by
    have e : cs.getD j 0 = cs[j] := by simp [List.getD_eq_getElem?_getD, hj]
    show ¬ cs.getD j 0 < 0 ∧ ¬ 65535 < cs.getD j 0
    rw [e]; exact hb _ (List.getElem_mem _)⟩
end StrChars.Road
namespace StrChars
open Jvm Sem ClassFile Op Lib Jvm.Stand Jvm.Free.XT Jvm.Free.ALB Jvm.Free.JM Jvm.Free
open Jvm.Lib.Cold (StaticIs)
namespace ChN
def yN : MethodName := ⟨"java/lang/String", "charAt", "(I)C"⟩
abbrev yB : ByteArray := jdk_42_method_56_code
theorem d0 : decode yB 0 = .ok (.aload_n 0, 1) := by decide +kernel
theorem d1 : decode yB 1 = .ok (.invokevirtual 492, 3) := by decide +kernel
theorem d4 : decode yB 4 = .ok (.ifCond (.eq) 12, 3) := by decide +kernel
theorem d7 : decode yB 7 = .ok (.aload_n 0, 1) := by decide +kernel
theorem d8 : decode yB 8 = .ok (.getfield 9, 3) := by decide +kernel
theorem d11 : decode yB 11 = .ok (.iload_n 1, 1) := by decide +kernel
theorem d12 : decode yB 12 = .ok (.invokestatic 495, 3) := by decide +kernel
theorem d15 : decode yB 15 = .ok (.ireturn, 1) := by decide +kernel
def site : List Cond := [.fieldLink "java/lang/String" 9 "java/lang/String" "value" "[B", IsL.tab, LChA.tab] ++ virtW "java/lang/String" 492 "java/lang/String" IsL.yN IsL.yN ++ staticW "java/lang/String" 495 LChA.yN
def tab : Cond := tabOf yN yB 2 (some .char) site
def P (x t : Addr) (V : Cell) (n : Nat) (f : Nat → Int32) (z : Int32) (fm : Value) (i : Nat) (args : Array Value) (s : State) : Prop := args = #[.ref x, .int (Int32.ofNat i)] ∧ Txt x t V 0 n f s ∧ i < n ∧ StaticIs s "java/lang/String" "COMPACT_STRINGS" "Z" (.int z) ∧ ¬ z = 0 ∧ StaticIs s "jdk/internal/util/Preconditions" "SIOOBE_FORMATTER" "Ljava/util/function/BiFunction;" fm ∧ fm.isRef = true
def E (f : Nat → Int32) (i : Nat) (r : Option Value) (s u : State) : Prop := XT.PureE (some (.int (f i))) r s u
/-- charAt(i) of a Latin-1 String of n chars, i < n: f i -/
theorem law (l : Launch) (x t : Addr) (V : Cell) (n : Nat) (f : Nat → Int32) (z : Int32) (fm : Value) (i : Nat) : Law l yN 2 1 3 40 yB 2 (some .char) site (P x t V n f z fm i) (E f i) [] 0 0 := by
  refine Law.of_walk (plainFor_of_name (by decide +kernel)) (by decide +kernel) (by decide +kernel) (by decide) (fun _ _ h => by rw [h.1]; rfl) (fun _ U U' hal hh h => ⟨h.1, h.2.1.mv hal hh, h.2.2.1, h.2.2.2.1.there hal hh, h.2.2.2.2.1, h.2.2.2.2.2.1.there hal hh, h.2.2.2.2.2.2⟩) (fun r U U' V V' h1 hal h2 h => XT.PureE.mv r U U' V V' h1 hal h2 h) ?_
  intro p e s m args below meth c s₁ X0 hexec hbytes hml hret hlk hnm hown hh0 W hP
  obtain ⟨rfl, hx, hi, s1, hz, s3, rf⟩ := hP
  have v31 := hx.2.2.2.1.2.2.2
  have hr := hx.2.2.2.2.2 i hi
  have hx0 := hx.mv X0.warmed.alike hh0
  have c1 : Steps p.tables e below (s₁.setTop (entryFrame m #[.ref x, .int (Int32.ofNat i)] 2)) (s₁.setTop (mkF m 1 #[.val (.ref x), .val (.int (Int32.ofNat i))] [.ref x])) := Steps.trans (entry rfl) (by
    show Steps p.tables e below (s₁.setTop (mkF m 0 #[.val (.ref x), .val (.int (Int32.ofNat i))] [])) _
    refine XS.aloadN X0.here hexec rfl (hb hbytes d0) rfl rfl ?_
    exact Steps.refl _)
  obtain ⟨v2, T2, X2, E2, g2⟩ := X0.callV hexec (IsL.law l x 0 z) hown (wks W (virtW "java/lang/String" 492 "java/lang/String" IsL.yN IsL.yN)) rfl (by decide) (wk W IsL.tab) (W := 0) (Nat.le_of_ble_eq_true rfl) (Nat.le_of_ble_eq_true rfl) (Nat.le_refl _) (Nat.le_refl _) (hx0.1.fc X0.warmed.alike) hx0.1.is (g := (mkF m 1 #[.val (.ref x), .val (.int (Int32.ofNat i))] [.ref x])) rfl (by rw [hml]; rfl) c1 (argsL := []) (rest := []) rfl rfl (by show 2 * 0 + 0 ≤ _; decide) (hb hbytes d1) (⟨rfl, hx0.2.2.1, hx.2.2.2.2.1.cd, s1.there X0.warmed.alike hh0, hz⟩)
  obtain ⟨rfl, q2⟩ := E2
  have hh2 := q2.trans hh0
  have hx2 := hx.mv X2.warmed.alike hh2
  obtain ⟨-, k1, k2⟩ | ⟨k0, -⟩ := hx.2.2.2.2.1
  · have c3 : Steps p.tables e below (s₁.setTop (entryFrame m #[.ref x, .int (Int32.ofNat i)] 2)) (T2.setTop (mkF m 8 #[.val (.ref x), .val (.int (Int32.ofNat i))] [.ref x])) := Steps.trans g2 (by
      refine XS.ifNo X2.here hexec rfl (hb hbytes d4) rfl (i0_eq_f (by decide)) ?_
      refine XS.aloadN X2.here hexec rfl (hb hbytes d7) rfl rfl ?_
      exact Steps.refl _)
    obtain ⟨T4, X4, q4, st4⟩ := X2.hget hexec hown (wk W (.fieldLink "java/lang/String" 9 "java/lang/String" "value" "[B")) hx2.2.1 (g := (mkF m 8 #[.val (.ref x), .val (.int (Int32.ofNat i))] [.ref x])) rfl (rest := []) rfl (hb hbytes d8)
    have hh4 := q4.trans hh2
    have c5 : Steps p.tables e below (s₁.setTop (entryFrame m #[.ref x, .int (Int32.ofNat i)] 2)) (T4.setTop (mkF m 12 #[.val (.ref x), .val (.int (Int32.ofNat i))] [.int (Int32.ofNat i), .ref t])) := (c3.trans (st4 _ (Steps.refl _))).trans (by
      refine XS.iloadN X4.here hexec rfl (hb hbytes d11) rfl ?_
      exact Steps.refl _)
    obtain ⟨v6, T6, X6, E6, g6⟩ := X4.callS hexec (LChA.law l t V i (lo8 (f i)) fm) hown (wks W (staticW "java/lang/String" 495 LChA.yN)) (wk W LChA.tab) (W := 0) (Nat.le_of_ble_eq_true rfl) (Nat.le_of_ble_eq_true rfl) (Nat.le_refl _) (Nat.le_refl _) (g := (mkF m 12 #[.val (.ref x), .val (.int (Int32.ofNat i))] [.int (Int32.ofNat i), .ref t])) rfl (by rw [hml]; rfl) c5 (argsL := [.ref t, .int (Int32.ofNat i)]) (rest := []) rfl rfl (by show 2 * 0 + 0 ≤ _; decide) (hb hbytes d12) (⟨rfl, hx.2.2.2.1.mv X4.warmed.alike hh4, (k2 i hi).1, s3.there X4.warmed.alike hh4, rf⟩)
    obtain ⟨rfl, q6⟩ := E6
    rw [chr8_lo8 hr.1 (k2 i hi).2] at g6
    exact ⟨T6, some (.int (f i)), _, _, _, X6, rfl, rfl, rfl, (fun h => by cases h), ⟨rfl, q6.trans hh4⟩, fun fs hl => Steps.trans g6 (X6.ireturnOut hexec hret (narrow_ch hr.1 hr.2) (Or.inr (Or.inr (Or.inr (Or.inl rfl)))) (hb hbytes d15) hl)⟩
  · exact absurd k0 (by decide)
theorem pays {l : Launch} {R : Room} {p : Program} {e : Env} {below : List Frame} {s : State} {sargs : Array Value} {len W : Nat} (x t : Addr) (V : Cell) (n : Nat) (f : Nat → Int32) (z : Int32) (fm : Value) (i : Nat) (htab : tab.before sargs s = true) (hfr : 4 ≤ R.frames) (hlo : W + 53 ≤ R.locals) :
    Back l R p e below s sargs yN len W (fun A₁ a₁ => A₁.cells + 0 ≤ R.cells ∧ A₁.slots + 0 ≤ R.slots ∧ P x t V n f z fm i a₁ A₁.U) (fun A₁ _ v₁ B₁ => E f i v₁ A₁.U B₁.U ∧ B₁.locs = A₁.locs ++ [] ∧ B₁.cells = A₁.cells + 0 ∧ B₁.slots = A₁.slots + 0) :=
  (law l x t V n f z fm i).pays htab hfr (by omega)
end ChN
end StrChars
namespace StrChars.Road
open Jvm Sem ClassFile Op Lib Jvm.Stand Jvm.Free Jvm.Free.XT
open Jvm.Lib.Cold (StaticIs)
/-- the words of String.charAt(int), the Latin-1 road alone -/
abbrev wordsChN : List Jvm.Cond := [.code ChN.yN ChN.yB 2 (some .char), .initialized ST, .fieldLink ST 9 ST "value" "[B", .fieldLink ST 38 ST "COMPACT_STRINGS" "Z", .fieldLink ST 15 ST "coder" "B", .code IsL.yN IsL.yB 1 (some .boolean), .methodLink ST 492 IsL.yN, .declares IsL.yN, .selects ST IsL.yN IsL.yN, .instanceMethod IsL.yN,
  .methodLink ST 495 LChA.yN, .static LChA.yN, .code LChA.yN LChA.yB 2 (some .char), .initialized "java/lang/StringLatin1", .methodLink "java/lang/StringLatin1" 9 JO.Str_checkIndex.yN, .static JO.Str_checkIndex.yN, .code JO.Str_checkIndex.yN JO.Str_checkIndex.yB 2 none,
  .fieldLink ST 1053 "jdk/internal/util/Preconditions" "SIOOBE_FORMATTER" "Ljava/util/function/BiFunction;", .methodLink ST 1059 JC.PreCheck.yN, .static JC.PreCheck.yN, .code JC.PreCheck.yN JC.PreCheck.yB 3 (some .int), .initialized "jdk/internal/util/Preconditions"]
theorem tabChN_of {a : Array Value} {s : State} (h : ∀ w ∈ wordsChN, w.before a s = true) : ChN.tab.before a s = true := by
  have hp : JC.PreCheck.tab.before a s = true := unparts (wk h (.code JC.PreCheck.yN JC.PreCheck.yB 3 (some .int))) (wks h (.initialized JC.PreCheck.yN.cls :: JC.PreCheck.site))
  have qk := consq hp h
  have hk : JO.Str_checkIndex.tab.before a s = true := unparts (wk qk (.code JO.Str_checkIndex.yN JO.Str_checkIndex.yB 2 none)) (wks qk (.initialized JO.Str_checkIndex.yN.cls :: JO.Str_checkIndex.site))
  have ql := consq hk h
  have hl : LChA.tab.before a s = true := unparts (wk ql (.code LChA.yN LChA.yB 2 (some .char))) (wks ql (.initialized LChA.yN.cls :: LChA.site))
  have hi : IsL.tab.before a s = true := unparts (wk h (.code IsL.yN IsL.yB 1 (some .boolean))) (wks h (.initialized IsL.yN.cls :: IsL.site))
  have q := consq hi (consq hl h)
  exact unparts (wk q (.code ChN.yN ChN.yB 2 (some .char))) (wks q (.initialized ChN.yN.cls :: ChN.site))
theorem movedChN {Z s : State} {a0 args : Array Value} (hZ : Z.Warmed39 s.vm) (hw : ∀ d ∈ wordsChN, d.before a0 Z = true) : ∀ d ∈ wordsChN, d.before args s = true := fun d hd => by
  have t : ∀ d ∈ wordsChN, (d.onTables && d.keepsFace) = true := by decide +kernel
  exact RoadKit.mv hZ (hw d hd) (t d hd)
/-- **charAt(i) OF A LATIN-1 STRING**, i < n: the char -/
theorem chN {p : Program} {l : Launch} {e : Env} {R : Room} {s : State} {args : Array Value} {below : List Frame} {len W : Nat} {Z : State} {a0 : Array Value} {h : Heap} (hZ : Z.Warmed39 s.vm) (hw : ∀ d ∈ wordsChN, d.before a0 Z = true) {kI : Nat} (wi : (Jvm.Cond.instantiable ST kI).before a0 Z = true)
    {x t : Addr} {kb : ClassId} {cs : List Int32} {N2 z : Int32} {vs : List Value} {fm : Value} {i : Nat} {j : Int32} (E : RoadKit.Exa Z h x ST) (V : RoadKit.Fld Z h x ST "value" "[B" (.ref t)) (C : RoadKit.Fld Z h x ST "coder" "B" (.int 0)) (K : RoadKit.Arv Z h t kb .byte N2 vs (.int 0)) (hc : CodA cs 0 N2 vs) (hb : ∀ c ∈ cs, ¬ c < 0 ∧ ¬ (65535 : Int32) < c)
    (S : RoadKit.Sta Z h ST "COMPACT_STRINGS" "Z" (.int z)) (hz : ¬ z = 0) (F : RoadKit.Sta Z h "jdk/internal/util/Preconditions" "SIOOBE_FORMATTER" "Ljava/util/function/BiFunction;" fm) (rf : fm.isRef = true) (l2 : cs.length ≤ 4000) (hi : i < cs.length) (hj : j = Int32.ofNat i) (hfr : 4 ≤ R.frames) (hlo : W + 53 ≤ R.locals) :
    Back l R p e below s args (⟨"java/lang/String", "charAt", "(I)C"⟩ : MethodName) len W (fun P a => a = #[.ref x, .int j] ∧ P.U.heap = h ∧ P.cells + 0 ≤ R.cells ∧ P.slots + 0 ≤ R.slots)
      (fun P _ v B => ∃ L, (v = some (.int (cs.getD i 0)) ∧ L = [] ∧ B.U.heap = h) ∧ B.locs = P.locs ++ L ∧ B.cells = P.cells + 0 ∧ B.slots = P.slots + 0) := by
  subst hj
  intro m meth c P g ig mk a X hg hsize hdg hW hn hp'
  obtain ⟨rfl, rfl, r1, r2⟩ := hp'
  have al : Z.vm.Alike P.U.vm := hZ.alike.trans X.warmed.alike
  obtain ⟨A, hx⟩ := txt_of wi al E V C K hc hb l2
  obtain ⟨v, B, X', ⟨⟨hv, hh⟩, hl, hk, hs⟩, st⟩ := ChN.pays x t A cs.length (fun j => cs.getD j 0) z fm i (tabChN_of (movedChN hZ hw)) hfr hlo m meth c P g ig mk _ X hg hsize hdg hW hn ⟨r1, r2, rfl, hx, hi, sta_is al S, hz, sta_is al F, rf⟩
  exact ⟨v, B, X', ⟨[], ⟨hv, rfl, hh⟩, hl, hk, hs⟩, st⟩
/-- what backV says of its String, as the contracts of this text ask it: cs's low bytes, coder 0 -/
theorem codOf {cs : List Int32} {n : Nat} (hn : cs.length = n) (hb : ∀ c ∈ cs, ¬ 255 < c) : CodA cs 0 (Int32.ofNat n) ((cs.map lo8).map Value.int) := Or.inl ⟨rfl, by rw [hn], by simp [List.map_map, Function.comp_def], hb⟩
end StrChars.Road
end Jvm.Pilot.@@N@@
/- own kit 1: goal-directed walks -/
namespace Jvm.Pilot.@@N@@
open Jvm Jvm.ClassFile Sem Op Lib Jvm.Free Jvm.Stand Jvm.LawKit Jvm.RoadKit Bundle Jvm.Pilot.@@N@@.Jvm.D
section OwnKit
variable {p : Program} {l : Launch} {e : Env} {R : Room} {s : State} {m : MethodId} {args : Array Value} {below : List Frame} {meth : Method} {c : Code} {T : State} {locs : List Loc} {cells slots : Nat} {Z : State} {a0 : Array Value} {h : Heap}
/-- a method's contract: what it leaves, asked at the heap h with these arguments -/
abbrev own_C (l : Launch) (Z : State) (y : MethodName) (bytes : ByteArray) (maxL : Nat) (ret : Option FieldType) (ws : List Jvm.Cond) (rm : Room) (as : Array Value) (h : Heap) (Q : Option Value → Heap → List Loc → Prop) : Prop :=
  MetFree l y (head1 (Jvm.Cond.code y bytes maxL ret :: ws) rm) (fun a U => a = as ∧ Z.Warmed39 U.vm ∧ U.heap = h) (fun _ _ _ _ _ => True) (fun _ U o U' => ∃ v L, o = .returned v ∧ Q v U'.heap L ∧ FrameEnd U o U' L rm.cells rm.slots)
/-- the same at a call -/
abbrev own_Bk (l : Launch) (R : Room) (p : Program) (e : Env) (below : List Frame) (s : State) (args : Array Value) (y : MethodName) (len W : Nat) (as : Array Value) (h : Heap) (kc ks : Nat) (Q : Option Value → Heap → List Loc → Prop) : Prop :=
  Back l R p e below s args y len W (fun A a => a = as ∧ A.U.heap = h ∧ A.cells + kc ≤ R.cells ∧ A.slots + ks ≤ R.slots) (fun A _ v B => ∃ L, Q v B.U.heap L ∧ B.locs = A.locs ++ L ∧ B.cells = A.cells + kc ∧ B.slots = A.slots + ks)
/-- from the state A the body comes to its end as Q says -/
def own_Go (p : Program) (e : Env) (below : List Frame) (s : State) (Q : Option Value → Heap → List Loc → Prop) (C S : Nat) (A : State) : Prop :=
  ∃ t v L, Steps p.tables e below A t ∧ t.status = .running ∧ Ended t below (.returned v) ∧ Q v t.heap L ∧ FrameEnd s (.returned v) t L C S
theorem own_st {Q : Option Value → Heap → List Loc → Prop} {C S : Nat} {A B : State} (k : ∀ t, Steps p.tables e below B t → Steps p.tables e below A t) (G : own_Go p e below s Q C S B) : own_Go p e below s Q C S A := by
  obtain ⟨t, v, L, h1, h2⟩ := G
  exact ⟨t, v, L, k t h1, h2⟩
theorem own_body {y : MethodName} {bytes : ByteArray} {maxL : Nat} {ret : Option FieldType} {ws : List Jvm.Cond} {rm : Room} {as : Array Value} {Q : Option Value → Heap → List Loc → Prop} (hp : plainFor y = true)
    (body : ∀ (p : Program) (e : Env) (s : State) (m : MethodId) (below : List Frame) (meth : Method) (c : Code) (T : State), Stand p l e rm s m as below meth c T [] 0 0 → p.tables.exec = Jvm.exec → c.code = bytes → c.maxLocals = maxL → Z.Warmed39 s.vm → s.vm.findClass y.cls = some m.cls → meth.name = y.name → meth.sig.returnType = ret → meth.locks = false → T.heap = h →
      own_Go p e below s Q rm.cells rm.slots (T.setTop (entryFrame m as maxL))) : own_C l Z y bytes maxL ret ws rm as h Q := by
  refine MetFree.of_bodySF hp hisR ?_
  intro p e s m args below meth c s₁ Bd hml hP hK
  obtain ⟨rfl, hZ, hh⟩ := hP
  obtain ⟨t, v, L, h1, h2, h3, h4, h5⟩ := body p e s m below meth c s₁ (Stand.of_body Bd) Bd.exec Bd.bytes hml hZ (findClass_of_methodNamed Bd.named) (name_of_methodNamed Bd.named Bd.method).1 Bd.returns Bd.notSynchronized (by rw [← hh, Bd.state]; rfl)
  exact ⟨t, _, h1, h2, h3, v, L, rfl, h4, h5⟩
theorem own_ret {Q : Option Value → Heap → List Loc → Prop} {C S : Nat} (X : Stand p l e R s m args below meth c T locs cells slots) (hx : p.tables.exec = Jvm.exec) (hk : meth.locks = false) (eT : T.heap = h) {pc : Nat} {Ls : Array Slot} {w : Value} {t : FieldType} {i : Instr} {rest : List Value} (hret : meth.sig.returnType = some t) (hn : narrow t w = w)
    (hi : (i = .ireturn ∧ (t = .int ∨ t = .boolean ∨ t = .byte ∨ t = .char ∨ t = .short) ∧ ∃ z, w = .int z) ∨ (i = .lreturn ∧ t = .long ∧ ∃ z, w = .long z) ∨ (i = .dreturn ∧ t = .double ∧ ∃ z, w = .double z) ∨ (i = .freturn ∧ t = .float ∧ ∃ z, w = .float z) ∨ (i = .areturn ∧ t.isReference = true ∧ w.isRef = true))
    (hd : decode c.code pc = .ok (i, 1)) (hc : cells ≤ C) (hs : slots ≤ S) (hq : Q (some w) h locs) : own_Go p e below s Q C S (T.setTop (mkF m pc Ls (w :: rest))) := by
  obtain ⟨fs, hr, hrun, hended, hW, hsame⟩ := X.leave (v := some w) (fun h => by rw [hret] at h; cases h) hk
  exact ⟨_, some w, locs, retOut X hx hret hn hi hd hr, hrun, hended, by subst eT; exact hq, ⟨_, rfl⟩, hW, hsame.mono hc hs⟩
theorem own_retV {Q : Option Value → Heap → List Loc → Prop} {C S : Nat} (X : Stand p l e R s m args below meth c T locs cells slots) (hx : p.tables.exec = Jvm.exec) (hk : meth.locks = false) (eT : T.heap = h) {pc : Nat} {Ls : Array Slot} (hret : meth.sig.returnType = none)
    (hd : decode c.code pc = .ok (.return_, 1)) (hc : cells ≤ C) (hs : slots ≤ S) (hq : Q none h locs) : own_Go p e below s Q C S (T.setTop (mkF m pc Ls [])) := by
  obtain ⟨fs, hr, hrun, hended, hW, hsame⟩ := X.leave (v := none) (fun _ => rfl) hk
  exact ⟨_, none, locs, X.returnOut hx hret hd hr, hrun, hended, by subst eT; exact hq, ⟨_, rfl⟩, hW, hsame.mono hc hs⟩
theorem own_bk {y : MethodName} {bytes : ByteArray} {maxL : Nat} {ret : Option FieldType} {rm : Room} {len W : Nat} {as : Array Value} {Q : Option Value → Heap → List Loc → Prop} (hM : own_C l Z y bytes maxL ret [] rm as h Q) (hZ : Z.Warmed39 s.vm) (wc : (Jvm.Cond.code y bytes maxL ret).before a0 Z = true) (wz : (Jvm.Cond.initialized y.cls).before a0 Z = true) (hf : rm.frames + 1 ≤ R.frames) (hl : W + (maxL + 11) + rm.locals ≤ R.locals) :
    own_Bk l R p e below s args y len W as h rm.cells rm.slots Q := backOf hM hZ wc wz hf hl
theorem own_callS (X : Stand p l e R s m args below meth c T locs cells slots) (hx : p.tables.exec = Jvm.exec) (hZ : Z.Warmed39 s.vm) {own : String} {index : Nat} {y : MethodName} {bytes : ByteArray} {maxL : Nat} {ret : Option FieldType}
    (hown : s.vm.findClass own = some m.cls) (w1 : (Jvm.Cond.methodLink own index y).before a0 Z = true) (w2 : (Jvm.Cond.static y).before a0 Z = true) (w3 : (Jvm.Cond.initialized y.cls).before a0 Z = true) (w4 : (Jvm.Cond.code y bytes maxL ret).before a0 Z = true) (hy : y.cls ≠ "java/lang/invoke/MethodHandle" ∧ y.cls ≠ "java/lang/invoke/VarHandle")
    {W kc ks : Nat} {as : Array Value} {Q : Option Value → Heap → List Loc → Prop} (hK : own_Bk l R p e below s args y 3 W as h kc ks Q) (eT : T.heap = h) (hc : cells + kc ≤ R.cells) (hs : slots + ks ≤ R.slots)
    {g : JFrame} (hg : g.method = m) (hsize : g.locals.size = c.maxLocals) {argsL rest : List Value} (hlen : ∀ sig, parseMethodDescriptor y.desc = some sig → argsL.length = sig.parameters.length) (hstack : g.stack = argsL.reverse ++ rest) (has : argsL.toArray = as) (hW : 2 * g.monitorRoom + (rest.map fun v => v.category).sum ≤ W) (hdg : decode c.code g.pc = .ok (.invokestatic index, 3)) :
    ∃ (T' : State) (v : Option Value) (L : List Loc) (h' : Heap), Stand p l e R s m args below meth c T' (locs ++ L) (cells + kc) (slots + ks) ∧ T'.heap = h' ∧ Q v h' L ∧ ∀ t, Steps p.tables e below (T'.setTop { g with pc := g.pc + 3, stack := v.toList ++ rest }) t → Steps p.tables e below (T.setTop g) t := by
  obtain ⟨v, _, ⟨T', L', k', n'⟩, -, X', ⟨L, hQ, l1, y1, z1⟩, st⟩ := Jvm.LawKit.callS X hx hown (mvT hZ w1) (mvT hZ w2) (mvT hZ w3) (mvT hZ w4) hy hK hg hsize hlen hstack hW hdg (fun _ _ => ⟨has, eT, hc, hs⟩)
  dsimp only [Pt.U, Pt.locs, Pt.cells, Pt.slots] at X' hQ l1 y1 z1 st
  subst l1 y1 z1
  exact ⟨T', v, L, _, X', rfl, hQ, st⟩
theorem own_callI (X : Stand p l e R s m args below meth c T locs cells slots) (hx : p.tables.exec = Jvm.exec) (hZ : Z.Warmed39 s.vm) {own : String} {index : Nat} {y : MethodName} (hy1 : y.name = "<init>") {bytes : ByteArray} {maxL : Nat}
    (hown : s.vm.findClass own = some m.cls) (w1 : (Jvm.Cond.methodLink own index y).before a0 Z = true) (w2 : (Jvm.Cond.instanceMethod y).before a0 Z = true) (w3 : (Jvm.Cond.code y bytes maxL none).before a0 Z = true) (hy : y.cls ≠ "java/lang/invoke/MethodHandle" ∧ y.cls ≠ "java/lang/invoke/VarHandle")
    {W kc ks : Nat} {as : Array Value} {Q : Option Value → Heap → List Loc → Prop} (hK : own_Bk l R p e below s args y 3 W as h kc ks Q) (eT : T.heap = h) (hc : cells + kc ≤ R.cells) (hs : slots + ks ≤ R.slots)
    {g : JFrame} (hg : g.method = m) (hsize : g.locals.size = c.maxLocals) {a : Addr} {argsL rest : List Value} (hlen : ∀ sig, parseMethodDescriptor y.desc = some sig → argsL.length = sig.parameters.length) (hstack : g.stack = argsL.reverse ++ .ref a :: rest) (has : (.ref a :: argsL).toArray = as) (hW : 2 * g.monitorRoom + (rest.map fun v => v.category).sum ≤ W) (hdg : decode c.code g.pc = .ok (.invokespecial index, 3)) :
    ∃ (T' : State) (v : Option Value) (L : List Loc) (h' : Heap), Stand p l e R s m args below meth c T' (locs ++ L) (cells + kc) (slots + ks) ∧ T'.heap = h' ∧ Q v h' L ∧ ∀ t, Steps p.tables e below (T'.setTop { g with pc := g.pc + 3, stack := v.toList ++ rest }) t → Steps p.tables e below (T.setTop g) t := by
  obtain ⟨v, _, ⟨T', L', k', n'⟩, -, X', ⟨L, hQ, l1, y1, z1⟩, st⟩ := X.specialBack hx hy1 hown (mvT hZ w1) (mvT hZ w2) (mvT hZ w3) hy hK hg hsize (Steps.refl _) hlen hstack hW hdg (fun _ _ => ⟨has, eT, hc, hs⟩)
  dsimp only [Pt.U, Pt.locs, Pt.cells, Pt.slots] at X' hQ l1 y1 z1 st
  subst l1 y1 z1
  exact ⟨T', v, L, _, X', rfl, hQ, fun t k => st.trans k⟩
theorem own_callV (X : Stand p l e R s m args below meth c T locs cells slots) (hx : p.tables.exec = Jvm.exec) (hZ : Z.Warmed39 s.vm) {own C : String} {index : Nat} {y z : MethodName}
    (hown : s.vm.findClass own = some m.cls) (w1 : (Jvm.Cond.methodLink own index y).before a0 Z = true) (w2 : (Jvm.Cond.declares y).before a0 Z = true) (nf : NotFace s y) (w3 : (Jvm.Cond.selects C y z).before a0 Z = true) (w4 : (Jvm.Cond.instanceMethod z).before a0 Z = true) (hy : y.cls ≠ "java/lang/invoke/MethodHandle" ∧ y.cls ≠ "java/lang/invoke/VarHandle")
    {W kc ks : Nat} {as : Array Value} {Q : Option Value → Heap → List Loc → Prop} (hK : own_Bk l R p e below s args z 3 W as h kc ks Q) (eT : T.heap = h) {b : Addr} (E : Exa Z h b C) (hc : cells + kc ≤ R.cells) (hs : slots + ks ≤ R.slots)
    {g : JFrame} (hg : g.method = m) (hsize : g.locals.size = c.maxLocals) {argsL rest : List Value} (hlen : ∀ sig, parseMethodDescriptor y.desc = some sig → argsL.length = sig.parameters.length) (hstack : g.stack = argsL.reverse ++ .ref b :: rest) (has : (.ref b :: argsL).toArray = as) (hW : 2 * g.monitorRoom + (rest.map fun v => v.category).sum ≤ W) (hdg : decode c.code g.pc = .ok (.invokevirtual index, 3)) :
    ∃ (T' : State) (v : Option Value) (L : List Loc) (h' : Heap), Stand p l e R s m args below meth c T' (locs ++ L) (cells + kc) (slots + ks) ∧ T'.heap = h' ∧ Q v h' L ∧ ∀ t, Steps p.tables e below (T'.setTop { g with pc := g.pc + 3, stack := v.toList ++ rest }) t → Steps p.tables e below (T.setTop g) t := by
  obtain ⟨cq, kq, qa, qb, qc⟩ := isOf hZ eT E
  obtain ⟨v, _, ⟨T', L', k', n'⟩, -, X', ⟨L, hQ, l1, y1, z1⟩, st⟩ := X.virtualBack hx hown (mvT hZ w1) (mvT hZ w2) nf (mvT hZ w3) (mvT hZ w4) hy hK qa qc hg hsize (Steps.refl _) hlen hstack hW hdg (fun _ _ => ⟨has, eT, hc, hs⟩)
  dsimp only [Pt.U, Pt.locs, Pt.cells, Pt.slots] at X' hQ l1 y1 z1 st
  subst l1 y1 z1
  exact ⟨T', v, L, _, X', rfl, hQ, fun t k => st.trans k⟩
theorem own_callF (X : Stand p l e R s m args below meth c T locs cells slots) (hx : p.tables.exec = Jvm.exec) (hZ : Z.Warmed39 s.vm) {own C : String} {index count : Nat} {y z : MethodName}
    (hown : s.vm.findClass own = some m.cls) (w1 : (Jvm.Cond.methodLink own index y).before a0 Z = true) (w2 : (Jvm.Cond.declares y).before a0 Z = true) (w3 : (Jvm.Cond.interfaceMethod y.cls y.cls y.name y.desc).before args s = true) (w4 : (Jvm.Cond.selects C y z).before a0 Z = true) (w5 : (Jvm.Cond.instanceMethod z).before a0 Z = true) (w6 : (Jvm.Cond.publicMethod z).before a0 Z = true) (w7 : (Jvm.Cond.unhidden C y.name y.desc).before a0 Z = true) (w8 : (Jvm.Cond.castable C y.cls).before a0 Z = true) (hy : y.cls ≠ "java/lang/invoke/MethodHandle" ∧ y.cls ≠ "java/lang/invoke/VarHandle")
    {W kc ks : Nat} {as : Array Value} {Q : Option Value → Heap → List Loc → Prop} (hK : own_Bk l R p e below s args z 5 W as h kc ks Q) (eT : T.heap = h) {b : Addr} (E : Exa Z h b C) (hc : cells + kc ≤ R.cells) (hs : slots + ks ≤ R.slots)
    {g : JFrame} (hg : g.method = m) (hsize : g.locals.size = c.maxLocals) {argsL rest : List Value} (hlen : ∀ sig, parseMethodDescriptor y.desc = some sig → argsL.length = sig.parameters.length) (hstack : g.stack = argsL.reverse ++ .ref b :: rest) (has : (.ref b :: argsL).toArray = as) (hW : 2 * g.monitorRoom + (rest.map fun v => v.category).sum ≤ W) (hdg : decode c.code g.pc = .ok (.invokeinterface index count, 5)) :
    ∃ (T' : State) (v : Option Value) (L : List Loc) (h' : Heap), Stand p l e R s m args below meth c T' (locs ++ L) (cells + kc) (slots + ks) ∧ T'.heap = h' ∧ Q v h' L ∧ ∀ t, Steps p.tables e below (T'.setTop { g with pc := g.pc + 5, stack := v.toList ++ rest }) t → Steps p.tables e below (T.setTop g) t := by
  obtain ⟨cq, kq, qa, qb, qc⟩ := isOf hZ eT E
  obtain ⟨v, _, ⟨T', L', k', n'⟩, -, X', ⟨L, hQ, l1, y1, z1⟩, st⟩ := X.interfaceBack hx hown (mvT hZ w1) (mvT hZ w2) w3 (mvT hZ w4) (mvT hZ w5) (mvT hZ w6) (mvT hZ w7) (mvT hZ w8) hy hK qa qb qc hg hsize (Steps.refl _) hlen hstack hW hdg (fun _ _ => ⟨has, eT, hc, hs⟩)
  dsimp only [Pt.U, Pt.locs, Pt.cells, Pt.slots] at X' hQ l1 y1 z1 st
  subst l1 y1 z1
  exact ⟨T', v, L, _, X', rfl, hQ, fun t k => st.trans k⟩
theorem own_ninS {x y : Nat} {L : List Nat} (q : x ≠ y) (r : x ∉ L) : x ∉ y :: L := ninS q r
theorem own_old {n0 : Nat} (O : Old Z n0 h) : n0 ≤ h.size := O.1 ▸ O.2.1
end OwnKit
end Jvm.Pilot.@@N@@
/- own kit 2: Strings of known chars -/
namespace Jvm.Pilot.@@N@@
open Jvm Jvm.ClassFile Sem Op Lib Jvm.Free Jvm.Stand Jvm.LawKit Jvm.RoadKit Bundle Jvm.Pilot.@@N@@.Jvm.D
section OwnStr
variable {p : Program} {l : Launch} {e : Env} {R : Room} {s : State} {args : Array Value} {below : List Frame} {Z : State} {a0 : Array Value} {h h' : Heap} {len W n0 : Nat}
def own_CS (Z : State) : Prop := ∃ z : Int32, Sta Z Z.heap "java/lang/String" "COMPACT_STRINGS" "Z" (.int z) ∧ ¬ z = 0
def own_Str (Z : State) (h : Heap) (x : Addr) (cs : List Int32) : Prop := Exa Z h x "java/lang/String" ∧ ∃ (t : Addr) (kb : ClassId) (cd N2 : Int32) (vs : List Value), Fld Z h x "java/lang/String" "value" "[B" (.ref t) ∧ Fld Z h x "java/lang/String" "coder" "B" (.int cd) ∧ Arv Z h t kb .byte N2 vs (.int 0) ∧ StrChars.Road.CodA cs cd N2 vs ∧ (∀ c ∈ cs, ¬ c < 0 ∧ ¬ (65535 : Int32) < c) ∧ cs.length ≤ 4000
theorem own_Str.keep {x : Addr} {cs : List Int32} (S : own_Str Z h x cs) (K : Keep h h' []) (_ : x ∉ ([] : List Addr)) : own_Str Z h' x cs := by
  obtain ⟨E, t, kb, cd, N2, vs, F1, F2, A, r⟩ := S
  exact ⟨E.keep K, t, kb, cd, N2, vs, F1.keep K nin0, F2.keep K nin0, A.keep K nin0, r⟩
theorem own_Str.lt {x : Addr} {cs : List Int32} (S : own_Str Z h x cs) : x < h.size := S.1.lt
theorem own_wNew (hw : ∀ d ∈ tables_1, d.before a0 Z = true) : ∀ d ∈ StrChars.Road.words, d.before a0 Z = true := fun d hd => hw d ((by decide +kernel : ∀ d ∈ StrChars.Road.words, d ∈ tables_1) d hd)
theorem own_up (cs : List Int32) (h : ∀ c ∈ cs, ¬ c < 0 ∧ ¬ (255 : Int32) < c) : ∀ c ∈ cs, ¬ c < 0 ∧ ¬ (65535 : Int32) < c := fun c hc => ⟨(h c hc).1, fun q => (h c hc).2 (by rw [Int32.lt_iff_toInt_lt] at q ⊢; have e1 : (65535 : Int32).toInt = 65535 := rfl; have e2 : (255 : Int32).toInt = 255 := rfl; omega)⟩
/-- new String(char[]) of known chars, each 0 to 255 -/
theorem own_nsB (hZ : Z.Warmed39 s.vm) (hw : ∀ d ∈ StrChars.Road.words, d.before a0 Z = true) {kI : Nat} (wi : (Jvm.Cond.instantiable "java/lang/String" kI).before a0 Z = true) {x b : Addr} {kC : ClassId} {cs : List Int32} {d v0 c0 : Value} {N : Int32} {n : Nat} (hx0 : n0 ≤ x) (O : Old Z n0 h) (CS : own_CS Z) (E : Exa Z h x "java/lang/String") (V : Fld Z h x "java/lang/String" "value" "[B" v0) (C : Fld Z h x "java/lang/String" "coder" "B" c0) (K : Arv Z h b kC .char N (cs.map Value.int) d)
    (hn : cs.length = n) (hN : N = Int32.ofNat n) (l0 : 0 < n) (l2 : n ≤ 4000) (hp : ∀ c ∈ cs, ¬ c < 0 ∧ ¬ (255 : Int32) < c) (hfr : 4 ≤ R.frames) (hlo : W + 65 ≤ R.locals) :
    own_Bk l R p e below s args (⟨"java/lang/String", "<init>", "([C)V"⟩ : MethodName) len W #[.ref x, .ref b] h 1 n (fun v h' L => v = none ∧ Fr n0 L ∧ Keep h h' [x] ∧ own_Str Z h' x cs) := by
  obtain ⟨z, S, hz⟩ := CS
  refine Back.mono (StrChars.Road.backV hZ hw wi hx0 (own_old O) E V C K (S.ext O.2) hz hn hN l0 l2 hp rfl hfr hlo) (fun _ _ hp => hp) (fun A a v B _ hq => ?_)
  obtain ⟨L, ⟨q1, q2, q3, q4, q5, t, kb, q6, q7, q8, q9, q10⟩, hl, hc, hs⟩ := hq
  exact ⟨L, ⟨q1, q2, q3, q4, t, kb, 0, N, _, q9, q5, q10, hN ▸ StrChars.Road.codOf hn (fun c hc => (hp c hc).2), own_up _ hp, hn ▸ l2⟩, hl, hc, hs⟩
theorem own_nar255 (x : Int32) : ¬ nar .char ((x &&& (255 : Int32)).toUInt32.toUInt16.toUInt32.toInt32) < 0 ∧ ¬ (255 : Int32) < nar .char ((x &&& (255 : Int32)).toUInt32.toUInt16.toUInt32.toInt32) := by
  have t : ∀ k : Fin 256, ¬ nar .char ((Int32.ofNat k.val).toUInt32.toUInt16.toUInt32.toInt32) < 0 ∧ ¬ (255 : Int32) < nar .char ((Int32.ofNat k.val).toUInt32.toUInt16.toUInt32.toInt32) := by decide +kernel
  have h : (x &&& 255).toBitVec.toNat < 256 := by
    simp only [Int32.toBitVec_and, BitVec.toNat_and]
    exact Nat.lt_succ_of_le Nat.and_le_right
  have e : (x &&& 255) = Int32.ofNat (x &&& 255).toBitVec.toNat := by
    apply Int32.toBitVec_inj.mp
    show _ = BitVec.ofNat 32 _
    rw [BitVec.ofNat_toNat]; simp
  rw [e]
  exact t ⟨_, h⟩
theorem own_lt {x y : Int32} : x < y ↔ x.toInt < y.toInt := Int32.lt_iff_toInt_lt
theorem own_narC {c : Int32} (h : ¬ c < 0 ∧ ¬ (65535 : Int32) < c) : nar .char c = c := by
  have q := c_i2c c
  rw [own_lt, own_lt] at h
  have e1 : (65535 : Int32).toInt = 65535 := rfl
  have e2 : (0 : Int32).toInt = 0 := rfl
  apply Int32.toInt_inj.mp
  show c.toUInt32.toUInt16.toUInt32.toInt32.toInt = c.toInt
  omega
theorem own_up1 {c : Int32} (h : ¬ c < 0 ∧ ¬ (255 : Int32) < c) : ¬ c < 0 ∧ ¬ (65535 : Int32) < c := by
  rw [own_lt, own_lt] at h ⊢
  have e1 : (65535 : Int32).toInt = 65535 := rfl
  have e2 : (255 : Int32).toInt = 255 := rfl
  omega
theorem own_narL {c : Int32} (h : ¬ c < 0 ∧ ¬ (255 : Int32) < c) : nar .char c = c := own_narC (own_up1 h)
theorem own_m255 (x : Int32) : ¬ (x &&& (255 : Int32)) < 0 ∧ ¬ (255 : Int32) < (x &&& (255 : Int32)) := by
  have q := c_and x 255 (by decide)
  rw [own_lt, own_lt]
  have e1 : (255 : Int32).toInt = 255 := rfl
  have e2 : (0 : Int32).toInt = 0 := rfl
  omega
theorem own_i2cm (x : Int32) : (x &&& (255 : Int32)).toUInt32.toUInt16.toUInt32.toInt32 = (x &&& (255 : Int32)) := own_narL (own_m255 x)
theorem own_narm (x : Int32) : nar .char ((x &&& (255 : Int32)).toUInt32.toUInt16.toUInt32.toInt32) = (x &&& (255 : Int32)) := by rw [own_i2cm]; exact own_narL (own_m255 x)
theorem own_all1 {P : Int32 → Prop} {a : Int32} (h : P a) : ∀ c ∈ [a], P c := fun c hc => by rw [List.mem_singleton.mp hc]; exact h
theorem own_allC {P : Int32 → Prop} {a : Int32} {L : List Int32} (h : P a) (r : ∀ c ∈ L, P c) : ∀ c ∈ a :: L, P c := fun c hc => by
  rcases List.mem_cons.mp hc with e | e
  · rw [e]; exact h
  · exact r c e
end OwnStr
end Jvm.Pilot.@@N@@
/- own kit 3: small naturals as ints -/
namespace Jvm.Pilot.@@N@@
open Jvm Jvm.ClassFile Sem Op Lib Jvm.Free Jvm.Stand Jvm.LawKit Jvm.RoadKit Bundle Jvm.Pilot.@@N@@.Jvm.D
section OwnNum
theorem own_ti {n : Nat} (h : n < 2147483648) : (Int32.ofNat n).toInt = n := Int32.toInt_ofNat_small h
theorem own_nlt {a b : Nat} (ha : a < 2147483648) (hb : b < 2147483648) : Int32.ofNat a < Int32.ofNat b ↔ a < b := by
  rw [Int32.lt_iff_toInt_lt, own_ti ha, own_ti hb]; omega
theorem own_nin {a b : Nat} (ha : a < 2147483648) (hb : b < 2147483648) : Int32.ofNat a = Int32.ofNat b ↔ a = b := by
  rw [← Int32.toInt_inj, own_ti ha, own_ti hb]; omega
theorem own_nsub {a b : Nat} (h : a ≤ b) (hb : b < 2147483648) : Int32.ofNat b - Int32.ofNat a = Int32.ofNat (b - a) := by
  have q := c_isub (Int32.ofNat b) (Int32.ofNat a)
  have r := rng32 (Int32.ofNat b - Int32.ofNat a)
  rw [own_ti hb, own_ti (by omega)] at q
  rw [← Int32.toInt_inj, own_ti (by omega)]; omega
theorem own_nadd {a b : Nat} (h : a + b < 2147483648) : Int32.ofNat a + Int32.ofNat b = Int32.ofNat (a + b) := by
  have q := c_iadd (Int32.ofNat a) (Int32.ofNat b)
  have r := rng32 (Int32.ofNat a + Int32.ofNat b)
  rw [own_ti (by omega), own_ti (by omega)] at q
  rw [← Int32.toInt_inj, own_ti h]; omega
theorem own_nn {a : Nat} (h : a < 2147483648) : ¬ Int32.ofNat a < 0 := by
  rw [Int32.lt_iff_toInt_lt, own_ti h]; have : (0 : Int32).toInt = 0 := rfl; omega
theorem own_tcn {a : Nat} (h : a < 2147483648) : (Int32.ofNat a).toNatClampNeg = a := by
  have q := nat_of (own_nn h)
  rw [own_ti h] at q; omega
theorem own_exN {x : Int32} (h : 0 ≤ x.toInt) : ∃ n : Nat, x = Int32.ofNat n ∧ (n : Int) = x.toInt := by
  have r := rng32 x
  refine ⟨x.toInt.toNat, ?_, by omega⟩
  rw [← Int32.toInt_inj, own_ti (by omega)]; omega
end OwnNum
end Jvm.Pilot.@@N@@
namespace Jvm.Pilot.@@N@@
open Jvm Jvm.ClassFile Sem Op Lib Jvm.Free Jvm.Stand Jvm.LawKit Jvm.RoadKit Bundle Jvm.Pilot.@@N@@.Jvm.D
section OwnStrLen
variable {p : Program} {l : Launch} {e : Env} {R : Room} {s : State} {args : Array Value} {below : List Frame} {Z : State} {a0 : Array Value} {h h' : Heap} {len W n0 : Nat}
theorem own_wLen (hw : ∀ d ∈ tables_1, d.before a0 Z = true) : ∀ d ∈ StrChars.Road.wordsLen, d.before a0 Z = true := fun d hd => hw d ((by decide +kernel : ∀ d ∈ StrChars.Road.wordsLen, d ∈ tables_1) d hd)
theorem own_lenB (hZ : Z.Warmed39 s.vm) (hw : ∀ d ∈ StrChars.Road.wordsLen, d.before a0 Z = true) {kI : Nat} (wi : (Jvm.Cond.instantiable "java/lang/String" kI).before a0 Z = true) {x : Addr} {cs : List Int32} (O : Old Z n0 h) (CS : own_CS Z) (S1 : own_Str Z h x cs) (hfr : 2 ≤ R.frames) (hlo : W + 25 ≤ R.locals) :
    own_Bk l R p e below s args (⟨"java/lang/String", "length", "()I"⟩ : MethodName) len W #[.ref x] h 0 0 (fun v h' L => v = some (.int (Int32.ofNat cs.length)) ∧ Fr n0 L ∧ h' = h) := by
  obtain ⟨z, S, hz⟩ := CS
  obtain ⟨E1, t, kb, cd, N2, vs, F1, F2, A, r1, r2, r3⟩ := S1
  refine Back.mono (StrChars.Road.lenW hZ hw wi E1 F1 F2 A r1 r2 (S.ext O.2) hz r3 hfr hlo) (fun _ _ hp => hp) (fun A a v B _ hq => ?_)
  obtain ⟨L, ⟨hc, rfl, e1⟩, hl, hk, hs⟩ := hq
  exact ⟨[], ⟨hc, Fr.nil _, e1⟩, hl, hk, hs⟩
end OwnStrLen
end Jvm.Pilot.@@N@@
namespace Jvm.Pilot.@@N@@
open Jvm Jvm.ClassFile Sem Op Lib Jvm.Free Jvm.Stand Jvm.LawKit Jvm.RoadKit Bundle Jvm.Pilot.@@N@@.Jvm.D
section OwnStrCh
variable {p : Program} {l : Launch} {e : Env} {R : Room} {s : State} {args : Array Value} {below : List Frame} {Z : State} {a0 : Array Value} {h h' : Heap} {len W n0 : Nat}
theorem own_wCh (hw : ∀ d ∈ tables_1, d.before a0 Z = true) : ∀ d ∈ StrChars.Road.wordsChN, d.before a0 Z = true := fun d hd => hw d ((by decide +kernel : ∀ d ∈ StrChars.Road.wordsChN, d ∈ tables_1) d hd)
def own_FM (Z : State) : Prop := ∃ G : Value, Sta Z Z.heap "jdk/internal/util/Preconditions" "SIOOBE_FORMATTER" "Ljava/util/function/BiFunction;" G ∧ G.isRef = true
theorem own_chB (hZ : Z.Warmed39 s.vm) (hw : ∀ d ∈ StrChars.Road.wordsChN, d.before a0 Z = true) {kI : Nat} (wi : (Jvm.Cond.instantiable "java/lang/String" kI).before a0 Z = true) {x : Addr} {cs : List Int32} {i : Nat} {j : Int32} (O : Old Z n0 h) (CS : own_CS Z) (FM : own_FM Z) (S1 : own_Str Z h x cs) (hlat : ∀ c ∈ cs, ¬ (255 : Int32) < c) (hi : i < cs.length) (hj : j = Int32.ofNat i) (hfr : 4 ≤ R.frames) (hlo : W + 53 ≤ R.locals) :
    own_Bk l R p e below s args (⟨"java/lang/String", "charAt", "(I)C"⟩ : MethodName) len W #[.ref x, .int j] h 0 0 (fun v h' L => v = some (.int (cs.getD i 0)) ∧ Fr n0 L ∧ h' = h) := by
  obtain ⟨z, S, hz⟩ := CS
  obtain ⟨G, F, rf⟩ := FM
  obtain ⟨E1, t, kb, cd, N2, vs, F1, F2, A, r1, r2, r3⟩ := S1
  have hcd : cd = 0 := by
    rcases r1 with ⟨q, -⟩ | ⟨-, -, -, c, hc, q⟩
    · exact q
    · exact absurd q (hlat c hc)
  subst hcd
  refine Back.mono (StrChars.Road.chN hZ hw wi E1 F1 F2 A r1 r2 (S.ext O.2) hz (F.ext O.2) rf r3 hi hj hfr hlo) (fun _ _ hp => hp) (fun A a v B _ hq => ?_)
  obtain ⟨L, ⟨hc, rfl, e1⟩, hl, hk, hs⟩ := hq
  exact ⟨[], ⟨hc, Fr.nil _, e1⟩, hl, hk, hs⟩
end OwnStrCh
end Jvm.Pilot.@@N@@
namespace Jvm.Pilot.@@N@@
open Jvm Jvm.ClassFile Sem Op Lib Jvm.Free Jvm.Stand Jvm.LawKit Jvm.RoadKit Bundle Jvm.Pilot.@@N@@.Jvm.D
theorem own_lm255 (y : Int64) : ¬ ((y &&& (255 : Int64)).toInt32.toUInt32.toUInt16.toUInt32.toInt32) < 0 ∧ ¬ (255 : Int32) < ((y &&& (255 : Int64)).toInt32.toUInt32.toUInt16.toUInt32.toInt32) := by
  have a := c_maskL y 255 8 (by decide) (by decide)
  have b := c_l2i (y &&& (255 : Int64))
  have c := c_i2c (y &&& (255 : Int64)).toInt32
  have r := rng32 (y &&& (255 : Int64)).toInt32
  rw [own_lt, own_lt]
  have e1 : (255 : Int32).toInt = 255 := rfl
  have e2 : (0 : Int32).toInt = 0 := rfl
  omega
theorem own_first (f : Int32) : ∃ a : Nat, 1 ≤ a ∧ a ≤ 6 ∧ ((1 : Int32) + ((f &&& (2147483647 : Int32)) % (6 : Int32))) = Int32.ofNat a := by
  have a1 := c_mask f 2147483647 31 (by decide) (by decide)
  have a2 := c_irem (f &&& (2147483647 : Int32)) 6 6 (by decide)
  have a3 := c_iadd 1 ((f &&& (2147483647 : Int32)) % (6 : Int32))
  have r := rng32 ((1 : Int32) + ((f &&& (2147483647 : Int32)) % (6 : Int32)))
  have e1 : (1 : Int32).toInt = 1 := rfl
  have a4 := a2.1 (by omega)
  obtain ⟨n, e, q⟩ := own_exN (x := (1 : Int32) + ((f &&& (2147483647 : Int32)) % (6 : Int32))) (by omega)
  exact ⟨n, by omega, by omega, e⟩
theorem own_last (l : Int32) {a : Nat} (h1 : 1 ≤ a) (h6 : a ≤ 6) : ∃ b : Nat, a ≤ b ∧ b ≤ 6 ∧ (Int32.ofNat a + ((l &&& (2147483647 : Int32)) % ((7 : Int32) - Int32.ofNat a))) = Int32.ofNat b := by
  have a1 := c_mask l 2147483647 31 (by decide) (by decide)
  have e7 : (7 : Int32) - Int32.ofNat a = Int32.ofNat (7 - a) := own_nsub (b := 7) (by omega) (by omega)
  rw [e7]
  have a2 := c_iremV (l &&& (2147483647 : Int32)) (Int32.ofNat (7 - a))
  rw [own_ti (by omega)] at a2
  have a4 := a2.1 (by omega) (by omega)
  have a3 := c_iadd (Int32.ofNat a) ((l &&& (2147483647 : Int32)) % (Int32.ofNat (7 - a)))
  rw [own_ti (by omega)] at a3
  have r := rng32 (Int32.ofNat a + ((l &&& (2147483647 : Int32)) % (Int32.ofNat (7 - a))))
  obtain ⟨n, e, q⟩ := own_exN (x := Int32.ofNat a + ((l &&& (2147483647 : Int32)) % (Int32.ofNat (7 - a)))) (by omega)
  exact ⟨n, by omega, by omega, e⟩
theorem own_nz7 {a : Nat} (h1 : 1 ≤ a) (h6 : a ≤ 6) : (7 : Int32) - Int32.ofNat a ≠ 0 := by
  have e7 : (7 : Int32) - Int32.ofNat a = Int32.ofNat (7 - a) := own_nsub (b := 7) (by omega) (by omega)
  rw [e7]
  intro q
  have := (own_nin (b := 0) (by omega) (by omega)).mp q
  omega
theorem d1_0 : decode method_2_code 0 = .ok (.lload_n 0, 1) := by decide +kernel
theorem d1_1 : decode method_2_code 1 = .ok (.bipush 8, 2) := by decide +kernel
theorem d1_3 : decode method_2_code 3 = .ok (.iload_n 2, 1) := by decide +kernel
theorem d1_4 : decode method_2_code 4 = .ok (.imul, 1) := by decide +kernel
theorem d1_5 : decode method_2_code 5 = .ok (.lushr, 1) := by decide +kernel
theorem d1_6 : decode method_2_code 6 = .ok (.ldc2_w 7, 3) := by decide +kernel
theorem d1_9 : decode method_2_code 9 = .ok (.land, 1) := by decide +kernel
theorem d1_10 : decode method_2_code 10 = .ok (.l2i, 1) := by decide +kernel
theorem d1_11 : decode method_2_code 11 = .ok (.i2c, 1) := by decide +kernel
theorem d1_12 : decode method_2_code 12 = .ok (.ireturn, 1) := by decide +kernel
theorem pn_com_example_staffetta_staffetta_FieldInPinLaw : plainName "com/example/staffetta/staffetta/FieldInPinLaw" = true := by first | (simp [plainName, overriddenIn]; done) | decide +kernel
theorem ef_chW (m : MethodId) (x0 : Int64) (x1 : Int32) : entryFrame m #[(.long x0), (.int x1)] 3 = mkF m 0 #[.val (.long x0), .second, .val (.int x1)] [] := by (first | (simp [entryFrame, mkF, argsToLocals, Value.category]; done) | rfl)
abbrev chWR : Room := { frames := 0, cells := 0, slots := 0, locals := 0 }
set_option maxRecDepth 65536 in
set_option maxHeartbeats 40000000 in
theorem chW (l : Launch) (Z : State) (a0 : Array Value) (hw : ∀ d ∈ tables_1, d.before a0 Z = true) (q1 : Int64) (p2 : Int32) (h0 : Heap) (n0 : Nat) (O0 : Old Z n0 h0)  :
    own_C l Z (⟨"com/example/staffetta/staffetta/FieldInPinLaw", "ch", "(JI)C"⟩ : MethodName) method_2_code 3 (some .char) [] chWR #[(.long q1), (.int p2)] h0 (fun v h L => Fr n0 L ∧ h = h0 ∧ ∃ c : Int32, v = some (.int c) ∧ ¬ c < 0 ∧ ¬ (255 : Int32) < c) := by
  refine own_body (plainFor_of_name pn_com_example_staffetta_staffetta_FieldInPinLaw) ?_
  intro p e s m below meth c T0 X0 hx hby hml hZ hown hnm hret hlk e0
  have N0 := Fr.nil n0
  have zO := own_old O0
  refine own_st (fun _ k => castTop (ef_chW m q1 p2) k) ?_
  show own_Go p e below s _ _ _ (T0.setTop (mkF m 0 #[.val (.long q1), .second, .val (.int p2)] []))
  refine own_st (fun _ k => XS.lloadN X0.here hx rfl (hb hby d1_0) rfl k) ?_
  show own_Go p e below s _ _ _ (T0.setTop (mkF m 1 #[.val (.long q1), .second, .val (.int p2)] [(.long q1)]))
  refine own_st (fun _ k => XS.bipush X0.here hx rfl (hb hby d1_1) k) ?_
  show own_Go p e below s _ _ _ (T0.setTop (mkF m 3 #[.val (.long q1), .second, .val (.int p2)] [(.int (8 : Int32)), (.long q1)]))
  refine own_st (fun _ k => XS.iloadN X0.here hx rfl (hb hby d1_3) rfl k) ?_
  show own_Go p e below s _ _ _ (T0.setTop (mkF m 4 #[.val (.long q1), .second, .val (.int p2)] [(.int p2), (.int (8 : Int32)), (.long q1)]))
  refine own_st (fun _ k => XS.imul X0.here hx rfl (hb hby d1_4) rfl k) ?_
  show own_Go p e below s _ _ _ (T0.setTop (mkF m 5 #[.val (.long q1), .second, .val (.int p2)] [(.int ((8 : Int32) * p2)), (.long q1)]))
  refine own_st (fun _ k => XS.lushr X0.here hx rfl (hb hby d1_5) rfl k) ?_
  show own_Go p e below s _ _ _ (T0.setTop (mkF m 6 #[.val (.long q1), .second, .val (.int p2)] [(.long ((q1.toUInt64 >>> (((8 : Int32) * p2) &&& 0x3f).toInt64.toUInt64).toInt64))]))
  refine own_st (X0.ldc2Long hx hown (mvT hZ (hw _ (List.mem_of_getElem? (i := 5) rfl))) (g := (mkF m 6 #[.val (.long q1), .second, .val (.int p2)] [(.long ((q1.toUInt64 >>> (((8 : Int32) * p2) &&& 0x3f).toInt64.toUInt64).toInt64))])) rfl (hb hby d1_6)) ?_
  show own_Go p e below s _ _ _ (T0.setTop (mkF m 9 #[.val (.long q1), .second, .val (.int p2)] [(.long (255 : Int64)), (.long ((q1.toUInt64 >>> (((8 : Int32) * p2) &&& 0x3f).toInt64.toUInt64).toInt64))]))
  refine own_st (fun _ k => XS.land X0.here hx rfl (hb hby d1_9) rfl k) ?_
  show own_Go p e below s _ _ _ (T0.setTop (mkF m 10 #[.val (.long q1), .second, .val (.int p2)] [(.long (((q1.toUInt64 >>> (((8 : Int32) * p2) &&& 0x3f).toInt64.toUInt64).toInt64) &&& (255 : Int64)))]))
  refine own_st (fun _ k => XS.l2i X0.here hx rfl (hb hby d1_10) rfl k) ?_
  show own_Go p e below s _ _ _ (T0.setTop (mkF m 11 #[.val (.long q1), .second, .val (.int p2)] [(.int ((((q1.toUInt64 >>> (((8 : Int32) * p2) &&& 0x3f).toInt64.toUInt64).toInt64) &&& (255 : Int64)).toInt32))]))
  refine own_st (fun _ k => XS.i2c X0.here hx rfl (hb hby d1_11) rfl k) ?_
  show own_Go p e below s _ _ _ (T0.setTop (mkF m 12 #[.val (.long q1), .second, .val (.int p2)] [(.int (((((q1.toUInt64 >>> (((8 : Int32) * p2) &&& 0x3f).toInt64.toUInt64).toInt64) &&& (255 : Int64)).toInt32).toUInt32.toUInt16.toUInt32.toInt32))]))
  exact own_ret X0 hx hlk e0 hret (Jvm.Free.XT.narrow_c _) (Or.inl ⟨rfl, Or.inr (Or.inr (Or.inr (Or.inl rfl))), _, rfl⟩) (hb hby d1_12) (by decide) (by decide) ⟨N0, rfl, _, rfl, own_lm255 _⟩
theorem d9_0 : decode jdk_30_method_1_code 0 = .ok (.aload_n 0, 1) := by decide +kernel
theorem d9_1 : decode jdk_30_method_1_code 1 = .ok (.invokespecial 1, 3) := by decide +kernel
theorem d9_4 : decode jdk_30_method_1_code 4 = .ok (.return_, 1) := by decide +kernel
theorem pn_java_lang_Record : plainName "java/lang/Record" = true := by first | (simp [plainName, overriddenIn]; done) | decide +kernel
theorem ef_rcI (m : MethodId) (x0 : Addr) : entryFrame m #[(.ref x0)] 1 = mkF m 0 #[.val (.ref x0)] [] := by (first | (simp [entryFrame, mkF, argsToLocals, Value.category]; done) | rfl)
abbrev rcIR : Room := { frames := 1, cells := 0, slots := 0, locals := 12 }
set_option maxRecDepth 65536 in
set_option maxHeartbeats 40000000 in
theorem rcI (l : Launch) (Z : State) (a0 : Array Value) (hw : ∀ d ∈ tables_1, d.before a0 Z = true) (a1 : Addr) (h0 : Heap) (n0 : Nat) (O0 : Old Z n0 h0)  :
    own_C l Z (⟨"java/lang/Record", "<init>", "()V"⟩ : MethodName) jdk_30_method_1_code 1 none [] rcIR #[(.ref a1)] h0 (fun v h L => v = none ∧ Fr n0 L ∧ h = h0) := by
  refine own_body (plainFor_of_name pn_java_lang_Record) ?_
  intro p e s m below meth c T0 X0 hx hby hml hZ hown hnm hret hlk e0
  have N0 := Fr.nil n0
  have zO := own_old O0
  refine own_st (fun _ k => castTop (ef_rcI m a1) k) ?_
  show own_Go p e below s _ _ _ (T0.setTop (mkF m 0 #[.val (.ref a1)] []))
  refine own_st (fun _ k => XS.aloadN X0.here hx rfl (hb hby d9_0) rfl rfl k) ?_
  show own_Go p e below s _ _ _ (T0.setTop (mkF m 1 #[.val (.ref a1)] [(.ref a1)]))
  obtain ⟨T101, X101, e101, st101⟩ := initO X0 hx hZ hown (hw _ (List.mem_of_getElem? (i := 47) rfl)) (hw _ (List.mem_of_getElem? (i := 17) rfl)) (hw _ (List.mem_of_getElem? (i := 18) rfl)) e0 (g := (mkF m 1 #[.val (.ref a1)] [(.ref a1)])) rfl (by rw [hml]; rfl) rfl (hb hby d9_1) (by decide) (W := 0) (by show 2 * 0 + _ ≤ _; exact Nat.le_of_eq rfl) (by decide)
  refine own_st st101 ?_
  show own_Go p e below s _ _ _ (T101.setTop (mkF m 4 #[.val (.ref a1)] []))
  exact own_retV X101 hx hlk e101 hret (hb hby d9_4) (by decide) (by decide) ⟨rfl, N0, rfl⟩
theorem d8_0 : decode prog_9_method_1_code 0 = .ok (.aload_n 0, 1) := by decide +kernel
theorem pd__28_29V : parseMethodDescriptor "()V" = some ⟨[], none⟩ := by decide +kernel
theorem d8_1 : decode prog_9_method_1_code 1 = .ok (.invokespecial 1, 3) := by decide +kernel
theorem d8_4 : decode prog_9_method_1_code 4 = .ok (.aload_n 0, 1) := by decide +kernel
theorem d8_5 : decode prog_9_method_1_code 5 = .ok (.iload_n 1, 1) := by decide +kernel
theorem d8_6 : decode prog_9_method_1_code 6 = .ok (.putfield 7, 3) := by decide +kernel
theorem d8_9 : decode prog_9_method_1_code 9 = .ok (.aload_n 0, 1) := by decide +kernel
theorem d8_10 : decode prog_9_method_1_code 10 = .ok (.iload_n 2, 1) := by decide +kernel
theorem d8_11 : decode prog_9_method_1_code 11 = .ok (.putfield 13, 3) := by decide +kernel
theorem d8_14 : decode prog_9_method_1_code 14 = .ok (.aload_n 0, 1) := by decide +kernel
theorem d8_15 : decode prog_9_method_1_code 15 = .ok (.iload_n 3, 1) := by decide +kernel
theorem d8_16 : decode prog_9_method_1_code 16 = .ok (.putfield 16, 3) := by decide +kernel
theorem d8_19 : decode prog_9_method_1_code 19 = .ok (.return_, 1) := by decide +kernel
theorem pn_com_example_staffetta_staffetta_ArchiveLayout_Field : plainName "com/example/staffetta/staffetta/ArchiveLayout$Field" = true := by first | (simp [plainName, overriddenIn]; done) | decide +kernel
theorem ef_fdI (m : MethodId) (x0 : Addr) (x1 : Int32) (x2 : Int32) (x3 : Int32) : entryFrame m #[(.ref x0), (.int x1), (.int x2), (.int x3)] 4 = mkF m 0 #[.val (.ref x0), .val (.int x1), .val (.int x2), .val (.int x3)] [] := by (first | (simp [entryFrame, mkF, argsToLocals, Value.category]; done) | rfl)
abbrev fdIR : Room := { frames := 2, cells := 0, slots := 0, locals := 24 }
set_option maxRecDepth 65536 in
set_option maxHeartbeats 40000000 in
theorem fdI (l : Launch) (Z : State) (a0 : Array Value) (hw : ∀ d ∈ tables_1, d.before a0 Z = true) (a1 : Addr) (p2 p3 p4 : Int32) (u1 u2 u3 : Value) (h0 : Heap) (n0 : Nat) (O0 : Old Z n0 h0) (E1 : Exa Z h0 a1 "com/example/staffetta/staffetta/ArchiveLayout$Field") (g1 : n0 ≤ a1) (F1 : Fld Z h0 a1 "com/example/staffetta/staffetta/ArchiveLayout$Field" "number" "I" u1) (F2 : Fld Z h0 a1 "com/example/staffetta/staffetta/ArchiveLayout$Field" "first" "I" u2) (F3 : Fld Z h0 a1 "com/example/staffetta/staffetta/ArchiveLayout$Field" "last" "I" u3) :
    own_C l Z (⟨"com/example/staffetta/staffetta/ArchiveLayout$Field", "<init>", "(III)V"⟩ : MethodName) prog_9_method_1_code 4 none [] fdIR #[(.ref a1), (.int p2), (.int p3), (.int p4)] h0 (fun v h L => v = none ∧ Fr n0 L ∧ Keep h0 h [a1] ∧ Exa Z h a1 "com/example/staffetta/staffetta/ArchiveLayout$Field" ∧ Fld Z h a1 "com/example/staffetta/staffetta/ArchiveLayout$Field" "first" "I" (.int p3) ∧ Fld Z h a1 "com/example/staffetta/staffetta/ArchiveLayout$Field" "last" "I" (.int p4)) := by
  refine own_body (plainFor_of_name pn_com_example_staffetta_staffetta_ArchiveLayout_Field) ?_
  intro p e s m below meth c T0 X0 hx hby hml hZ hown hnm hret hlk e0
  have N0 := Fr.nil n0
  have zO := own_old O0
  refine own_st (fun _ k => castTop (ef_fdI m a1 p2 p3 p4) k) ?_
  show own_Go p e below s _ _ _ (T0.setTop (mkF m 0 #[.val (.ref a1), .val (.int p2), .val (.int p3), .val (.int p4)] []))
  refine own_st (fun _ k => XS.aloadN X0.here hx rfl (hb hby d8_0) rfl rfl k) ?_
  show own_Go p e below s _ _ _ (T0.setTop (mkF m 1 #[.val (.ref a1), .val (.int p2), .val (.int p3), .val (.int p4)] [(.ref a1)]))
  obtain ⟨T101, v101, L101, h101, X101, e101, q101, st101⟩ := own_callI X0 hx hZ (y := (⟨"java/lang/Record", "<init>", "()V"⟩ : MethodName)) rfl hown (hw _ (List.mem_of_getElem? (i := 42) rfl)) (hw _ (List.mem_of_getElem? (i := 43) rfl)) (hw _ (List.mem_of_getElem? (i := 46) rfl)) (by decide) (own_bk (W := 0) (rcI l Z a0 hw a1 h0 n0 O0) hZ (hw _ (List.mem_of_getElem? (i := 46) rfl)) (hw _ (List.mem_of_getElem? (i := 45) rfl)) (by decide) (by decide)) e0 (by decide) (by decide) (g := (mkF m 1 #[.val (.ref a1), .val (.int p2), .val (.int p3), .val (.int p4)] [(.ref a1)])) rfl (by rw [hml]; rfl) (a := a1) (argsL := []) (rest := []) (lenOf pd__28_29V rfl) rfl rfl (by show 2 * 0 + _ ≤ _; exact Nat.le_of_eq rfl) (hb hby d8_1)
  obtain ⟨rfl, N101q, hq101⟩ := q101
  replace e101 := e101.trans hq101
  refine own_st st101 ?_
  have N101 := Fr.app N0 N101q
  show own_Go p e below s _ _ _ (T101.setTop (mkF m 4 #[.val (.ref a1), .val (.int p2), .val (.int p3), .val (.int p4)] []))
  refine own_st (fun _ k => XS.aloadN X101.here hx rfl (hb hby d8_4) rfl rfl k) ?_
  show own_Go p e below s _ _ _ (T101.setTop (mkF m 5 #[.val (.ref a1), .val (.int p2), .val (.int p3), .val (.int p4)] [(.ref a1)]))
  refine own_st (fun _ k => XS.iloadN X101.here hx rfl (hb hby d8_5) rfl k) ?_
  show own_Go p e below s _ _ _ (T101.setTop (mkF m 6 #[.val (.ref a1), .val (.int p2), .val (.int p3), .val (.int p4)] [(.int p2), (.ref a1)]))
  obtain ⟨T102, h102, X102, e102, W102, st102⟩ := putF X101 hx hZ hown (host := "") (Or.inl (hw _ (List.mem_of_getElem? (i := 48) rfl))) Via.refl e101 F1 E1 (Or.inr ⟨(hw _ (List.mem_of_getElem? (i := 49) rfl)), rfl, hnm⟩) (hw _ (List.mem_of_getElem? (i := 37) rfl)) (ty := .int) (by decide) rfl rfl (g := (mkF m 6 #[.val (.ref a1), .val (.int p2), .val (.int p3), .val (.int p4)] [(.int p2), (.ref a1)])) rfl rfl (hb hby d8_6)
  have F102 := F1.same W102
  have K102 := Keep.of_wr W102
  have N102 := Fr.snoc X102 N101 (by omega : n0 ≤ a1)
  refine own_st st102 ?_
  have zK102 := K102.1
  show own_Go p e below s _ _ _ (T102.setTop (mkF m 9 #[.val (.ref a1), .val (.int p2), .val (.int p3), .val (.int p4)] []))
  refine own_st (fun _ k => XS.aloadN X102.here hx rfl (hb hby d8_9) rfl rfl k) ?_
  show own_Go p e below s _ _ _ (T102.setTop (mkF m 10 #[.val (.ref a1), .val (.int p2), .val (.int p3), .val (.int p4)] [(.ref a1)]))
  refine own_st (fun _ k => XS.iloadN X102.here hx rfl (hb hby d8_10) rfl k) ?_
  show own_Go p e below s _ _ _ (T102.setTop (mkF m 11 #[.val (.ref a1), .val (.int p2), .val (.int p3), .val (.int p4)] [(.int p3), (.ref a1)]))
  have f103 := (F2.other W102 (Or.inr (slot_ne (Or.inr (hw _ (List.mem_of_getElem? (i := 51) rfl))) (Or.inr (hw _ (List.mem_of_getElem? (i := 49) rfl))) (by decide) (t := .int) (t' := .int) (by decide) (by decide))))
  have f104 := (E1.keep ((Keep.refl h0 [a1]).trans K102 (allS (Or.inl (by simp)) all0)))
  obtain ⟨T105, h105, X105, e105, W105, st105⟩ := putF X102 hx hZ hown (host := "") (Or.inl (hw _ (List.mem_of_getElem? (i := 50) rfl))) Via.refl e102 f103 f104 (Or.inr ⟨(hw _ (List.mem_of_getElem? (i := 51) rfl)), rfl, hnm⟩) (hw _ (List.mem_of_getElem? (i := 37) rfl)) (ty := .int) (by decide) rfl rfl (g := (mkF m 11 #[.val (.ref a1), .val (.int p2), .val (.int p3), .val (.int p4)] [(.int p3), (.ref a1)])) rfl rfl (hb hby d8_11)
  have F105 := f103.same W105
  have K105 := Keep.of_wr W105
  have N105 := Fr.snoc X105 N102 (by omega : n0 ≤ a1)
  refine own_st st105 ?_
  have zK105 := K105.1
  show own_Go p e below s _ _ _ (T105.setTop (mkF m 14 #[.val (.ref a1), .val (.int p2), .val (.int p3), .val (.int p4)] []))
  refine own_st (fun _ k => XS.aloadN X105.here hx rfl (hb hby d8_14) rfl rfl k) ?_
  show own_Go p e below s _ _ _ (T105.setTop (mkF m 15 #[.val (.ref a1), .val (.int p2), .val (.int p3), .val (.int p4)] [(.ref a1)]))
  refine own_st (fun _ k => XS.iloadN X105.here hx rfl (hb hby d8_15) rfl k) ?_
  show own_Go p e below s _ _ _ (T105.setTop (mkF m 16 #[.val (.ref a1), .val (.int p2), .val (.int p3), .val (.int p4)] [(.int p4), (.ref a1)]))
  have f106 := ((F3.other W102 (Or.inr (slot_ne (Or.inr (hw _ (List.mem_of_getElem? (i := 53) rfl))) (Or.inr (hw _ (List.mem_of_getElem? (i := 49) rfl))) (by decide) (t := .int) (t' := .int) (by decide) (by decide)))).other W105 (Or.inr (slot_ne (Or.inr (hw _ (List.mem_of_getElem? (i := 53) rfl))) (Or.inr (hw _ (List.mem_of_getElem? (i := 51) rfl))) (by decide) (t := .int) (t' := .int) (by decide) (by decide))))
  have f107 := (f104.keep ((Keep.refl h102 [a1]).trans K105 (allS (Or.inl (by simp)) all0)))
  obtain ⟨T108, h108, X108, e108, W108, st108⟩ := putF X105 hx hZ hown (host := "") (Or.inl (hw _ (List.mem_of_getElem? (i := 52) rfl))) Via.refl e105 f106 f107 (Or.inr ⟨(hw _ (List.mem_of_getElem? (i := 53) rfl)), rfl, hnm⟩) (hw _ (List.mem_of_getElem? (i := 37) rfl)) (ty := .int) (by decide) rfl rfl (g := (mkF m 16 #[.val (.ref a1), .val (.int p2), .val (.int p3), .val (.int p4)] [(.int p4), (.ref a1)])) rfl rfl (hb hby d8_16)
  have F108 := f106.same W108
  have K108 := Keep.of_wr W108
  have N108 := Fr.snoc X108 N105 (by omega : n0 ≤ a1)
  refine own_st st108 ?_
  have zK108 := K108.1
  show own_Go p e below s _ _ _ (T108.setTop (mkF m 19 #[.val (.ref a1), .val (.int p2), .val (.int p3), .val (.int p4)] []))
  have f109 := (f107.keep ((Keep.refl h105 [a1]).trans K108 (allS (Or.inl (by simp)) all0)))
  have f110 := (F105.other W108 (Or.inr (slot_ne (Or.inr (hw _ (List.mem_of_getElem? (i := 51) rfl))) (Or.inr (hw _ (List.mem_of_getElem? (i := 53) rfl))) (by decide) (t := .int) (t' := .int) (by decide) (by decide))))
  exact own_retV X108 hx hlk e108 hret (hb hby d8_19) (by decide) (by decide) ⟨rfl, N108, ((((Keep.refl h0 [a1]).trans K102 (allS (Or.inl (by simp)) all0)).trans K105 (allS (Or.inl (by simp)) all0)).trans K108 (allS (Or.inl (by simp)) all0)), f109, f110, F108⟩
theorem d21_0 : decode jdk_29_method_69_code 0 = .ok (.iload_n 0, 1) := by decide +kernel
theorem d21_1 : decode jdk_29_method_69_code 1 = .ok (.iload_n 1, 1) := by decide +kernel
theorem d21_2 : decode jdk_29_method_69_code 2 = .ok (.if_icmp .gt 7, 3) := by decide +kernel
theorem d21_9 : decode jdk_29_method_69_code 9 = .ok (.iload_n 1, 1) := by decide +kernel
theorem d21_10 : decode jdk_29_method_69_code 10 = .ok (.ireturn, 1) := by decide +kernel
theorem d21_5 : decode jdk_29_method_69_code 5 = .ok (.iload_n 0, 1) := by decide +kernel
theorem d21_6 : decode jdk_29_method_69_code 6 = .ok (.goto 4, 3) := by decide +kernel
theorem ef_mnW (m : MethodId) (x0 : Int32) (x1 : Int32) : entryFrame m #[(.int x0), (.int x1)] 2 = mkF m 0 #[.val (.int x0), .val (.int x1)] [] := by (first | (simp [entryFrame, mkF, argsToLocals, Value.category]; done) | rfl)
abbrev mnWR : Room := { frames := 0, cells := 0, slots := 0, locals := 0 }
set_option maxRecDepth 65536 in
set_option maxHeartbeats 40000000 in
theorem mnW (l : Launch) (Z : State) (a0 : Array Value) (hw : ∀ d ∈ tables_1, d.before a0 Z = true) (p1 p2 : Int32) (h0 : Heap) (n0 : Nat) (O0 : Old Z n0 h0)  :
    own_C l Z (⟨"java/lang/Math", "min", "(II)I"⟩ : MethodName) jdk_29_method_69_code 2 (some .int) [] mnWR #[(.int p1), (.int p2)] h0 (fun v h L => v = some (.int (if p2 < p1 then p2 else p1)) ∧ Fr n0 L ∧ h = h0) := by
  refine own_body (Jvm.Free.JP.mathPlain rfl (by decide +kernel)) ?_
  intro p e s m below meth c T0 X0 hx hby hml hZ hown hnm hret hlk e0
  have N0 := Fr.nil n0
  have zO := own_old O0
  refine own_st (fun _ k => castTop (ef_mnW m p1 p2) k) ?_
  show own_Go p e below s _ _ _ (T0.setTop (mkF m 0 #[.val (.int p1), .val (.int p2)] []))
  refine own_st (fun _ k => XS.iloadN X0.here hx rfl (hb hby d21_0) rfl k) ?_
  show own_Go p e below s _ _ _ (T0.setTop (mkF m 1 #[.val (.int p1), .val (.int p2)] [(.int p1)]))
  refine own_st (fun _ k => XS.iloadN X0.here hx rfl (hb hby d21_1) rfl k) ?_
  show own_Go p e below s _ _ _ (T0.setTop (mkF m 2 #[.val (.int p1), .val (.int p2)] [(.int p2), (.int p1)]))
  by_cases c101 : p2 < p1
  · refine own_st (fun _ k => XS.icmpYes X0.here hx rfl (pc0 := 2) (pc' := 9) rfl (hb hby d21_2) rfl (tlt c101).2.2.1 (by decide) (by decide) k) ?_
    show own_Go p e below s _ _ _ (T0.setTop (mkF m 9 #[.val (.int p1), .val (.int p2)] []))
    refine own_st (fun _ k => XS.iloadN X0.here hx rfl (hb hby d21_9) rfl k) ?_
    show own_Go p e below s _ _ _ (T0.setTop (mkF m 10 #[.val (.int p1), .val (.int p2)] [(.int p2)]))
    exact own_ret X0 hx hlk e0 hret rfl (Or.inl ⟨rfl, Or.inl rfl, _, rfl⟩) (hb hby d21_10) (by decide) (by decide) ⟨by rw [if_pos c101], N0, rfl⟩
  · refine own_st (fun _ k => XS.icmpNo X0.here hx rfl (hb hby d21_2) rfl (flt c101).2.2.1 k) ?_
    show own_Go p e below s _ _ _ (T0.setTop (mkF m 5 #[.val (.int p1), .val (.int p2)] []))
    refine own_st (fun _ k => XS.iloadN X0.here hx rfl (hb hby d21_5) rfl k) ?_
    show own_Go p e below s _ _ _ (T0.setTop (mkF m 6 #[.val (.int p1), .val (.int p2)] [(.int p1)]))
    refine own_st (fun _ k => XS.goto X0.here hx rfl (pc0 := 6) (pc' := 10) rfl (hb hby d21_6) (by decide) (by decide) k) ?_
    show own_Go p e below s _ _ _ (T0.setTop (mkF m 10 #[.val (.int p1), .val (.int p2)] [(.int p1)]))
    exact own_ret X0 hx hlk e0 hret rfl (Or.inl ⟨rfl, Or.inl rfl, _, rfl⟩) (hb hby d21_10) (by decide) (by decide) ⟨by rw [if_neg c101], N0, rfl⟩
theorem d20_0 : decode jdk_65_method_131_code 0 = .ok (.iload_n 1, 1) := by decide +kernel
theorem d20_1 : decode jdk_65_method_131_code 1 = .ok (.iload_n 0, 1) := by decide +kernel
theorem d20_2 : decode jdk_65_method_131_code 2 = .ok (.if_icmp .ge 35, 3) := by decide +kernel
theorem d20_37 : decode jdk_65_method_131_code 37 = .ok (.return_, 1) := by decide +kernel
theorem pn_java_util_Arrays : plainName "java/util/Arrays" = true := by first | (simp [plainName, overriddenIn]; done) | decide +kernel
theorem ef_clW (m : MethodId) (x0 : Int32) (x1 : Int32) : entryFrame m #[(.int x0), (.int x1)] 2 = mkF m 0 #[.val (.int x0), .val (.int x1)] [] := by (first | (simp [entryFrame, mkF, argsToLocals, Value.category]; done) | rfl)
abbrev clWR : Room := { frames := 0, cells := 0, slots := 0, locals := 0 }
set_option maxRecDepth 65536 in
set_option maxHeartbeats 40000000 in
theorem clW (l : Launch) (Z : State) (a0 : Array Value) (hw : ∀ d ∈ tables_1, d.before a0 Z = true) (p1 p2 : Int32) (h0 : Heap) (n0 : Nat) (O0 : Old Z n0 h0) (hle : ¬ p2 < p1) :
    own_C l Z (⟨"java/util/Arrays", "checkLength", "(II)V"⟩ : MethodName) jdk_65_method_131_code 2 none [] clWR #[(.int p1), (.int p2)] h0 (fun v h L => v = none ∧ Fr n0 L ∧ h = h0) := by
  refine own_body (plainFor_of_name pn_java_util_Arrays) ?_
  intro p e s m below meth c T0 X0 hx hby hml hZ hown hnm hret hlk e0
  have N0 := Fr.nil n0
  have zO := own_old O0
  refine own_st (fun _ k => castTop (ef_clW m p1 p2) k) ?_
  show own_Go p e below s _ _ _ (T0.setTop (mkF m 0 #[.val (.int p1), .val (.int p2)] []))
  refine own_st (fun _ k => XS.iloadN X0.here hx rfl (hb hby d20_0) rfl k) ?_
  show own_Go p e below s _ _ _ (T0.setTop (mkF m 1 #[.val (.int p1), .val (.int p2)] [(.int p2)]))
  refine own_st (fun _ k => XS.iloadN X0.here hx rfl (hb hby d20_1) rfl k) ?_
  show own_Go p e below s _ _ _ (T0.setTop (mkF m 2 #[.val (.int p1), .val (.int p2)] [(.int p1), (.int p2)]))
  refine own_st (fun _ k => XS.icmpYes X0.here hx rfl (pc0 := 2) (pc' := 37) rfl (hb hby d20_2) rfl (flt hle).2.1 (by decide) (by decide) k) ?_
  show own_Go p e below s _ _ _ (T0.setTop (mkF m 37 #[.val (.int p1), .val (.int p2)] []))
  exact own_retV X0 hx hlk e0 hret (hb hby d20_37) (by decide) (by decide) ⟨rfl, N0, rfl⟩
theorem d15_0 : decode jdk_41_method_12_code 0 = .ok (.iload_n 0, 1) := by decide +kernel
theorem d15_1 : decode jdk_41_method_12_code 1 = .ok (.ifCond .lt 13, 3) := by decide +kernel
theorem d15_4 : decode jdk_41_method_12_code 4 = .ok (.iload_n 0, 1) := by decide +kernel
theorem d15_5 : decode jdk_41_method_12_code 5 = .ok (.iload_n 1, 1) := by decide +kernel
theorem d15_6 : decode jdk_41_method_12_code 6 = .ok (.if_icmp .gt 8, 3) := by decide +kernel
theorem d15_9 : decode jdk_41_method_12_code 9 = .ok (.iload_n 1, 1) := by decide +kernel
theorem d15_10 : decode jdk_41_method_12_code 10 = .ok (.iload_n 2, 1) := by decide +kernel
theorem d15_11 : decode jdk_41_method_12_code 11 = .ok (.if_icmp .le 11, 3) := by decide +kernel
theorem d15_22 : decode jdk_41_method_12_code 22 = .ok (.iload_n 0, 1) := by decide +kernel
theorem d15_23 : decode jdk_41_method_12_code 23 = .ok (.ireturn, 1) := by decide +kernel
theorem pn_jdk_internal_util_Preconditions : plainName "jdk/internal/util/Preconditions" = true := by first | (simp [plainName, overriddenIn]; done) | decide +kernel
theorem ef_cfW (m : MethodId) (x0 : Int32) (x1 : Int32) (x2 : Int32) (x3 : Value) (hx3 : x3.isRef = true) : entryFrame m #[(.int x0), (.int x1), (.int x2), x3] 4 = mkF m 0 #[.val (.int x0), .val (.int x1), .val (.int x2), .val x3] [] := by rcases ref_cases hx3 with rfl | ⟨_, rfl⟩ <;> (first | (simp [entryFrame, mkF, argsToLocals, Value.category]; done) | rfl)
abbrev cfWR : Room := { frames := 0, cells := 0, slots := 0, locals := 0 }
set_option maxRecDepth 65536 in
set_option maxHeartbeats 40000000 in
theorem cfW (l : Launch) (Z : State) (a0 : Array Value) (hw : ∀ d ∈ tables_1, d.before a0 Z = true) (p1 p2 p3 : Int32) (G : Value) (h0 : Heap) (n0 : Nat) (O0 : Old Z n0 h0) (hG : G.isRef = true) (h1 : ¬ p1 < 0) (h2 : ¬ p2 < p1) (h3 : ¬ p3 < p2) :
    own_C l Z (⟨"jdk/internal/util/Preconditions", "checkFromToIndex", "(IIILjava/util/function/BiFunction;)I"⟩ : MethodName) jdk_41_method_12_code 4 (some .int) [] cfWR #[(.int p1), (.int p2), (.int p3), G] h0 (fun v h L => v = some (.int p1) ∧ Fr n0 L ∧ h = h0) := by
  refine own_body (plainFor_of_name pn_jdk_internal_util_Preconditions) ?_
  intro p e s m below meth c T0 X0 hx hby hml hZ hown hnm hret hlk e0
  have N0 := Fr.nil n0
  have zO := own_old O0
  refine own_st (fun _ k => castTop (ef_cfW m p1 p2 p3 G hG) k) ?_
  show own_Go p e below s _ _ _ (T0.setTop (mkF m 0 #[.val (.int p1), .val (.int p2), .val (.int p3), .val G] []))
  refine own_st (fun _ k => XS.iloadN X0.here hx rfl (hb hby d15_0) rfl k) ?_
  show own_Go p e below s _ _ _ (T0.setTop (mkF m 1 #[.val (.int p1), .val (.int p2), .val (.int p3), .val G] [(.int p1)]))
  refine own_st (fun _ k => XS.ifNo X0.here hx rfl (hb hby d15_1) rfl ((if0 _ _).trans (flt h1).1) k) ?_
  show own_Go p e below s _ _ _ (T0.setTop (mkF m 4 #[.val (.int p1), .val (.int p2), .val (.int p3), .val G] []))
  refine own_st (fun _ k => XS.iloadN X0.here hx rfl (hb hby d15_4) rfl k) ?_
  show own_Go p e below s _ _ _ (T0.setTop (mkF m 5 #[.val (.int p1), .val (.int p2), .val (.int p3), .val G] [(.int p1)]))
  refine own_st (fun _ k => XS.iloadN X0.here hx rfl (hb hby d15_5) rfl k) ?_
  show own_Go p e below s _ _ _ (T0.setTop (mkF m 6 #[.val (.int p1), .val (.int p2), .val (.int p3), .val G] [(.int p2), (.int p1)]))
  refine own_st (fun _ k => XS.icmpNo X0.here hx rfl (hb hby d15_6) rfl (flt h2).2.2.1 k) ?_
  show own_Go p e below s _ _ _ (T0.setTop (mkF m 9 #[.val (.int p1), .val (.int p2), .val (.int p3), .val G] []))
  refine own_st (fun _ k => XS.iloadN X0.here hx rfl (hb hby d15_9) rfl k) ?_
  show own_Go p e below s _ _ _ (T0.setTop (mkF m 10 #[.val (.int p1), .val (.int p2), .val (.int p3), .val G] [(.int p2)]))
  refine own_st (fun _ k => XS.iloadN X0.here hx rfl (hb hby d15_10) rfl k) ?_
  show own_Go p e below s _ _ _ (T0.setTop (mkF m 11 #[.val (.int p1), .val (.int p2), .val (.int p3), .val G] [(.int p3), (.int p2)]))
  refine own_st (fun _ k => XS.icmpYes X0.here hx rfl (pc0 := 11) (pc' := 22) rfl (hb hby d15_11) rfl (flt h3).2.2.2 (by decide) (by decide) k) ?_
  show own_Go p e below s _ _ _ (T0.setTop (mkF m 22 #[.val (.int p1), .val (.int p2), .val (.int p3), .val G] []))
  refine own_st (fun _ k => XS.iloadN X0.here hx rfl (hb hby d15_22) rfl k) ?_
  show own_Go p e below s _ _ _ (T0.setTop (mkF m 23 #[.val (.int p1), .val (.int p2), .val (.int p3), .val G] [(.int p1)]))
  exact own_ret X0 hx hlk e0 hret rfl (Or.inl ⟨rfl, Or.inl rfl, _, rfl⟩) (hb hby d15_23) (by decide) (by decide) ⟨rfl, N0, rfl⟩
theorem d14_0 : decode jdk_42_method_158_code 0 = .ok (.iload_n 0, 1) := by decide +kernel
theorem d14_1 : decode jdk_42_method_158_code 1 = .ok (.iload_n 1, 1) := by decide +kernel
theorem d14_2 : decode jdk_42_method_158_code 2 = .ok (.iload_n 2, 1) := by decide +kernel
theorem d14_3 : decode jdk_42_method_158_code 3 = .ok (.getstatic 1053, 3) := by decide +kernel
theorem pd__28IIILjava_2futil_2ffunction_2fBiFunction_3b_29I : parseMethodDescriptor "(IIILjava/util/function/BiFunction;)I" = some ⟨[.int, .int, .int, (.object "java/util/function/BiFunction")], some .int⟩ := by decide +kernel
theorem d14_6 : decode jdk_42_method_158_code 6 = .ok (.invokestatic 1062, 3) := by decide +kernel
theorem d14_9 : decode jdk_42_method_158_code 9 = .ok (.pop, 1) := by decide +kernel
theorem d14_10 : decode jdk_42_method_158_code 10 = .ok (.return_, 1) := by decide +kernel
theorem pn_java_lang_String : plainName "java/lang/String" = true := by first | (simp [plainName, overriddenIn]; done) | decide +kernel
theorem ef_cbW (m : MethodId) (x0 : Int32) (x1 : Int32) (x2 : Int32) : entryFrame m #[(.int x0), (.int x1), (.int x2)] 3 = mkF m 0 #[.val (.int x0), .val (.int x1), .val (.int x2)] [] := by (first | (simp [entryFrame, mkF, argsToLocals, Value.category]; done) | rfl)
abbrev cbWR : Room := { frames := 1, cells := 0, slots := 0, locals := 15 }
set_option maxRecDepth 65536 in
set_option maxHeartbeats 40000000 in
theorem cbW (l : Launch) (Z : State) (a0 : Array Value) (hw : ∀ d ∈ tables_1, d.before a0 Z = true) (p1 p2 p3 : Int32) (h0 : Heap) (n0 : Nat) (O0 : Old Z n0 h0) (FM : own_FM Z) (h1 : ¬ p1 < 0) (h2 : ¬ p2 < p1) (h3 : ¬ p3 < p2) :
    own_C l Z (⟨"java/lang/String", "checkBoundsBeginEnd", "(III)V"⟩ : MethodName) jdk_42_method_158_code 3 none [] cbWR #[(.int p1), (.int p2), (.int p3)] h0 (fun v h L => v = none ∧ Fr n0 L ∧ h = h0) := by
  refine own_body (plainFor_of_name pn_java_lang_String) ?_
  intro p e s m below meth c T0 X0 hx hby hml hZ hown hnm hret hlk e0
  have N0 := Fr.nil n0
  have zO := own_old O0
  obtain ⟨G, Sg, hG⟩ := id FM
  refine own_st (fun _ k => castTop (ef_cbW m p1 p2 p3) k) ?_
  show own_Go p e below s _ _ _ (T0.setTop (mkF m 0 #[.val (.int p1), .val (.int p2), .val (.int p3)] []))
  refine own_st (fun _ k => XS.iloadN X0.here hx rfl (hb hby d14_0) rfl k) ?_
  show own_Go p e below s _ _ _ (T0.setTop (mkF m 1 #[.val (.int p1), .val (.int p2), .val (.int p3)] [(.int p1)]))
  refine own_st (fun _ k => XS.iloadN X0.here hx rfl (hb hby d14_1) rfl k) ?_
  show own_Go p e below s _ _ _ (T0.setTop (mkF m 2 #[.val (.int p1), .val (.int p2), .val (.int p3)] [(.int p2), (.int p1)]))
  refine own_st (fun _ k => XS.iloadN X0.here hx rfl (hb hby d14_2) rfl k) ?_
  show own_Go p e below s _ _ _ (T0.setTop (mkF m 3 #[.val (.int p1), .val (.int p2), .val (.int p3)] [(.int p3), (.int p2), (.int p1)]))
  obtain ⟨T101, X101, e101, st101⟩ := getS2 X0 hx hZ hown (host := "") (Or.inl (hw _ (List.mem_of_getElem? (i := 77) rfl))) Via.refl e0 (Sg.ext O0.2) (g := (mkF m 3 #[.val (.int p1), .val (.int p2), .val (.int p3)] [(.int p3), (.int p2), (.int p1)])) rfl (hb hby d14_3)
  refine own_st st101 ?_
  show own_Go p e below s _ _ _ (T101.setTop (mkF m 6 #[.val (.int p1), .val (.int p2), .val (.int p3)] [G, (.int p3), (.int p2), (.int p1)]))
  obtain ⟨T102, v102, L102, h102, X102, e102, q102, st102⟩ := own_callS X101 hx hZ (y := (⟨"jdk/internal/util/Preconditions", "checkFromToIndex", "(IIILjava/util/function/BiFunction;)I"⟩ : MethodName)) hown (hw _ (List.mem_of_getElem? (i := 79) rfl)) (hw _ (List.mem_of_getElem? (i := 80) rfl)) (hw _ (List.mem_of_getElem? (i := 78) rfl)) (hw _ (List.mem_of_getElem? (i := 81) rfl)) (by decide) (own_bk (W := 0) (cfW l Z a0 hw p1 p2 p3 G h0 n0 O0 hG h1 h2 h3) hZ (hw _ (List.mem_of_getElem? (i := 81) rfl)) (hw _ (List.mem_of_getElem? (i := 78) rfl)) (by decide) (by decide)) e101 (by decide) (by decide) (g := (mkF m 6 #[.val (.int p1), .val (.int p2), .val (.int p3)] [G, (.int p3), (.int p2), (.int p1)])) rfl (by rw [hml]; rfl) (argsL := [(.int p1), (.int p2), (.int p3), G]) (rest := []) (lenOf pd__28IIILjava_2futil_2ffunction_2fBiFunction_3b_29I rfl) rfl rfl (by show 2 * 0 + _ ≤ _; exact Nat.le_of_eq rfl) (hb hby d14_6)
  obtain ⟨rfl, N102q, hq102⟩ := q102
  replace e102 := e102.trans hq102
  refine own_st st102 ?_
  have N102 := Fr.app N0 N102q
  show own_Go p e below s _ _ _ (T102.setTop (mkF m 9 #[.val (.int p1), .val (.int p2), .val (.int p3)] [(.int p1)]))
  refine own_st (fun _ k => XS.pop X102.here hx rfl (hb hby d14_9) rfl rfl k) ?_
  show own_Go p e below s _ _ _ (T102.setTop (mkF m 10 #[.val (.int p1), .val (.int p2), .val (.int p3)] []))
  exact own_retV X102 hx hlk e102 hret (hb hby d14_10) (by decide) (by decide) ⟨rfl, N102, rfl⟩
theorem d16_0 : decode jdk_42_method_154_code 0 = .ok (.getstatic 38, 3) := by decide +kernel
theorem d16_3 : decode jdk_42_method_154_code 3 = .ok (.ifCond .eq 14, 3) := by decide +kernel
theorem d16_6 : decode jdk_42_method_154_code 6 = .ok (.aload_n 0, 1) := by decide +kernel
theorem d16_7 : decode jdk_42_method_154_code 7 = .ok (.getfield 15, 3) := by decide +kernel
theorem d16_10 : decode jdk_42_method_154_code 10 = .ok (.ifCond .ne 7, 3) := by decide +kernel
theorem d16_13 : decode jdk_42_method_154_code 13 = .ok (.iconst 1, 1) := by decide +kernel
theorem d16_14 : decode jdk_42_method_154_code 14 = .ok (.goto 4, 3) := by decide +kernel
theorem d16_18 : decode jdk_42_method_154_code 18 = .ok (.ireturn, 1) := by decide +kernel
theorem ef_ilW (m : MethodId) (x0 : Addr) : entryFrame m #[(.ref x0)] 1 = mkF m 0 #[.val (.ref x0)] [] := by (first | (simp [entryFrame, mkF, argsToLocals, Value.category]; done) | rfl)
abbrev ilWR : Room := { frames := 0, cells := 0, slots := 0, locals := 0 }
set_option maxRecDepth 65536 in
set_option maxHeartbeats 40000000 in
theorem ilW (l : Launch) (Z : State) (a0 : Array Value) (hw : ∀ d ∈ tables_1, d.before a0 Z = true) (a1 : Addr) (h0 : Heap) (n0 : Nat) (O0 : Old Z n0 h0) (CS : own_CS Z) (F1 : Fld Z h0 a1 "java/lang/String" "coder" "B" (.int 0)) :
    own_C l Z (⟨"java/lang/String", "isLatin1", "()Z"⟩ : MethodName) jdk_42_method_154_code 1 (some .boolean) [] ilWR #[(.ref a1)] h0 (fun v h L => v = some (.int 1) ∧ Fr n0 L ∧ h = h0) := by
  refine own_body (plainFor_of_name pn_java_lang_String) ?_
  intro p e s m below meth c T0 X0 hx hby hml hZ hown hnm hret hlk e0
  have N0 := Fr.nil n0
  have zO := own_old O0
  obtain ⟨zc, Sc, hzc⟩ := id CS
  refine own_st (fun _ k => castTop (ef_ilW m a1) k) ?_
  show own_Go p e below s _ _ _ (T0.setTop (mkF m 0 #[.val (.ref a1)] []))
  obtain ⟨T101, X101, e101, st101⟩ := getS2 X0 hx hZ hown (host := "") (Or.inl (hw _ (List.mem_of_getElem? (i := 19) rfl))) Via.refl e0 (Sc.ext O0.2) (g := (mkF m 0 #[.val (.ref a1)] [])) rfl (hb hby d16_0)
  refine own_st st101 ?_
  show own_Go p e below s _ _ _ (T101.setTop (mkF m 3 #[.val (.ref a1)] [(.int zc)]))
  refine own_st (fun _ k => XS.ifNo X101.here hx rfl (hb hby d16_3) rfl ((if0 _ _).trans (feq hzc).1) k) ?_
  show own_Go p e below s _ _ _ (T101.setTop (mkF m 6 #[.val (.ref a1)] []))
  refine own_st (fun _ k => XS.aloadN X101.here hx rfl (hb hby d16_6) rfl rfl k) ?_
  show own_Go p e below s _ _ _ (T101.setTop (mkF m 7 #[.val (.ref a1)] [(.ref a1)]))
  obtain ⟨T102, X102, e102, st102⟩ := getF X101 hx hZ hown (host := "") (Or.inl (hw _ (List.mem_of_getElem? (i := 31) rfl))) Via.refl e101 F1 (g := (mkF m 7 #[.val (.ref a1)] [(.ref a1)])) rfl rfl (hb hby d16_7)
  refine own_st st102 ?_
  show own_Go p e below s _ _ _ (T102.setTop (mkF m 10 #[.val (.ref a1)] [(.int (0 : Int32))]))
  refine own_st (fun _ k => XS.ifNo X102.here hx rfl (hb hby d16_10) rfl ((if0 _ _).trans (teq (by decide)).2) k) ?_
  show own_Go p e below s _ _ _ (T102.setTop (mkF m 13 #[.val (.ref a1)] []))
  refine own_st (fun _ k => XS.iconst X102.here hx rfl (hb hby d16_13) k) ?_
  show own_Go p e below s _ _ _ (T102.setTop (mkF m 14 #[.val (.ref a1)] [(.int (1 : Int32))]))
  refine own_st (fun _ k => XS.goto X102.here hx rfl (pc0 := 14) (pc' := 18) rfl (hb hby d16_14) (by decide) (by decide) k) ?_
  show own_Go p e below s _ _ _ (T102.setTop (mkF m 18 #[.val (.ref a1)] [(.int (1 : Int32))]))
  exact own_ret X102 hx hlk e102 hret (by decide) (Or.inl ⟨rfl, Or.inr (Or.inl rfl), _, rfl⟩) (hb hby d16_18) (by decide) (by decide) ⟨rfl, N0, rfl⟩
theorem own_cpy {vs : List Value} {dv : Value} {i j m : Nat} (hi : i ≤ j) (hj : j ≤ vs.length) : ∀ x, ((vs.drop i).take (j - i)).getD x (Value.int 0) = ((List.replicate m (Value.int 0)).take 0 ++ (List.range (j - i)).map (fun y => vs.getD (i + y) dv) ++ (List.replicate m (Value.int 0)).drop (0 + (j - i))).getD x (Value.int 0) := by
  intro x
  simp only [List.take_zero, List.nil_append]
  by_cases h : x < j - i
  · have h1 : i + x < vs.length := by omega
    simp [List.getD_eq_getElem?_getD, List.getElem?_append, h, List.getElem?_take, List.getElem?_drop, h1]
  · simp only [List.getD_eq_getElem?_getD, List.getElem?_append, List.length_map, List.length_range, h, if_false, List.getElem?_take, List.getElem?_drop, List.drop_replicate, List.getElem?_replicate]
    split <;> rfl
theorem own_mapdt {vs : List Int32} {f : Int32 → Value} {i n : Nat} : ((vs.map f).drop i).take n = ((vs.drop i).take n).map f := by rw [← List.map_drop, ← List.map_take]
theorem own_memdt {α : Type} {vs : List α} {i n : Nat} {c : α} (h : c ∈ (vs.drop i).take n) : c ∈ vs := List.mem_of_mem_drop (List.mem_of_mem_take h)
theorem d19_0 : decode jdk_65_method_133_code 0 = .ok (.iload_n 1, 1) := by decide +kernel
theorem d19_1 : decode jdk_65_method_133_code 1 = .ok (.iload_n 2, 1) := by decide +kernel
theorem pd__28II_29V : parseMethodDescriptor "(II)V" = some ⟨[.int, .int], none⟩ := by decide +kernel
theorem d19_2 : decode jdk_65_method_133_code 2 = .ok (.invokestatic 343, 3) := by decide +kernel
theorem d19_5 : decode jdk_65_method_133_code 5 = .ok (.iload_n 2, 1) := by decide +kernel
theorem d19_6 : decode jdk_65_method_133_code 6 = .ok (.iload_n 1, 1) := by decide +kernel
theorem d19_7 : decode jdk_65_method_133_code 7 = .ok (.isub, 1) := by decide +kernel
theorem d19_8 : decode jdk_65_method_133_code 8 = .ok (.istore_n 3, 1) := by decide +kernel
theorem d19_9 : decode jdk_65_method_133_code 9 = .ok (.iload_n 3, 1) := by decide +kernel
theorem d19_10 : decode jdk_65_method_133_code 10 = .ok (.newarray .byte, 2) := by decide +kernel
theorem d19_12 : decode jdk_65_method_133_code 12 = .ok (.astore 4, 2) := by decide +kernel
theorem d19_14 : decode jdk_65_method_133_code 14 = .ok (.aload_n 0, 1) := by decide +kernel
theorem d19_15 : decode jdk_65_method_133_code 15 = .ok (.iload_n 1, 1) := by decide +kernel
theorem d19_16 : decode jdk_65_method_133_code 16 = .ok (.aload 4, 2) := by decide +kernel
theorem d19_18 : decode jdk_65_method_133_code 18 = .ok (.iconst 0, 1) := by decide +kernel
theorem d19_19 : decode jdk_65_method_133_code 19 = .ok (.aload_n 0, 1) := by decide +kernel
theorem d19_20 : decode jdk_65_method_133_code 20 = .ok (.arraylength, 1) := by decide +kernel
theorem d19_21 : decode jdk_65_method_133_code 21 = .ok (.iload_n 1, 1) := by decide +kernel
theorem d19_22 : decode jdk_65_method_133_code 22 = .ok (.isub, 1) := by decide +kernel
theorem d19_23 : decode jdk_65_method_133_code 23 = .ok (.iload_n 3, 1) := by decide +kernel
theorem pd__28II_29I : parseMethodDescriptor "(II)I" = some ⟨[.int, .int], some .int⟩ := by decide +kernel
theorem d19_24 : decode jdk_65_method_133_code 24 = .ok (.invokestatic 304, 3) := by decide +kernel
theorem d19_27 : decode jdk_65_method_133_code 27 = .ok (.invokestatic 150, 3) := by decide +kernel
theorem d19_30 : decode jdk_65_method_133_code 30 = .ok (.aload 4, 2) := by decide +kernel
theorem d19_32 : decode jdk_65_method_133_code 32 = .ok (.areturn, 1) := by decide +kernel
theorem ef_crB (m : MethodId) (x0 : Addr) (x1 : Int32) (x2 : Int32) : entryFrame m #[(.ref x0), (.int x1), (.int x2)] 5 = mkF m 0 #[.val (.ref x0), .val (.int x1), .val (.int x2), .unset, .unset] [] := by (first | (simp [entryFrame, mkF, argsToLocals, Value.category]; done) | rfl)
abbrev crBR : Room := { frames := 1, cells := 1, slots := 6, locals := 40 }
set_option maxRecDepth 65536 in
set_option maxHeartbeats 40000000 in
theorem crB (l : Launch) (Z : State) (a0 : Array Value) (hw : ∀ d ∈ tables_1, d.before a0 Z = true) (a1 : Addr) (k1 : ClassId) (vs : List Value) (i j k : Nat) (h0 : Heap) (n0 : Nat) (O0 : Old Z n0 h0) (hi : i ≤ j) (hj : j ≤ k) (hk : k ≤ 6) (hv : vs.length = k) (V1 : Arv Z h0 a1 k1 .byte (Int32.ofNat k) vs (.int 0)) :
    own_C l Z (⟨"java/util/Arrays", "copyOfRangeByte", "([BII)[B"⟩ : MethodName) jdk_65_method_133_code 5 (some (.array .byte)) [] crBR #[(.ref a1), (.int (Int32.ofNat i)), (.int (Int32.ofNat j))] h0 (fun v h L => Fr n0 L ∧ ∃ (b : Nat) (kb : ClassId), v = some (.ref b) ∧ Keep h0 h [] ∧ h0.size ≤ b ∧ b < h.size ∧ Arv Z h b kb .byte (Int32.ofNat (j - i)) ((vs.drop i).take (j - i)) (.int 0)) := by
  refine own_body (plainFor_of_name pn_java_util_Arrays) ?_
  intro p e s m below meth c T0 X0 hx hby hml hZ hown hnm hret hlk e0
  have N0 := Fr.nil n0
  have zO := own_old O0
  refine own_st (fun _ k => castTop (ef_crB m a1 (Int32.ofNat i) (Int32.ofNat j)) k) ?_
  show own_Go p e below s _ _ _ (T0.setTop (mkF m 0 #[.val (.ref a1), .val (.int (Int32.ofNat i)), .val (.int (Int32.ofNat j)), .unset, .unset] []))
  refine own_st (fun _ k => XS.iloadN X0.here hx rfl (hb hby d19_0) rfl k) ?_
  show own_Go p e below s _ _ _ (T0.setTop (mkF m 1 #[.val (.ref a1), .val (.int (Int32.ofNat i)), .val (.int (Int32.ofNat j)), .unset, .unset] [(.int (Int32.ofNat i))]))
  refine own_st (fun _ k => XS.iloadN X0.here hx rfl (hb hby d19_1) rfl k) ?_
  show own_Go p e below s _ _ _ (T0.setTop (mkF m 2 #[.val (.ref a1), .val (.int (Int32.ofNat i)), .val (.int (Int32.ofNat j)), .unset, .unset] [(.int (Int32.ofNat j)), (.int (Int32.ofNat i))]))
  obtain ⟨T101, v101, L101, h101, X101, e101, q101, st101⟩ := own_callS X0 hx hZ (y := (⟨"java/util/Arrays", "checkLength", "(II)V"⟩ : MethodName)) hown (hw _ (List.mem_of_getElem? (i := 99) rfl)) (hw _ (List.mem_of_getElem? (i := 100) rfl)) (hw _ (List.mem_of_getElem? (i := 94) rfl)) (hw _ (List.mem_of_getElem? (i := 101) rfl)) (by decide) (own_bk (W := 0) (clW l Z a0 hw (Int32.ofNat i) (Int32.ofNat j) h0 n0 O0 (by rw [own_nlt (by omega) (by omega)]; omega)) hZ (hw _ (List.mem_of_getElem? (i := 101) rfl)) (hw _ (List.mem_of_getElem? (i := 94) rfl)) (by decide) (by decide)) e0 (by decide) (by decide) (g := (mkF m 2 #[.val (.ref a1), .val (.int (Int32.ofNat i)), .val (.int (Int32.ofNat j)), .unset, .unset] [(.int (Int32.ofNat j)), (.int (Int32.ofNat i))])) rfl (by rw [hml]; rfl) (argsL := [(.int (Int32.ofNat i)), (.int (Int32.ofNat j))]) (rest := []) (lenOf pd__28II_29V rfl) rfl rfl (by show 2 * 0 + _ ≤ _; exact Nat.le_of_eq rfl) (hb hby d19_2)
  obtain ⟨rfl, N101q, hq101⟩ := q101
  replace e101 := e101.trans hq101
  refine own_st st101 ?_
  have N101 := Fr.app N0 N101q
  show own_Go p e below s _ _ _ (T101.setTop (mkF m 5 #[.val (.ref a1), .val (.int (Int32.ofNat i)), .val (.int (Int32.ofNat j)), .unset, .unset] []))
  refine own_st (fun _ k => XS.iloadN X101.here hx rfl (hb hby d19_5) rfl k) ?_
  show own_Go p e below s _ _ _ (T101.setTop (mkF m 6 #[.val (.ref a1), .val (.int (Int32.ofNat i)), .val (.int (Int32.ofNat j)), .unset, .unset] [(.int (Int32.ofNat j))]))
  refine own_st (fun _ k => XS.iloadN X101.here hx rfl (hb hby d19_6) rfl k) ?_
  show own_Go p e below s _ _ _ (T101.setTop (mkF m 7 #[.val (.ref a1), .val (.int (Int32.ofNat i)), .val (.int (Int32.ofNat j)), .unset, .unset] [(.int (Int32.ofNat i)), (.int (Int32.ofNat j))]))
  refine own_st (fun _ k => XS.isub X101.here hx rfl (hb hby d19_7) rfl k) ?_
  show own_Go p e below s _ _ _ (T101.setTop (mkF m 8 #[.val (.ref a1), .val (.int (Int32.ofNat i)), .val (.int (Int32.ofNat j)), .unset, .unset] [(.int ((Int32.ofNat j) - (Int32.ofNat i)))]))
  rw [own_nsub hi (by omega)]
  show own_Go p e below s _ _ _ (T101.setTop (mkF m 8 #[.val (.ref a1), .val (.int (Int32.ofNat i)), .val (.int (Int32.ofNat j)), .unset, .unset] [(.int (Int32.ofNat (j - i)))]))
  refine own_st (fun _ k => XS.istoreN X101.here hx rfl (hb hby d19_8) rfl (l' := #[.val (.ref a1), .val (.int (Int32.ofNat i)), .val (.int (Int32.ofNat j)), .val (.int (Int32.ofNat (j - i))), .unset]) rfl k) ?_
  show own_Go p e below s _ _ _ (T101.setTop (mkF m 9 #[.val (.ref a1), .val (.int (Int32.ofNat i)), .val (.int (Int32.ofNat j)), .val (.int (Int32.ofNat (j - i))), .unset] []))
  refine own_st (fun _ k => XS.iloadN X101.here hx rfl (hb hby d19_9) rfl k) ?_
  show own_Go p e below s _ _ _ (T101.setTop (mkF m 10 #[.val (.ref a1), .val (.int (Int32.ofNat i)), .val (.int (Int32.ofNat j)), .val (.int (Int32.ofNat (j - i))), .unset] [(.int (Int32.ofNat (j - i)))]))
  obtain ⟨T102, h102, k102, X102, e102, E102, A102, st102⟩ := newP X101 hx hZ (hw _ (List.mem_of_getElem? (i := 24) rfl)) e101 (g := (mkF m 10 #[.val (.ref a1), .val (.int (Int32.ofNat i)), .val (.int (Int32.ofNat j)), .val (.int (Int32.ofNat (j - i))), .unset] [(.int (Int32.ofNat (j - i)))])) rfl (hb hby d19_10) rfl (own_nn (by omega)) (cap := 6) (by rw [own_tcn (by omega)]; omega) (by decide) (by decide) (by decide)
  obtain ⟨b102, g102⟩ : ∃ z, z = h0.size := ⟨_, rfl⟩
  rw [← g102] at A102 st102
  have K102 : Keep h0 h102 [] := (Keep.refl _ _).ext E102
  have l102 : b102 < h102.size := A102.lt
  refine own_st st102 ?_
  have zK102 := K102.1
  have V102 := Arv.new A102 (own_nn (by omega))
  show own_Go p e below s _ _ _ (T102.setTop (mkF m 12 #[.val (.ref a1), .val (.int (Int32.ofNat i)), .val (.int (Int32.ofNat j)), .val (.int (Int32.ofNat (j - i))), .unset] [(.ref b102)]))
  have V102p := V102.pad (pad_rep [] (.int (0 : Int32)) 6)
  refine own_st (fun _ k => XS.astore X102.here hx rfl (hb hby d19_12) rfl rfl (l' := #[.val (.ref a1), .val (.int (Int32.ofNat i)), .val (.int (Int32.ofNat j)), .val (.int (Int32.ofNat (j - i))), .val (.ref b102)]) rfl k) ?_
  show own_Go p e below s _ _ _ (T102.setTop (mkF m 14 #[.val (.ref a1), .val (.int (Int32.ofNat i)), .val (.int (Int32.ofNat j)), .val (.int (Int32.ofNat (j - i))), .val (.ref b102)] []))
  refine own_st (fun _ k => XS.aloadN X102.here hx rfl (hb hby d19_14) rfl rfl k) ?_
  show own_Go p e below s _ _ _ (T102.setTop (mkF m 15 #[.val (.ref a1), .val (.int (Int32.ofNat i)), .val (.int (Int32.ofNat j)), .val (.int (Int32.ofNat (j - i))), .val (.ref b102)] [(.ref a1)]))
  refine own_st (fun _ k => XS.iloadN X102.here hx rfl (hb hby d19_15) rfl k) ?_
  show own_Go p e below s _ _ _ (T102.setTop (mkF m 16 #[.val (.ref a1), .val (.int (Int32.ofNat i)), .val (.int (Int32.ofNat j)), .val (.int (Int32.ofNat (j - i))), .val (.ref b102)] [(.int (Int32.ofNat i)), (.ref a1)]))
  refine own_st (fun _ k => XS.aload X102.here hx rfl (hb hby d19_16) rfl rfl k) ?_
  show own_Go p e below s _ _ _ (T102.setTop (mkF m 18 #[.val (.ref a1), .val (.int (Int32.ofNat i)), .val (.int (Int32.ofNat j)), .val (.int (Int32.ofNat (j - i))), .val (.ref b102)] [(.ref b102), (.int (Int32.ofNat i)), (.ref a1)]))
  refine own_st (fun _ k => XS.iconst X102.here hx rfl (hb hby d19_18) k) ?_
  show own_Go p e below s _ _ _ (T102.setTop (mkF m 19 #[.val (.ref a1), .val (.int (Int32.ofNat i)), .val (.int (Int32.ofNat j)), .val (.int (Int32.ofNat (j - i))), .val (.ref b102)] [(.int (0 : Int32)), (.ref b102), (.int (Int32.ofNat i)), (.ref a1)]))
  refine own_st (fun _ k => XS.aloadN X102.here hx rfl (hb hby d19_19) rfl rfl k) ?_
  show own_Go p e below s _ _ _ (T102.setTop (mkF m 20 #[.val (.ref a1), .val (.int (Int32.ofNat i)), .val (.int (Int32.ofNat j)), .val (.int (Int32.ofNat (j - i))), .val (.ref b102)] [(.ref a1), (.int (0 : Int32)), (.ref b102), (.int (Int32.ofNat i)), (.ref a1)]))
  have f103 := (V1.keep ((Keep.refl h0 []).trans K102 all0) nin0)
  obtain ⟨c104, Ar104, q104, S104, M104, H104, U104⟩ := id f103
  refine own_st (X102.arraylength hx (by rw [e102]; exact Ar104.1) (State.isArrayOf_alike hZ.alike Ar104.2.1) (g := (mkF m 20 #[.val (.ref a1), .val (.int (Int32.ofNat i)), .val (.int (Int32.ofNat j)), .val (.int (Int32.ofNat (j - i))), .val (.ref b102)] [(.ref a1), (.int (0 : Int32)), (.ref b102), (.int (Int32.ofNat i)), (.ref a1)])) rfl rfl (hb hby d19_20)) ?_
  rw [len_of S104 M104]
  show own_Go p e below s _ _ _ (T102.setTop (mkF m 21 #[.val (.ref a1), .val (.int (Int32.ofNat i)), .val (.int (Int32.ofNat j)), .val (.int (Int32.ofNat (j - i))), .val (.ref b102)] [(.int (Int32.ofNat k)), (.int (0 : Int32)), (.ref b102), (.int (Int32.ofNat i)), (.ref a1)]))
  refine own_st (fun _ k => XS.iloadN X102.here hx rfl (hb hby d19_21) rfl k) ?_
  show own_Go p e below s _ _ _ (T102.setTop (mkF m 22 #[.val (.ref a1), .val (.int (Int32.ofNat i)), .val (.int (Int32.ofNat j)), .val (.int (Int32.ofNat (j - i))), .val (.ref b102)] [(.int (Int32.ofNat i)), (.int (Int32.ofNat k)), (.int (0 : Int32)), (.ref b102), (.int (Int32.ofNat i)), (.ref a1)]))
  refine own_st (fun _ k => XS.isub X102.here hx rfl (hb hby d19_22) rfl k) ?_
  show own_Go p e below s _ _ _ (T102.setTop (mkF m 23 #[.val (.ref a1), .val (.int (Int32.ofNat i)), .val (.int (Int32.ofNat j)), .val (.int (Int32.ofNat (j - i))), .val (.ref b102)] [(.int ((Int32.ofNat k) - (Int32.ofNat i))), (.int (0 : Int32)), (.ref b102), (.int (Int32.ofNat i)), (.ref a1)]))
  rw [own_nsub (Nat.le_trans hi hj) (by omega)]
  show own_Go p e below s _ _ _ (T102.setTop (mkF m 23 #[.val (.ref a1), .val (.int (Int32.ofNat i)), .val (.int (Int32.ofNat j)), .val (.int (Int32.ofNat (j - i))), .val (.ref b102)] [(.int (Int32.ofNat (k - i))), (.int (0 : Int32)), (.ref b102), (.int (Int32.ofNat i)), (.ref a1)]))
  refine own_st (fun _ k => XS.iloadN X102.here hx rfl (hb hby d19_23) rfl k) ?_
  show own_Go p e below s _ _ _ (T102.setTop (mkF m 24 #[.val (.ref a1), .val (.int (Int32.ofNat i)), .val (.int (Int32.ofNat j)), .val (.int (Int32.ofNat (j - i))), .val (.ref b102)] [(.int (Int32.ofNat (j - i))), (.int (Int32.ofNat (k - i))), (.int (0 : Int32)), (.ref b102), (.int (Int32.ofNat i)), (.ref a1)]))
  have O105 : Old Z n0 h102 := O0.keep ((Keep.refl h0 []).trans K102 all0) all0
  obtain ⟨T106, v106, L106, h106, X106, e106, q106, st106⟩ := own_callS X102 hx hZ (y := (⟨"java/lang/Math", "min", "(II)I"⟩ : MethodName)) hown (hw _ (List.mem_of_getElem? (i := 102) rfl)) (hw _ (List.mem_of_getElem? (i := 103) rfl)) (hw _ (List.mem_of_getElem? (i := 104) rfl)) (hw _ (List.mem_of_getElem? (i := 105) rfl)) (by decide) (own_bk (W := 4) (mnW l Z a0 hw (Int32.ofNat (k - i)) (Int32.ofNat (j - i)) h102 n0 O105) hZ (hw _ (List.mem_of_getElem? (i := 105) rfl)) (hw _ (List.mem_of_getElem? (i := 104) rfl)) (by decide) (by decide)) e102 (by decide) (by decide) (g := (mkF m 24 #[.val (.ref a1), .val (.int (Int32.ofNat i)), .val (.int (Int32.ofNat j)), .val (.int (Int32.ofNat (j - i))), .val (.ref b102)] [(.int (Int32.ofNat (j - i))), (.int (Int32.ofNat (k - i))), (.int (0 : Int32)), (.ref b102), (.int (Int32.ofNat i)), (.ref a1)])) rfl (by rw [hml]; rfl) (argsL := [(.int (Int32.ofNat (k - i))), (.int (Int32.ofNat (j - i)))]) (rest := [(.int (0 : Int32)), (.ref b102), (.int (Int32.ofNat i)), (.ref a1)]) (lenOf pd__28II_29I rfl) rfl rfl (by show 2 * 0 + _ ≤ _; exact Nat.le_of_eq rfl) (hb hby d19_24)
  obtain ⟨rfl, N106q, hq106⟩ := q106
  replace e106 := e106.trans hq106
  refine own_st st106 ?_
  have N106 := Fr.app N101 N106q
  show own_Go p e below s _ _ _ (T106.setTop (mkF m 27 #[.val (.ref a1), .val (.int (Int32.ofNat i)), .val (.int (Int32.ofNat j)), .val (.int (Int32.ofNat (j - i))), .val (.ref b102)] [(.int (if (Int32.ofNat (j - i)) < (Int32.ofNat (k - i)) then (Int32.ofNat (j - i)) else (Int32.ofNat (k - i)))), (.int (0 : Int32)), (.ref b102), (.int (Int32.ofNat i)), (.ref a1)]))
  rw [show (if Int32.ofNat (j - i) < Int32.ofNat (k - i) then Int32.ofNat (j - i) else Int32.ofNat (k - i)) = Int32.ofNat (j - i) from by
      split
      · rfl
      · rename_i q; rw [own_nlt (by omega) (by omega)] at q; rw [show k - i = j - i from by omega]]
  show own_Go p e below s _ _ _ (T106.setTop (mkF m 27 #[.val (.ref a1), .val (.int (Int32.ofNat i)), .val (.int (Int32.ofNat j)), .val (.int (Int32.ofNat (j - i))), .val (.ref b102)] [(.int (Int32.ofNat (j - i))), (.int (0 : Int32)), (.ref b102), (.int (Int32.ofNat i)), (.ref a1)]))
  obtain ⟨T107, h107, L107, X107, e107, N107, K107, V107, st107⟩ := cpA X106 hx hZ hown (hw _ (List.mem_of_getElem? (i := 106) rfl)) (hw _ (List.mem_of_getElem? (i := 109) rfl)) (hw _ (List.mem_of_getElem? (i := 107) rfl)) (hw _ (List.mem_of_getElem? (i := 108) rfl)) e106 f103 V102p (Or.inl ⟨rfl, rfl⟩) (own_nn (by omega)) (by decide) (own_nn (by omega)) (by rw [own_tcn (by omega), own_tcn (by omega), own_tcn (by omega)]; omega) (by rw [own_tcn (by omega)]; exact Nat.le_of_eq (Nat.zero_add _)) rfl (by rw [own_tcn (by omega)]; show 0 + (j - i) ≤ 6; omega) N106 (by omega : n0 ≤ b102) (g := (mkF m 27 #[.val (.ref a1), .val (.int (Int32.ofNat i)), .val (.int (Int32.ofNat j)), .val (.int (Int32.ofNat (j - i))), .val (.ref b102)] [(.int (Int32.ofNat (j - i))), (.int (0 : Int32)), (.ref b102), (.int (Int32.ofNat i)), (.ref a1)])) rfl (by rw [hml]; rfl) rfl (hb hby d19_27) (by decide) (W := 0) (by show 2 * 0 + _ ≤ _; exact Nat.le_of_eq rfl) (by decide)
  refine own_st st107 ?_
  have zK107 := K107.1
  rw [own_tcn (by omega : i < 2147483648), own_tcn (by omega : j - i < 2147483648)] at V107
  have V107c := V107.pad (own_cpy hi (by omega))
  show own_Go p e below s _ _ _ (T107.setTop (mkF m 30 #[.val (.ref a1), .val (.int (Int32.ofNat i)), .val (.int (Int32.ofNat j)), .val (.int (Int32.ofNat (j - i))), .val (.ref b102)] []))
  refine own_st (fun _ k => XS.aload X107.here hx rfl (hb hby d19_30) rfl rfl k) ?_
  show own_Go p e below s _ _ _ (T107.setTop (mkF m 32 #[.val (.ref a1), .val (.int (Int32.ofNat i)), .val (.int (Int32.ofNat j)), .val (.int (Int32.ofNat (j - i))), .val (.ref b102)] [(.ref b102)]))
  exact own_ret X107 hx hlk e107 hret rfl (Or.inr (Or.inr (Or.inr (Or.inr ⟨rfl, rfl, rfl⟩)))) (hb hby d19_32) (by decide) (by decide) ⟨N107, b102, _, rfl, (((Keep.refl h0 []).trans K102 all0).trans K107 (allS (Or.inr (by omega)) all0)), by omega, V107c.lt, V107c⟩
theorem d18_0 : decode jdk_65_method_132_code 0 = .ok (.iload_n 1, 1) := by decide +kernel
theorem d18_1 : decode jdk_65_method_132_code 1 = .ok (.ifCond .ne 9, 3) := by decide +kernel
theorem d18_4 : decode jdk_65_method_132_code 4 = .ok (.iload_n 2, 1) := by decide +kernel
theorem d18_5 : decode jdk_65_method_132_code 5 = .ok (.aload_n 0, 1) := by decide +kernel
theorem d18_6 : decode jdk_65_method_132_code 6 = .ok (.arraylength, 1) := by decide +kernel
theorem d18_7 : decode jdk_65_method_132_code 7 = .ok (.if_icmp .eq 10, 3) := by decide +kernel
theorem d18_10 : decode jdk_65_method_132_code 10 = .ok (.aload_n 0, 1) := by decide +kernel
theorem d18_11 : decode jdk_65_method_132_code 11 = .ok (.iload_n 1, 1) := by decide +kernel
theorem d18_12 : decode jdk_65_method_132_code 12 = .ok (.iload_n 2, 1) := by decide +kernel
theorem pd__28_5bBII_29_5bB : parseMethodDescriptor "([BII)[B" = some ⟨[(.array .byte), .int, .int], some (.array .byte)⟩ := by decide +kernel
theorem d18_13 : decode jdk_65_method_132_code 13 = .ok (.invokestatic 339, 3) := by decide +kernel
theorem d18_16 : decode jdk_65_method_132_code 16 = .ok (.areturn, 1) := by decide +kernel
theorem ef_crW (m : MethodId) (x0 : Addr) (x1 : Int32) (x2 : Int32) : entryFrame m #[(.ref x0), (.int x1), (.int x2)] 3 = mkF m 0 #[.val (.ref x0), .val (.int x1), .val (.int x2)] [] := by (first | (simp [entryFrame, mkF, argsToLocals, Value.category]; done) | rfl)
abbrev crWR : Room := { frames := 2, cells := 1, slots := 6, locals := 56 }
set_option maxRecDepth 65536 in
set_option maxHeartbeats 40000000 in
theorem crW (l : Launch) (Z : State) (a0 : Array Value) (hw : ∀ d ∈ tables_1, d.before a0 Z = true) (a1 : Addr) (k1 : ClassId) (vs : List Value) (i j k : Nat) (h0 : Heap) (n0 : Nat) (O0 : Old Z n0 h0) (hi : i ≤ j) (hj : j ≤ k) (hk : k ≤ 6) (hv : vs.length = k) (V1 : Arv Z h0 a1 k1 .byte (Int32.ofNat k) vs (.int 0)) (hne : ¬ (i = 0 ∧ j = k)) :
    own_C l Z (⟨"java/util/Arrays", "copyOfRange", "([BII)[B"⟩ : MethodName) jdk_65_method_132_code 3 (some (.array .byte)) [] crWR #[(.ref a1), (.int (Int32.ofNat i)), (.int (Int32.ofNat j))] h0 (fun v h L => Fr n0 L ∧ ∃ (b : Nat) (kb : ClassId), v = some (.ref b) ∧ Keep h0 h [] ∧ h0.size ≤ b ∧ b < h.size ∧ Arv Z h b kb .byte (Int32.ofNat (j - i)) ((vs.drop i).take (j - i)) (.int 0)) := by
  refine own_body (plainFor_of_name pn_java_util_Arrays) ?_
  intro p e s m below meth c T0 X0 hx hby hml hZ hown hnm hret hlk e0
  have N0 := Fr.nil n0
  have zO := own_old O0
  refine own_st (fun _ k => castTop (ef_crW m a1 (Int32.ofNat i) (Int32.ofNat j)) k) ?_
  show own_Go p e below s _ _ _ (T0.setTop (mkF m 0 #[.val (.ref a1), .val (.int (Int32.ofNat i)), .val (.int (Int32.ofNat j))] []))
  refine own_st (fun _ k => XS.iloadN X0.here hx rfl (hb hby d18_0) rfl k) ?_
  show own_Go p e below s _ _ _ (T0.setTop (mkF m 1 #[.val (.ref a1), .val (.int (Int32.ofNat i)), .val (.int (Int32.ofNat j))] [(.int (Int32.ofNat i))]))
  by_cases c101 : (Int32.ofNat i) = (0 : Int32)
  · refine own_st (fun _ k => XS.ifNo X0.here hx rfl (hb hby d18_1) rfl ((if0 _ _).trans (teq c101).2) k) ?_
    show own_Go p e below s _ _ _ (T0.setTop (mkF m 4 #[.val (.ref a1), .val (.int (Int32.ofNat i)), .val (.int (Int32.ofNat j))] []))
    refine own_st (fun _ k => XS.iloadN X0.here hx rfl (hb hby d18_4) rfl k) ?_
    show own_Go p e below s _ _ _ (T0.setTop (mkF m 5 #[.val (.ref a1), .val (.int (Int32.ofNat i)), .val (.int (Int32.ofNat j))] [(.int (Int32.ofNat j))]))
    refine own_st (fun _ k => XS.aloadN X0.here hx rfl (hb hby d18_5) rfl rfl k) ?_
    show own_Go p e below s _ _ _ (T0.setTop (mkF m 6 #[.val (.ref a1), .val (.int (Int32.ofNat i)), .val (.int (Int32.ofNat j))] [(.ref a1), (.int (Int32.ofNat j))]))
    obtain ⟨c102, Ar102, q102, S102, M102, H102, U102⟩ := id V1
    refine own_st (X0.arraylength hx (by rw [e0]; exact Ar102.1) (State.isArrayOf_alike hZ.alike Ar102.2.1) (g := (mkF m 6 #[.val (.ref a1), .val (.int (Int32.ofNat i)), .val (.int (Int32.ofNat j))] [(.ref a1), (.int (Int32.ofNat j))])) rfl rfl (hb hby d18_6)) ?_
    rw [len_of S102 M102]
    show own_Go p e below s _ _ _ (T0.setTop (mkF m 7 #[.val (.ref a1), .val (.int (Int32.ofNat i)), .val (.int (Int32.ofNat j))] [(.int (Int32.ofNat k)), (.int (Int32.ofNat j))]))
    refine own_st (fun _ k => XS.icmpNo X0.here hx rfl (hb hby d18_7) rfl (feq (fun q => hne ⟨(own_nin (by omega) (by omega)).mp c101, (own_nin (by omega) (by omega)).mp q⟩)).1 k) ?_
    show own_Go p e below s _ _ _ (T0.setTop (mkF m 10 #[.val (.ref a1), .val (.int (Int32.ofNat i)), .val (.int (Int32.ofNat j))] []))
    refine own_st (fun _ k => XS.aloadN X0.here hx rfl (hb hby d18_10) rfl rfl k) ?_
    show own_Go p e below s _ _ _ (T0.setTop (mkF m 11 #[.val (.ref a1), .val (.int (Int32.ofNat i)), .val (.int (Int32.ofNat j))] [(.ref a1)]))
    refine own_st (fun _ k => XS.iloadN X0.here hx rfl (hb hby d18_11) rfl k) ?_
    show own_Go p e below s _ _ _ (T0.setTop (mkF m 12 #[.val (.ref a1), .val (.int (Int32.ofNat i)), .val (.int (Int32.ofNat j))] [(.int (Int32.ofNat i)), (.ref a1)]))
    refine own_st (fun _ k => XS.iloadN X0.here hx rfl (hb hby d18_12) rfl k) ?_
    show own_Go p e below s _ _ _ (T0.setTop (mkF m 13 #[.val (.ref a1), .val (.int (Int32.ofNat i)), .val (.int (Int32.ofNat j))] [(.int (Int32.ofNat j)), (.int (Int32.ofNat i)), (.ref a1)]))
    obtain ⟨T103, v103, L103, h103, X103, e103, q103, st103⟩ := own_callS X0 hx hZ (y := (⟨"java/util/Arrays", "copyOfRangeByte", "([BII)[B"⟩ : MethodName)) hown (hw _ (List.mem_of_getElem? (i := 96) rfl)) (hw _ (List.mem_of_getElem? (i := 97) rfl)) (hw _ (List.mem_of_getElem? (i := 94) rfl)) (hw _ (List.mem_of_getElem? (i := 98) rfl)) (by decide) (own_bk (W := 0) (crB l Z a0 hw a1 _ vs i j k h0 n0 O0 hi hj hk hv V1) hZ (hw _ (List.mem_of_getElem? (i := 98) rfl)) (hw _ (List.mem_of_getElem? (i := 94) rfl)) (by decide) (by decide)) e0 (by decide) (by decide) (g := (mkF m 13 #[.val (.ref a1), .val (.int (Int32.ofNat i)), .val (.int (Int32.ofNat j))] [(.int (Int32.ofNat j)), (.int (Int32.ofNat i)), (.ref a1)])) rfl (by rw [hml]; rfl) (argsL := [(.ref a1), (.int (Int32.ofNat i)), (.int (Int32.ofNat j))]) (rest := []) (lenOf pd__28_5bBII_29_5bB rfl) rfl rfl (by show 2 * 0 + _ ≤ _; exact Nat.le_of_eq rfl) (hb hby d18_13)
    obtain ⟨N103q, b103, k103, rfl, K103, zb103, zc103, V103⟩ := q103
    refine own_st st103 ?_
    have zK103 := K103.1
    have N103 := Fr.app N0 N103q
    show own_Go p e below s _ _ _ (T103.setTop (mkF m 16 #[.val (.ref a1), .val (.int (Int32.ofNat i)), .val (.int (Int32.ofNat j))] [(.ref b103)]))
    exact own_ret X103 hx hlk e103 hret rfl (Or.inr (Or.inr (Or.inr (Or.inr ⟨rfl, rfl, rfl⟩)))) (hb hby d18_16) (by decide) (by decide) ⟨N103, b103, _, rfl, ((Keep.refl h0 []).trans K103 all0), by omega, V103.lt, V103⟩
  · refine own_st (fun _ k => XS.ifYes X0.here hx rfl (pc0 := 1) (pc' := 10) rfl (hb hby d18_1) rfl ((if0 _ _).trans (feq c101).2) (by decide) (by decide) k) ?_
    show own_Go p e below s _ _ _ (T0.setTop (mkF m 10 #[.val (.ref a1), .val (.int (Int32.ofNat i)), .val (.int (Int32.ofNat j))] []))
    refine own_st (fun _ k => XS.aloadN X0.here hx rfl (hb hby d18_10) rfl rfl k) ?_
    show own_Go p e below s _ _ _ (T0.setTop (mkF m 11 #[.val (.ref a1), .val (.int (Int32.ofNat i)), .val (.int (Int32.ofNat j))] [(.ref a1)]))
    refine own_st (fun _ k => XS.iloadN X0.here hx rfl (hb hby d18_11) rfl k) ?_
    show own_Go p e below s _ _ _ (T0.setTop (mkF m 12 #[.val (.ref a1), .val (.int (Int32.ofNat i)), .val (.int (Int32.ofNat j))] [(.int (Int32.ofNat i)), (.ref a1)]))
    refine own_st (fun _ k => XS.iloadN X0.here hx rfl (hb hby d18_12) rfl k) ?_
    show own_Go p e below s _ _ _ (T0.setTop (mkF m 13 #[.val (.ref a1), .val (.int (Int32.ofNat i)), .val (.int (Int32.ofNat j))] [(.int (Int32.ofNat j)), (.int (Int32.ofNat i)), (.ref a1)]))
    obtain ⟨T104, v104, L104, h104, X104, e104, q104, st104⟩ := own_callS X0 hx hZ (y := (⟨"java/util/Arrays", "copyOfRangeByte", "([BII)[B"⟩ : MethodName)) hown (hw _ (List.mem_of_getElem? (i := 96) rfl)) (hw _ (List.mem_of_getElem? (i := 97) rfl)) (hw _ (List.mem_of_getElem? (i := 94) rfl)) (hw _ (List.mem_of_getElem? (i := 98) rfl)) (by decide) (own_bk (W := 0) (crB l Z a0 hw a1 _ vs i j k h0 n0 O0 hi hj hk hv V1) hZ (hw _ (List.mem_of_getElem? (i := 98) rfl)) (hw _ (List.mem_of_getElem? (i := 94) rfl)) (by decide) (by decide)) e0 (by decide) (by decide) (g := (mkF m 13 #[.val (.ref a1), .val (.int (Int32.ofNat i)), .val (.int (Int32.ofNat j))] [(.int (Int32.ofNat j)), (.int (Int32.ofNat i)), (.ref a1)])) rfl (by rw [hml]; rfl) (argsL := [(.ref a1), (.int (Int32.ofNat i)), (.int (Int32.ofNat j))]) (rest := []) (lenOf pd__28_5bBII_29_5bB rfl) rfl rfl (by show 2 * 0 + _ ≤ _; exact Nat.le_of_eq rfl) (hb hby d18_13)
    obtain ⟨N104q, b104, k104, rfl, K104, zb104, zc104, V104⟩ := q104
    refine own_st st104 ?_
    have zK104 := K104.1
    have N104 := Fr.app N0 N104q
    show own_Go p e below s _ _ _ (T104.setTop (mkF m 16 #[.val (.ref a1), .val (.int (Int32.ofNat i)), .val (.int (Int32.ofNat j))] [(.ref b104)]))
    exact own_ret X104 hx hlk e104 hret rfl (Or.inr (Or.inr (Or.inr (Or.inr ⟨rfl, rfl, rfl⟩)))) (hb hby d18_16) (by decide) (by decide) ⟨N104, b104, _, rfl, ((Keep.refl h0 []).trans K104 all0), by omega, V104.lt, V104⟩
theorem d22_0 : decode jdk_42_method_151_code 0 = .ok (.aload_n 0, 1) := by decide +kernel
theorem d22_1 : decode jdk_42_method_151_code 1 = .ok (.invokespecial 1, 3) := by decide +kernel
theorem d22_4 : decode jdk_42_method_151_code 4 = .ok (.aload_n 0, 1) := by decide +kernel
theorem d22_5 : decode jdk_42_method_151_code 5 = .ok (.aload_n 1, 1) := by decide +kernel
theorem d22_6 : decode jdk_42_method_151_code 6 = .ok (.putfield 9, 3) := by decide +kernel
theorem d22_9 : decode jdk_42_method_151_code 9 = .ok (.aload_n 0, 1) := by decide +kernel
theorem d22_10 : decode jdk_42_method_151_code 10 = .ok (.iload_n 2, 1) := by decide +kernel
theorem d22_11 : decode jdk_42_method_151_code 11 = .ok (.putfield 15, 3) := by decide +kernel
theorem d22_14 : decode jdk_42_method_151_code 14 = .ok (.return_, 1) := by decide +kernel
theorem ef_sbI (m : MethodId) (x0 : Addr) (x1 : Addr) (x2 : Int32) : entryFrame m #[(.ref x0), (.ref x1), (.int x2)] 3 = mkF m 0 #[.val (.ref x0), .val (.ref x1), .val (.int x2)] [] := by (first | (simp [entryFrame, mkF, argsToLocals, Value.category]; done) | rfl)
abbrev sbIR : Room := { frames := 1, cells := 0, slots := 0, locals := 12 }
set_option maxRecDepth 65536 in
set_option maxHeartbeats 40000000 in
theorem sbI (l : Launch) (Z : State) (a0 : Array Value) (hw : ∀ d ∈ tables_1, d.before a0 Z = true) (a1 a2 : Addr) (u1 u2 : Value) (h0 : Heap) (n0 : Nat) (O0 : Old Z n0 h0) (E1 : Exa Z h0 a1 "java/lang/String") (g1 : n0 ≤ a1) (F1 : Fld Z h0 a1 "java/lang/String" "value" "[B" u1) (F2 : Fld Z h0 a1 "java/lang/String" "coder" "B" u2) :
    own_C l Z (⟨"java/lang/String", "<init>", "([BB)V"⟩ : MethodName) jdk_42_method_151_code 3 none [] sbIR #[(.ref a1), (.ref a2), (.int (0 : Int32))] h0 (fun v h L => v = none ∧ Fr n0 L ∧ Keep h0 h [a1] ∧ Exa Z h a1 "java/lang/String" ∧ Fld Z h a1 "java/lang/String" "value" "[B" (.ref a2) ∧ Fld Z h a1 "java/lang/String" "coder" "B" (.int 0)) := by
  refine own_body (plainFor_of_name pn_java_lang_String) ?_
  intro p e s m below meth c T0 X0 hx hby hml hZ hown hnm hret hlk e0
  have N0 := Fr.nil n0
  have zO := own_old O0
  refine own_st (fun _ k => castTop (ef_sbI m a1 a2 (0 : Int32)) k) ?_
  show own_Go p e below s _ _ _ (T0.setTop (mkF m 0 #[.val (.ref a1), .val (.ref a2), .val (.int (0 : Int32))] []))
  refine own_st (fun _ k => XS.aloadN X0.here hx rfl (hb hby d22_0) rfl rfl k) ?_
  show own_Go p e below s _ _ _ (T0.setTop (mkF m 1 #[.val (.ref a1), .val (.ref a2), .val (.int (0 : Int32))] [(.ref a1)]))
  obtain ⟨T101, X101, e101, st101⟩ := initO X0 hx hZ hown (hw _ (List.mem_of_getElem? (i := 16) rfl)) (hw _ (List.mem_of_getElem? (i := 17) rfl)) (hw _ (List.mem_of_getElem? (i := 18) rfl)) e0 (g := (mkF m 1 #[.val (.ref a1), .val (.ref a2), .val (.int (0 : Int32))] [(.ref a1)])) rfl (by rw [hml]; rfl) rfl (hb hby d22_1) (by decide) (W := 0) (by show 2 * 0 + _ ≤ _; exact Nat.le_of_eq rfl) (by decide)
  refine own_st st101 ?_
  show own_Go p e below s _ _ _ (T101.setTop (mkF m 4 #[.val (.ref a1), .val (.ref a2), .val (.int (0 : Int32))] []))
  refine own_st (fun _ k => XS.aloadN X101.here hx rfl (hb hby d22_4) rfl rfl k) ?_
  show own_Go p e below s _ _ _ (T101.setTop (mkF m 5 #[.val (.ref a1), .val (.ref a2), .val (.int (0 : Int32))] [(.ref a1)]))
  refine own_st (fun _ k => XS.aloadN X101.here hx rfl (hb hby d22_5) rfl rfl k) ?_
  show own_Go p e below s _ _ _ (T101.setTop (mkF m 6 #[.val (.ref a1), .val (.ref a2), .val (.int (0 : Int32))] [(.ref a2), (.ref a1)]))
  obtain ⟨T102, h102, X102, e102, W102, st102⟩ := putF X101 hx hZ hown (host := "") (Or.inl (hw _ (List.mem_of_getElem? (i := 33) rfl))) Via.refl e101 F1 E1 (Or.inr ⟨(hw _ (List.mem_of_getElem? (i := 34) rfl)), rfl, hnm⟩) (hw _ (List.mem_of_getElem? (i := 7) rfl)) (ty := (.array .byte)) (by decide) rfl rfl (g := (mkF m 6 #[.val (.ref a1), .val (.ref a2), .val (.int (0 : Int32))] [(.ref a2), (.ref a1)])) rfl rfl (hb hby d22_6)
  have F102 := F1.same W102
  have K102 := Keep.of_wr W102
  have N102 := Fr.snoc X102 N0 (by omega : n0 ≤ a1)
  refine own_st st102 ?_
  have zK102 := K102.1
  show own_Go p e below s _ _ _ (T102.setTop (mkF m 9 #[.val (.ref a1), .val (.ref a2), .val (.int (0 : Int32))] []))
  refine own_st (fun _ k => XS.aloadN X102.here hx rfl (hb hby d22_9) rfl rfl k) ?_
  show own_Go p e below s _ _ _ (T102.setTop (mkF m 10 #[.val (.ref a1), .val (.ref a2), .val (.int (0 : Int32))] [(.ref a1)]))
  refine own_st (fun _ k => XS.iloadN X102.here hx rfl (hb hby d22_10) rfl k) ?_
  show own_Go p e below s _ _ _ (T102.setTop (mkF m 11 #[.val (.ref a1), .val (.ref a2), .val (.int (0 : Int32))] [(.int (0 : Int32)), (.ref a1)]))
  have f103 := (F2.other W102 (Or.inr (slot_ne (Or.inr (hw _ (List.mem_of_getElem? (i := 32) rfl))) (Or.inr (hw _ (List.mem_of_getElem? (i := 34) rfl))) (by decide) (t := .byte) (t' := (.array .byte)) (by decide) (by decide))))
  have f104 := (E1.keep ((Keep.refl h0 [a1]).trans K102 (allS (Or.inl (by simp)) all0)))
  obtain ⟨T105, h105, X105, e105, W105, st105⟩ := putFN X102 hx hZ hown (hw _ (List.mem_of_getElem? (i := 31) rfl)) Via.refl e102 f103 f104 (Or.inr ⟨(hw _ (List.mem_of_getElem? (i := 32) rfl)), rfl, hnm⟩) (hw _ (List.mem_of_getElem? (i := 7) rfl)) (ty := .byte) (v' := (.int (0 : Int32))) (by decide) (by decide) (by decide) (g := (mkF m 11 #[.val (.ref a1), .val (.ref a2), .val (.int (0 : Int32))] [(.int (0 : Int32)), (.ref a1)])) rfl rfl (hb hby d22_11)
  have F105 := f103.same W105
  have K105 := Keep.of_wr W105
  have N105 := Fr.snoc X105 N102 (by omega : n0 ≤ a1)
  refine own_st st105 ?_
  have zK105 := K105.1
  show own_Go p e below s _ _ _ (T105.setTop (mkF m 14 #[.val (.ref a1), .val (.ref a2), .val (.int (0 : Int32))] []))
  have f106 := (f104.keep ((Keep.refl h102 [a1]).trans K105 (allS (Or.inl (by simp)) all0)))
  have f107 := (F102.other W105 (Or.inr (slot_ne (Or.inr (hw _ (List.mem_of_getElem? (i := 34) rfl))) (Or.inr (hw _ (List.mem_of_getElem? (i := 32) rfl))) (by decide) (t := (.array .byte)) (t' := .byte) (by decide) (by decide))))
  exact own_retV X105 hx hlk e105 hret (hb hby d22_14) (by decide) (by decide) ⟨rfl, N105, (((Keep.refl h0 [a1]).trans K102 (allS (Or.inl (by simp)) all0)).trans K105 (allS (Or.inl (by simp)) all0)), f106, f107, F105⟩
theorem d17_0 : decode jdk_43_method_47_code 0 = .ok (.iload_n 2, 1) := by decide +kernel
theorem d17_1 : decode jdk_43_method_47_code 1 = .ok (.ifCond .ne 6, 3) := by decide +kernel
theorem d17_7 : decode jdk_43_method_47_code 7 = .ok (.new 1, 3) := by decide +kernel
theorem d17_10 : decode jdk_43_method_47_code 10 = .ok (.dup, 1) := by decide +kernel
theorem d17_11 : decode jdk_43_method_47_code 11 = .ok (.aload_n 0, 1) := by decide +kernel
theorem d17_12 : decode jdk_43_method_47_code 12 = .ok (.iload_n 1, 1) := by decide +kernel
theorem d17_13 : decode jdk_43_method_47_code 13 = .ok (.iload_n 1, 1) := by decide +kernel
theorem d17_14 : decode jdk_43_method_47_code 14 = .ok (.iload_n 2, 1) := by decide +kernel
theorem d17_15 : decode jdk_43_method_47_code 15 = .ok (.iadd, 1) := by decide +kernel
theorem d17_16 : decode jdk_43_method_47_code 16 = .ok (.invokestatic 232, 3) := by decide +kernel
theorem d17_19 : decode jdk_43_method_47_code 19 = .ok (.iconst 0, 1) := by decide +kernel
theorem pd__28_5bBB_29V : parseMethodDescriptor "([BB)V" = some ⟨[(.array .byte), .byte], none⟩ := by decide +kernel
theorem d17_20 : decode jdk_43_method_47_code 20 = .ok (.invokespecial 112, 3) := by decide +kernel
theorem d17_23 : decode jdk_43_method_47_code 23 = .ok (.areturn, 1) := by decide +kernel
theorem pn_java_lang_StringLatin1 : plainName "java/lang/StringLatin1" = true := by first | (simp [plainName, overriddenIn]; done) | decide +kernel
theorem ef_nsW (m : MethodId) (x0 : Addr) (x1 : Int32) (x2 : Int32) : entryFrame m #[(.ref x0), (.int x1), (.int x2)] 3 = mkF m 0 #[.val (.ref x0), .val (.int x1), .val (.int x2)] [] := by (first | (simp [entryFrame, mkF, argsToLocals, Value.category]; done) | rfl)
abbrev nsWR : Room := { frames := 3, cells := 2, slots := 10, locals := 72 }
set_option maxRecDepth 65536 in
set_option maxHeartbeats 40000000 in
theorem nsW (l : Launch) (Z : State) (a0 : Array Value) (hw : ∀ d ∈ tables_1, d.before a0 Z = true) (a1 : Addr) (k1 : ClassId) (cs : List Int32) (i n : Nat) (h0 : Heap) (n0 : Nat) (O0 : Old Z n0 h0) (hn : 0 < n) (hin : i + n ≤ cs.length) (hk : cs.length ≤ 6) (hne : ¬ (i = 0 ∧ n = cs.length)) (hbd : ∀ c ∈ cs, ¬ c < 0 ∧ ¬ (255 : Int32) < c) (V1 : Arv Z h0 a1 k1 .byte (Int32.ofNat cs.length) (cs.map fun c => Value.int (StrChars.lo8 c)) (.int 0)) :
    own_C l Z (⟨"java/lang/StringLatin1", "newString", "([BII)Ljava/lang/String;"⟩ : MethodName) jdk_43_method_47_code 3 (some (.object "java/lang/String")) [] nsWR #[(.ref a1), (.int (Int32.ofNat i)), (.int (Int32.ofNat n))] h0 (fun v h L => Fr n0 L ∧ ∃ b : Nat, v = some (.ref b) ∧ Keep h0 h [] ∧ h0.size ≤ b ∧ own_Str Z h b ((cs.drop i).take n)) := by
  refine own_body (plainFor_of_name pn_java_lang_StringLatin1) ?_
  intro p e s m below meth c T0 X0 hx hby hml hZ hown hnm hret hlk e0
  have N0 := Fr.nil n0
  have zO := own_old O0
  refine own_st (fun _ k => castTop (ef_nsW m a1 (Int32.ofNat i) (Int32.ofNat n)) k) ?_
  show own_Go p e below s _ _ _ (T0.setTop (mkF m 0 #[.val (.ref a1), .val (.int (Int32.ofNat i)), .val (.int (Int32.ofNat n))] []))
  refine own_st (fun _ k => XS.iloadN X0.here hx rfl (hb hby d17_0) rfl k) ?_
  show own_Go p e below s _ _ _ (T0.setTop (mkF m 1 #[.val (.ref a1), .val (.int (Int32.ofNat i)), .val (.int (Int32.ofNat n))] [(.int (Int32.ofNat n))]))
  refine own_st (fun _ k => XS.ifYes X0.here hx rfl (pc0 := 1) (pc' := 7) rfl (hb hby d17_1) rfl ((if0 _ _).trans (feq (fun q => absurd ((own_nin (by omega) (by omega : 0 < 2147483648)).mp q) (by omega))).2) (by decide) (by decide) k) ?_
  show own_Go p e below s _ _ _ (T0.setTop (mkF m 7 #[.val (.ref a1), .val (.int (Int32.ofNat i)), .val (.int (Int32.ofNat n))] []))
  obtain ⟨T101, h101, X101, e101, E101, A101, D101, -, st101⟩ := newO X0 hx hZ hown (hw _ (List.mem_of_getElem? (i := 91) rfl)) (hw _ (List.mem_of_getElem? (i := 7) rfl)) (hw _ (List.mem_of_getElem? (i := 8) rfl)) e0 (g := (mkF m 7 #[.val (.ref a1), .val (.int (Int32.ofNat i)), .val (.int (Int32.ofNat n))] [])) rfl (hb hby d17_7) (by decide) (by decide)
  obtain ⟨b101, g101⟩ : ∃ z, z = h0.size := ⟨_, rfl⟩
  rw [← g101] at A101 D101 st101
  have K101 : Keep h0 h101 [] := (Keep.refl _ _).ext E101
  have l101 : b101 < h101.size := A101.lt
  refine own_st st101 ?_
  have zK101 := K101.1
  show own_Go p e below s _ _ _ (T101.setTop (mkF m 10 #[.val (.ref a1), .val (.int (Int32.ofNat i)), .val (.int (Int32.ofNat n))] [(.ref b101)]))
  refine own_st (fun _ k => XS.dup X101.here hx rfl (hb hby d17_10) rfl rfl k) ?_
  show own_Go p e below s _ _ _ (T101.setTop (mkF m 11 #[.val (.ref a1), .val (.int (Int32.ofNat i)), .val (.int (Int32.ofNat n))] [(.ref b101), (.ref b101)]))
  refine own_st (fun _ k => XS.aloadN X101.here hx rfl (hb hby d17_11) rfl rfl k) ?_
  show own_Go p e below s _ _ _ (T101.setTop (mkF m 12 #[.val (.ref a1), .val (.int (Int32.ofNat i)), .val (.int (Int32.ofNat n))] [(.ref a1), (.ref b101), (.ref b101)]))
  refine own_st (fun _ k => XS.iloadN X101.here hx rfl (hb hby d17_12) rfl k) ?_
  show own_Go p e below s _ _ _ (T101.setTop (mkF m 13 #[.val (.ref a1), .val (.int (Int32.ofNat i)), .val (.int (Int32.ofNat n))] [(.int (Int32.ofNat i)), (.ref a1), (.ref b101), (.ref b101)]))
  refine own_st (fun _ k => XS.iloadN X101.here hx rfl (hb hby d17_13) rfl k) ?_
  show own_Go p e below s _ _ _ (T101.setTop (mkF m 14 #[.val (.ref a1), .val (.int (Int32.ofNat i)), .val (.int (Int32.ofNat n))] [(.int (Int32.ofNat i)), (.int (Int32.ofNat i)), (.ref a1), (.ref b101), (.ref b101)]))
  refine own_st (fun _ k => XS.iloadN X101.here hx rfl (hb hby d17_14) rfl k) ?_
  show own_Go p e below s _ _ _ (T101.setTop (mkF m 15 #[.val (.ref a1), .val (.int (Int32.ofNat i)), .val (.int (Int32.ofNat n))] [(.int (Int32.ofNat n)), (.int (Int32.ofNat i)), (.int (Int32.ofNat i)), (.ref a1), (.ref b101), (.ref b101)]))
  refine own_st (fun _ k => XS.iadd X101.here hx rfl (hb hby d17_15) rfl k) ?_
  show own_Go p e below s _ _ _ (T101.setTop (mkF m 16 #[.val (.ref a1), .val (.int (Int32.ofNat i)), .val (.int (Int32.ofNat n))] [(.int ((Int32.ofNat i) + (Int32.ofNat n))), (.int (Int32.ofNat i)), (.ref a1), (.ref b101), (.ref b101)]))
  rw [own_nadd (by omega)]
  show own_Go p e below s _ _ _ (T101.setTop (mkF m 16 #[.val (.ref a1), .val (.int (Int32.ofNat i)), .val (.int (Int32.ofNat n))] [(.int (Int32.ofNat (i + n))), (.int (Int32.ofNat i)), (.ref a1), (.ref b101), (.ref b101)]))
  have O102 : Old Z n0 h101 := O0.keep ((Keep.refl h0 []).trans K101 all0) all0
  have f103 := (V1.keep ((Keep.refl h0 []).trans K101 all0) nin0)
  obtain ⟨T104, v104, L104, h104, X104, e104, q104, st104⟩ := own_callS X101 hx hZ (y := (⟨"java/util/Arrays", "copyOfRange", "([BII)[B"⟩ : MethodName)) hown (hw _ (List.mem_of_getElem? (i := 92) rfl)) (hw _ (List.mem_of_getElem? (i := 93) rfl)) (hw _ (List.mem_of_getElem? (i := 94) rfl)) (hw _ (List.mem_of_getElem? (i := 95) rfl)) (by decide) (own_bk (W := 2) (crW l Z a0 hw a1 _ _ i (i + n) cs.length h101 n0 O102 (Nat.le_add_right _ _) hin hk (by simp) f103 (fun q => hne ⟨q.1, by omega⟩)) hZ (hw _ (List.mem_of_getElem? (i := 95) rfl)) (hw _ (List.mem_of_getElem? (i := 94) rfl)) (by decide) (by decide)) e101 (by decide) (by decide) (g := (mkF m 16 #[.val (.ref a1), .val (.int (Int32.ofNat i)), .val (.int (Int32.ofNat n))] [(.int (Int32.ofNat (i + n))), (.int (Int32.ofNat i)), (.ref a1), (.ref b101), (.ref b101)])) rfl (by rw [hml]; rfl) (argsL := [(.ref a1), (.int (Int32.ofNat i)), (.int (Int32.ofNat (i + n)))]) (rest := [(.ref b101), (.ref b101)]) (lenOf pd__28_5bBII_29_5bB rfl) rfl rfl (by show 2 * 0 + _ ≤ _; exact Nat.le_of_eq rfl) (hb hby d17_16)
  obtain ⟨N104q, b104, k104, rfl, K104, zb104, zc104, V104⟩ := q104
  refine own_st st104 ?_
  have zK104 := K104.1
  have N104 := Fr.app N0 N104q
  show own_Go p e below s _ _ _ (T104.setTop (mkF m 19 #[.val (.ref a1), .val (.int (Int32.ofNat i)), .val (.int (Int32.ofNat n))] [(.ref b104), (.ref b101), (.ref b101)]))
  refine own_st (fun _ k => XS.iconst X104.here hx rfl (hb hby d17_19) k) ?_
  show own_Go p e below s _ _ _ (T104.setTop (mkF m 20 #[.val (.ref a1), .val (.int (Int32.ofNat i)), .val (.int (Int32.ofNat n))] [(.int (0 : Int32)), (.ref b104), (.ref b101), (.ref b101)]))
  have O105 : Old Z n0 h104 := O102.keep ((Keep.refl h101 []).trans K104 all0) all0
  have F_value_b101 : Fld Z h101 b101 "java/lang/String" "value" "[B" .null := D101 (Or.inr (hw _ (List.mem_of_getElem? (i := 34) rfl))) (ty := (.array .byte)) (by decide)
  have F_coder_b101 : Fld Z h101 b101 "java/lang/String" "coder" "B" (.int (0 : Int32)) := D101 (Or.inr (hw _ (List.mem_of_getElem? (i := 32) rfl))) (ty := .byte) (by decide)
  have f106 := (A101.keep ((Keep.refl h101 []).trans K104 all0))
  have f107 := (F_value_b101.keep ((Keep.refl h101 []).trans K104 all0) nin0)
  have f108 := (F_coder_b101.keep ((Keep.refl h101 []).trans K104 all0) nin0)
  obtain ⟨T109, v109, L109, h109, X109, e109, q109, st109⟩ := own_callI X104 hx hZ (y := (⟨"java/lang/String", "<init>", "([BB)V"⟩ : MethodName)) rfl hown (hw _ (List.mem_of_getElem? (i := 110) rfl)) (hw _ (List.mem_of_getElem? (i := 111) rfl)) (hw _ (List.mem_of_getElem? (i := 112) rfl)) (by decide) (own_bk (W := 1) (sbI l Z a0 hw b101 b104 _ _ h104 n0 O105 f106 (by omega) f107 f108) hZ (hw _ (List.mem_of_getElem? (i := 112) rfl)) (hw _ (List.mem_of_getElem? (i := 8) rfl)) (by decide) (by decide)) e104 (by decide) (by decide) (g := (mkF m 20 #[.val (.ref a1), .val (.int (Int32.ofNat i)), .val (.int (Int32.ofNat n))] [(.int (0 : Int32)), (.ref b104), (.ref b101), (.ref b101)])) rfl (by rw [hml]; rfl) (a := b101) (argsL := [(.ref b104), (.int (0 : Int32))]) (rest := [(.ref b101)]) (lenOf pd__28_5bBB_29V rfl) rfl rfl (by show 2 * 0 + _ ≤ _; exact Nat.le_of_eq rfl) (hb hby d17_20)
  obtain ⟨rfl, N109q, K109, A109, Fa109, Fb109⟩ := q109
  refine own_st st109 ?_
  have zK109 := K109.1
  have N109 := Fr.app N104 N109q
  show own_Go p e below s _ _ _ (T109.setTop (mkF m 23 #[.val (.ref a1), .val (.int (Int32.ofNat i)), .val (.int (Int32.ofNat n))] [(.ref b101)]))
  have f111 := (V104.keep ((Keep.refl h104 [b101]).trans K109 (allS (Or.inl (by simp)) all0)) (own_ninS (by omega) nin0))
  have V110 := f111
  rw [Nat.add_sub_cancel_left, own_mapdt] at V110
  have elV110 : ((cs.drop i).take n).length = n := by rw [List.length_take, List.length_drop]; omega
  exact own_ret X109 hx hlk e109 hret rfl (Or.inr (Or.inr (Or.inr (Or.inr ⟨rfl, rfl, rfl⟩)))) (hb hby d17_23) (by decide) (by decide) ⟨N109, b101, rfl, ((((Keep.refl h0 []).trans K101 all0).trans K104 all0).trans K109 (allS (Or.inr (by omega)) all0)), by omega, A109, b104, _, 0, _, _, Fa109, Fb109, V110, Or.inl ⟨rfl, by rw [elV110], rfl, fun c hc => (hbd c (own_memdt hc)).2⟩, fun c hc => own_up1 (hbd c (own_memdt hc)), by omega⟩
theorem d11_0 : decode jdk_42_method_92_code 0 = .ok (.aload_n 0, 1) := by decide +kernel
theorem pd__28_29I : parseMethodDescriptor "()I" = some ⟨[], some .int⟩ := by decide +kernel
theorem d11_1 : decode jdk_42_method_92_code 1 = .ok (.invokevirtual 505, 3) := by decide +kernel
theorem d11_4 : decode jdk_42_method_92_code 4 = .ok (.istore_n 3, 1) := by decide +kernel
theorem d11_5 : decode jdk_42_method_92_code 5 = .ok (.iload_n 1, 1) := by decide +kernel
theorem d11_6 : decode jdk_42_method_92_code 6 = .ok (.iload_n 2, 1) := by decide +kernel
theorem d11_7 : decode jdk_42_method_92_code 7 = .ok (.iload_n 3, 1) := by decide +kernel
theorem pd__28III_29V : parseMethodDescriptor "(III)V" = some ⟨[.int, .int, .int], none⟩ := by decide +kernel
theorem d11_8 : decode jdk_42_method_92_code 8 = .ok (.invokestatic 521, 3) := by decide +kernel
theorem d11_11 : decode jdk_42_method_92_code 11 = .ok (.iload_n 1, 1) := by decide +kernel
theorem d11_12 : decode jdk_42_method_92_code 12 = .ok (.ifCond .ne 10, 3) := by decide +kernel
theorem d11_15 : decode jdk_42_method_92_code 15 = .ok (.iload_n 2, 1) := by decide +kernel
theorem d11_16 : decode jdk_42_method_92_code 16 = .ok (.iload_n 3, 1) := by decide +kernel
theorem d11_17 : decode jdk_42_method_92_code 17 = .ok (.if_icmp .ne 5, 3) := by decide +kernel
theorem d11_20 : decode jdk_42_method_92_code 20 = .ok (.aload_n 0, 1) := by decide +kernel
theorem d11_21 : decode jdk_42_method_92_code 21 = .ok (.areturn, 1) := by decide +kernel
theorem d11_22 : decode jdk_42_method_92_code 22 = .ok (.iload_n 2, 1) := by decide +kernel
theorem d11_23 : decode jdk_42_method_92_code 23 = .ok (.iload_n 1, 1) := by decide +kernel
theorem d11_24 : decode jdk_42_method_92_code 24 = .ok (.isub, 1) := by decide +kernel
theorem d11_25 : decode jdk_42_method_92_code 25 = .ok (.istore 4, 2) := by decide +kernel
theorem d11_27 : decode jdk_42_method_92_code 27 = .ok (.aload_n 0, 1) := by decide +kernel
theorem pd__28_29Z : parseMethodDescriptor "()Z" = some ⟨[], some .boolean⟩ := by decide +kernel
theorem d11_28 : decode jdk_42_method_92_code 28 = .ok (.invokevirtual 492, 3) := by decide +kernel
theorem d11_31 : decode jdk_42_method_92_code 31 = .ok (.ifCond .eq 16, 3) := by decide +kernel
theorem d11_34 : decode jdk_42_method_92_code 34 = .ok (.aload_n 0, 1) := by decide +kernel
theorem d11_35 : decode jdk_42_method_92_code 35 = .ok (.getfield 9, 3) := by decide +kernel
theorem d11_38 : decode jdk_42_method_92_code 38 = .ok (.iload_n 1, 1) := by decide +kernel
theorem d11_39 : decode jdk_42_method_92_code 39 = .ok (.iload 4, 2) := by decide +kernel
theorem pd__28_5bBII_29Ljava_2flang_2fString_3b : parseMethodDescriptor "([BII)Ljava/lang/String;" = some ⟨[(.array .byte), .int, .int], some (.object "java/lang/String")⟩ := by decide +kernel
theorem d11_41 : decode jdk_42_method_92_code 41 = .ok (.invokestatic 685, 3) := by decide +kernel
theorem d11_44 : decode jdk_42_method_92_code 44 = .ok (.goto 13, 3) := by decide +kernel
theorem d11_57 : decode jdk_42_method_92_code 57 = .ok (.areturn, 1) := by decide +kernel
theorem ef_ssW (m : MethodId) (x0 : Addr) (x1 : Int32) (x2 : Int32) : entryFrame m #[(.ref x0), (.int x1), (.int x2)] 5 = mkF m 0 #[.val (.ref x0), .val (.int x1), .val (.int x2), .unset, .unset] [] := by (first | (simp [entryFrame, mkF, argsToLocals, Value.category]; done) | rfl)
abbrev ssWR : Room := { frames := 4, cells := 2, slots := 10, locals := 86 }
set_option maxRecDepth 65536 in
set_option maxHeartbeats 40000000 in
theorem ssW (l : Launch) (Z : State) (a0 : Array Value) (hw : ∀ d ∈ tables_1, d.before a0 Z = true) (a1 : Addr) (cs : List Int32) (i j : Nat) (h0 : Heap) (n0 : Nat) (O0 : Old Z n0 h0) (CS : own_CS Z) (FM : own_FM Z) (hij : i < j) (hj : j ≤ cs.length) (hk : cs.length ≤ 6) (hbd : ∀ c ∈ cs, ¬ c < 0 ∧ ¬ (255 : Int32) < c) (S1 : own_Str Z h0 a1 cs) :
    own_C l Z (⟨"java/lang/String", "substring", "(II)Ljava/lang/String;"⟩ : MethodName) jdk_42_method_92_code 5 (some (.object "java/lang/String")) [] ssWR #[(.ref a1), (.int (Int32.ofNat i)), (.int (Int32.ofNat j))] h0 (fun v h L => Fr n0 L ∧ ∃ b : Nat, v = some (.ref b) ∧ Keep h0 h [] ∧ own_Str Z h b ((cs.drop i).take (j - i))) := by
  refine own_body (plainFor_of_name pn_java_lang_String) ?_
  intro p e s m below meth c T0 X0 hx hby hml hZ hown hnm hret hlk e0
  have N0 := Fr.nil n0
  have zO := own_old O0
  obtain ⟨E1, t1, kb1, cd1, N1, vs1, F1, F2, A1, cod1, -, -⟩ := id S1
  rcases cod1 with ⟨rfl, rfl, rfl, -⟩ | ⟨-, -, -, c1, hc1, hw1⟩
  rotate_left
  · exact absurd hw1 (hbd c1 hc1).2
  refine own_st (fun _ k => castTop (ef_ssW m a1 (Int32.ofNat i) (Int32.ofNat j)) k) ?_
  show own_Go p e below s _ _ _ (T0.setTop (mkF m 0 #[.val (.ref a1), .val (.int (Int32.ofNat i)), .val (.int (Int32.ofNat j)), .unset, .unset] []))
  refine own_st (fun _ k => XS.aloadN X0.here hx rfl (hb hby d11_0) rfl rfl k) ?_
  show own_Go p e below s _ _ _ (T0.setTop (mkF m 1 #[.val (.ref a1), .val (.int (Int32.ofNat i)), .val (.int (Int32.ofNat j)), .unset, .unset] [(.ref a1)]))
  obtain ⟨T101, v101, L101, h101, X101, e101, q101, st101⟩ := own_callV X0 hx hZ (y := (⟨"java/lang/String", "length", "()I"⟩ : MethodName)) (z := (⟨"java/lang/String", "length", "()I"⟩ : MethodName)) hown (hw _ (List.mem_of_getElem? (i := 64) rfl)) (hw _ (List.mem_of_getElem? (i := 65) rfl)) (notFace_of_selects (args := #[]) (mvT hZ (hw _ (List.mem_of_getElem? (i := 67) rfl)))) (hw _ (List.mem_of_getElem? (i := 67) rfl)) (hw _ (List.mem_of_getElem? (i := 66) rfl)) (by decide) (own_lenB (W := 0) hZ (own_wLen hw) (kI := 4) (hw _ (List.mem_of_getElem? (i := 7) rfl)) O0 CS S1 (by decide) (by decide)) e0 S1.1 (by decide) (by decide) (g := (mkF m 1 #[.val (.ref a1), .val (.int (Int32.ofNat i)), .val (.int (Int32.ofNat j)), .unset, .unset] [(.ref a1)])) rfl (by rw [hml]; rfl) (argsL := []) (rest := []) (lenOf pd__28_29I rfl) rfl rfl (by show 2 * 0 + _ ≤ _; exact Nat.le_of_eq rfl) (hb hby d11_1)
  obtain ⟨rfl, N101q, hq101⟩ := q101
  replace e101 := e101.trans hq101
  refine own_st st101 ?_
  have N101 := Fr.app N0 N101q
  show own_Go p e below s _ _ _ (T101.setTop (mkF m 4 #[.val (.ref a1), .val (.int (Int32.ofNat i)), .val (.int (Int32.ofNat j)), .unset, .unset] [(.int (Int32.ofNat (cs).length))]))
  refine own_st (fun _ k => XS.istoreN X101.here hx rfl (hb hby d11_4) rfl (l' := #[.val (.ref a1), .val (.int (Int32.ofNat i)), .val (.int (Int32.ofNat j)), .val (.int (Int32.ofNat (cs).length)), .unset]) rfl k) ?_
  show own_Go p e below s _ _ _ (T101.setTop (mkF m 5 #[.val (.ref a1), .val (.int (Int32.ofNat i)), .val (.int (Int32.ofNat j)), .val (.int (Int32.ofNat (cs).length)), .unset] []))
  refine own_st (fun _ k => XS.iloadN X101.here hx rfl (hb hby d11_5) rfl k) ?_
  show own_Go p e below s _ _ _ (T101.setTop (mkF m 6 #[.val (.ref a1), .val (.int (Int32.ofNat i)), .val (.int (Int32.ofNat j)), .val (.int (Int32.ofNat (cs).length)), .unset] [(.int (Int32.ofNat i))]))
  refine own_st (fun _ k => XS.iloadN X101.here hx rfl (hb hby d11_6) rfl k) ?_
  show own_Go p e below s _ _ _ (T101.setTop (mkF m 7 #[.val (.ref a1), .val (.int (Int32.ofNat i)), .val (.int (Int32.ofNat j)), .val (.int (Int32.ofNat (cs).length)), .unset] [(.int (Int32.ofNat j)), (.int (Int32.ofNat i))]))
  refine own_st (fun _ k => XS.iloadN X101.here hx rfl (hb hby d11_7) rfl k) ?_
  show own_Go p e below s _ _ _ (T101.setTop (mkF m 8 #[.val (.ref a1), .val (.int (Int32.ofNat i)), .val (.int (Int32.ofNat j)), .val (.int (Int32.ofNat (cs).length)), .unset] [(.int (Int32.ofNat (cs).length)), (.int (Int32.ofNat j)), (.int (Int32.ofNat i))]))
  obtain ⟨T102, v102, L102, h102, X102, e102, q102, st102⟩ := own_callS X101 hx hZ (y := (⟨"java/lang/String", "checkBoundsBeginEnd", "(III)V"⟩ : MethodName)) hown (hw _ (List.mem_of_getElem? (i := 74) rfl)) (hw _ (List.mem_of_getElem? (i := 75) rfl)) (hw _ (List.mem_of_getElem? (i := 8) rfl)) (hw _ (List.mem_of_getElem? (i := 76) rfl)) (by decide) (own_bk (W := 0) (cbW l Z a0 hw (Int32.ofNat i) (Int32.ofNat j) (Int32.ofNat (cs).length) h0 n0 O0 FM (own_nn (by omega)) (by rw [own_nlt (by omega) (by omega)]; omega) (by rw [own_nlt (by omega) (by omega)]; omega)) hZ (hw _ (List.mem_of_getElem? (i := 76) rfl)) (hw _ (List.mem_of_getElem? (i := 8) rfl)) (by decide) (by decide)) e101 (by decide) (by decide) (g := (mkF m 8 #[.val (.ref a1), .val (.int (Int32.ofNat i)), .val (.int (Int32.ofNat j)), .val (.int (Int32.ofNat (cs).length)), .unset] [(.int (Int32.ofNat (cs).length)), (.int (Int32.ofNat j)), (.int (Int32.ofNat i))])) rfl (by rw [hml]; rfl) (argsL := [(.int (Int32.ofNat i)), (.int (Int32.ofNat j)), (.int (Int32.ofNat (cs).length))]) (rest := []) (lenOf pd__28III_29V rfl) rfl rfl (by show 2 * 0 + _ ≤ _; exact Nat.le_of_eq rfl) (hb hby d11_8)
  obtain ⟨rfl, N102q, hq102⟩ := q102
  replace e102 := e102.trans hq102
  refine own_st st102 ?_
  have N102 := Fr.app N101 N102q
  show own_Go p e below s _ _ _ (T102.setTop (mkF m 11 #[.val (.ref a1), .val (.int (Int32.ofNat i)), .val (.int (Int32.ofNat j)), .val (.int (Int32.ofNat (cs).length)), .unset] []))
  refine own_st (fun _ k => XS.iloadN X102.here hx rfl (hb hby d11_11) rfl k) ?_
  show own_Go p e below s _ _ _ (T102.setTop (mkF m 12 #[.val (.ref a1), .val (.int (Int32.ofNat i)), .val (.int (Int32.ofNat j)), .val (.int (Int32.ofNat (cs).length)), .unset] [(.int (Int32.ofNat i))]))
  by_cases c103 : (Int32.ofNat i) = (0 : Int32)
  · refine own_st (fun _ k => XS.ifNo X102.here hx rfl (hb hby d11_12) rfl ((if0 _ _).trans (teq c103).2) k) ?_
    show own_Go p e below s _ _ _ (T102.setTop (mkF m 15 #[.val (.ref a1), .val (.int (Int32.ofNat i)), .val (.int (Int32.ofNat j)), .val (.int (Int32.ofNat (cs).length)), .unset] []))
    refine own_st (fun _ k => XS.iloadN X102.here hx rfl (hb hby d11_15) rfl k) ?_
    show own_Go p e below s _ _ _ (T102.setTop (mkF m 16 #[.val (.ref a1), .val (.int (Int32.ofNat i)), .val (.int (Int32.ofNat j)), .val (.int (Int32.ofNat (cs).length)), .unset] [(.int (Int32.ofNat j))]))
    refine own_st (fun _ k => XS.iloadN X102.here hx rfl (hb hby d11_16) rfl k) ?_
    show own_Go p e below s _ _ _ (T102.setTop (mkF m 17 #[.val (.ref a1), .val (.int (Int32.ofNat i)), .val (.int (Int32.ofNat j)), .val (.int (Int32.ofNat (cs).length)), .unset] [(.int (Int32.ofNat (cs).length)), (.int (Int32.ofNat j))]))
    by_cases c104 : (Int32.ofNat j) = (Int32.ofNat (cs).length)
    · refine own_st (fun _ k => XS.icmpNo X102.here hx rfl (hb hby d11_17) rfl (teq c104).2 k) ?_
      show own_Go p e below s _ _ _ (T102.setTop (mkF m 20 #[.val (.ref a1), .val (.int (Int32.ofNat i)), .val (.int (Int32.ofNat j)), .val (.int (Int32.ofNat (cs).length)), .unset] []))
      refine own_st (fun _ k => XS.aloadN X102.here hx rfl (hb hby d11_20) rfl rfl k) ?_
      show own_Go p e below s _ _ _ (T102.setTop (mkF m 21 #[.val (.ref a1), .val (.int (Int32.ofNat i)), .val (.int (Int32.ofNat j)), .val (.int (Int32.ofNat (cs).length)), .unset] [(.ref a1)]))
      have qi : i = 0 := (own_nin (b := 0) (by omega) (by omega)).mp c103
      have qj : j = cs.length := (own_nin (by omega) (by omega)).mp c104
      exact own_ret X102 hx hlk e102 hret rfl (Or.inr (Or.inr (Or.inr (Or.inr ⟨rfl, rfl, rfl⟩)))) (hb hby d11_21) (by decide) (by decide) ⟨N102, a1, rfl, (Keep.refl h0 []), by rw [qi, qj, List.drop_zero, Nat.sub_zero, List.take_length]; exact S1⟩
    · refine own_st (fun _ k => XS.icmpYes X102.here hx rfl (pc0 := 17) (pc' := 22) rfl (hb hby d11_17) rfl (feq c104).2 (by decide) (by decide) k) ?_
      show own_Go p e below s _ _ _ (T102.setTop (mkF m 22 #[.val (.ref a1), .val (.int (Int32.ofNat i)), .val (.int (Int32.ofNat j)), .val (.int (Int32.ofNat (cs).length)), .unset] []))
      refine own_st (fun _ k => XS.iloadN X102.here hx rfl (hb hby d11_22) rfl k) ?_
      show own_Go p e below s _ _ _ (T102.setTop (mkF m 23 #[.val (.ref a1), .val (.int (Int32.ofNat i)), .val (.int (Int32.ofNat j)), .val (.int (Int32.ofNat (cs).length)), .unset] [(.int (Int32.ofNat j))]))
      refine own_st (fun _ k => XS.iloadN X102.here hx rfl (hb hby d11_23) rfl k) ?_
      show own_Go p e below s _ _ _ (T102.setTop (mkF m 24 #[.val (.ref a1), .val (.int (Int32.ofNat i)), .val (.int (Int32.ofNat j)), .val (.int (Int32.ofNat (cs).length)), .unset] [(.int (Int32.ofNat i)), (.int (Int32.ofNat j))]))
      refine own_st (fun _ k => XS.isub X102.here hx rfl (hb hby d11_24) rfl k) ?_
      show own_Go p e below s _ _ _ (T102.setTop (mkF m 25 #[.val (.ref a1), .val (.int (Int32.ofNat i)), .val (.int (Int32.ofNat j)), .val (.int (Int32.ofNat (cs).length)), .unset] [(.int ((Int32.ofNat j) - (Int32.ofNat i)))]))
      rw [own_nsub (by omega) (by omega)]
      show own_Go p e below s _ _ _ (T102.setTop (mkF m 25 #[.val (.ref a1), .val (.int (Int32.ofNat i)), .val (.int (Int32.ofNat j)), .val (.int (Int32.ofNat (cs).length)), .unset] [(.int (Int32.ofNat (j - i)))]))
      refine own_st (fun _ k => XS.istore X102.here hx rfl (hb hby d11_25) rfl (l' := #[.val (.ref a1), .val (.int (Int32.ofNat i)), .val (.int (Int32.ofNat j)), .val (.int (Int32.ofNat (cs).length)), .val (.int (Int32.ofNat (j - i)))]) rfl k) ?_
      show own_Go p e below s _ _ _ (T102.setTop (mkF m 27 #[.val (.ref a1), .val (.int (Int32.ofNat i)), .val (.int (Int32.ofNat j)), .val (.int (Int32.ofNat (cs).length)), .val (.int (Int32.ofNat (j - i)))] []))
      refine own_st (fun _ k => XS.aloadN X102.here hx rfl (hb hby d11_27) rfl rfl k) ?_
      show own_Go p e below s _ _ _ (T102.setTop (mkF m 28 #[.val (.ref a1), .val (.int (Int32.ofNat i)), .val (.int (Int32.ofNat j)), .val (.int (Int32.ofNat (cs).length)), .val (.int (Int32.ofNat (j - i)))] [(.ref a1)]))
      obtain ⟨T105, v105, L105, h105, X105, e105, q105, st105⟩ := own_callV X102 hx hZ (y := (⟨"java/lang/String", "isLatin1", "()Z"⟩ : MethodName)) (z := (⟨"java/lang/String", "isLatin1", "()Z"⟩ : MethodName)) hown (hw _ (List.mem_of_getElem? (i := 82) rfl)) (hw _ (List.mem_of_getElem? (i := 83) rfl)) (notFace_of_selects (args := #[]) (mvT hZ (hw _ (List.mem_of_getElem? (i := 85) rfl)))) (hw _ (List.mem_of_getElem? (i := 85) rfl)) (hw _ (List.mem_of_getElem? (i := 84) rfl)) (by decide) (own_bk (W := 0) (ilW l Z a0 hw a1 h0 n0 O0 CS F2) hZ (hw _ (List.mem_of_getElem? (i := 86) rfl)) (hw _ (List.mem_of_getElem? (i := 8) rfl)) (by decide) (by decide)) e102 S1.1 (by decide) (by decide) (g := (mkF m 28 #[.val (.ref a1), .val (.int (Int32.ofNat i)), .val (.int (Int32.ofNat j)), .val (.int (Int32.ofNat (cs).length)), .val (.int (Int32.ofNat (j - i)))] [(.ref a1)])) rfl (by rw [hml]; rfl) (argsL := []) (rest := []) (lenOf pd__28_29Z rfl) rfl rfl (by show 2 * 0 + _ ≤ _; exact Nat.le_of_eq rfl) (hb hby d11_28)
      obtain ⟨rfl, N105q, hq105⟩ := q105
      replace e105 := e105.trans hq105
      refine own_st st105 ?_
      have N105 := Fr.app N102 N105q
      show own_Go p e below s _ _ _ (T105.setTop (mkF m 31 #[.val (.ref a1), .val (.int (Int32.ofNat i)), .val (.int (Int32.ofNat j)), .val (.int (Int32.ofNat (cs).length)), .val (.int (Int32.ofNat (j - i)))] [(.int (1 : Int32))]))
      refine own_st (fun _ k => XS.ifNo X105.here hx rfl (hb hby d11_31) rfl ((if0 _ _).trans (feq (by decide)).1) k) ?_
      show own_Go p e below s _ _ _ (T105.setTop (mkF m 34 #[.val (.ref a1), .val (.int (Int32.ofNat i)), .val (.int (Int32.ofNat j)), .val (.int (Int32.ofNat (cs).length)), .val (.int (Int32.ofNat (j - i)))] []))
      refine own_st (fun _ k => XS.aloadN X105.here hx rfl (hb hby d11_34) rfl rfl k) ?_
      show own_Go p e below s _ _ _ (T105.setTop (mkF m 35 #[.val (.ref a1), .val (.int (Int32.ofNat i)), .val (.int (Int32.ofNat j)), .val (.int (Int32.ofNat (cs).length)), .val (.int (Int32.ofNat (j - i)))] [(.ref a1)]))
      obtain ⟨T106, X106, e106, st106⟩ := getF X105 hx hZ hown (host := "") (Or.inl (hw _ (List.mem_of_getElem? (i := 33) rfl))) Via.refl e105 F1 (g := (mkF m 35 #[.val (.ref a1), .val (.int (Int32.ofNat i)), .val (.int (Int32.ofNat j)), .val (.int (Int32.ofNat (cs).length)), .val (.int (Int32.ofNat (j - i)))] [(.ref a1)])) rfl rfl (hb hby d11_35)
      refine own_st st106 ?_
      show own_Go p e below s _ _ _ (T106.setTop (mkF m 38 #[.val (.ref a1), .val (.int (Int32.ofNat i)), .val (.int (Int32.ofNat j)), .val (.int (Int32.ofNat (cs).length)), .val (.int (Int32.ofNat (j - i)))] [(.ref t1)]))
      refine own_st (fun _ k => XS.iloadN X106.here hx rfl (hb hby d11_38) rfl k) ?_
      show own_Go p e below s _ _ _ (T106.setTop (mkF m 39 #[.val (.ref a1), .val (.int (Int32.ofNat i)), .val (.int (Int32.ofNat j)), .val (.int (Int32.ofNat (cs).length)), .val (.int (Int32.ofNat (j - i)))] [(.int (Int32.ofNat i)), (.ref t1)]))
      refine own_st (fun _ k => XS.iload X106.here hx rfl (hb hby d11_39) rfl k) ?_
      show own_Go p e below s _ _ _ (T106.setTop (mkF m 41 #[.val (.ref a1), .val (.int (Int32.ofNat i)), .val (.int (Int32.ofNat j)), .val (.int (Int32.ofNat (cs).length)), .val (.int (Int32.ofNat (j - i)))] [(.int (Int32.ofNat (j - i))), (.int (Int32.ofNat i)), (.ref t1)]))
      obtain ⟨T107, v107, L107, h107, X107, e107, q107, st107⟩ := own_callS X106 hx hZ (y := (⟨"java/lang/StringLatin1", "newString", "([BII)Ljava/lang/String;"⟩ : MethodName)) hown (hw _ (List.mem_of_getElem? (i := 87) rfl)) (hw _ (List.mem_of_getElem? (i := 88) rfl)) (hw _ (List.mem_of_getElem? (i := 89) rfl)) (hw _ (List.mem_of_getElem? (i := 90) rfl)) (by decide) (own_bk (W := 0) (nsW l Z a0 hw t1 _ cs i (j - i) h0 n0 O0 (by omega) (by omega) hk (fun q => absurd ((own_nin (by omega) (by omega)).mpr (by omega : j = cs.length)) c104) hbd A1) hZ (hw _ (List.mem_of_getElem? (i := 90) rfl)) (hw _ (List.mem_of_getElem? (i := 89) rfl)) (by decide) (by decide)) e106 (by decide) (by decide) (g := (mkF m 41 #[.val (.ref a1), .val (.int (Int32.ofNat i)), .val (.int (Int32.ofNat j)), .val (.int (Int32.ofNat (cs).length)), .val (.int (Int32.ofNat (j - i)))] [(.int (Int32.ofNat (j - i))), (.int (Int32.ofNat i)), (.ref t1)])) rfl (by rw [hml]; rfl) (argsL := [(.ref t1), (.int (Int32.ofNat i)), (.int (Int32.ofNat (j - i)))]) (rest := []) (lenOf pd__28_5bBII_29Ljava_2flang_2fString_3b rfl) rfl rfl (by show 2 * 0 + _ ≤ _; exact Nat.le_of_eq rfl) (hb hby d11_41)
      obtain ⟨N107q, b107, rfl, K107, zb107, S107⟩ := q107
      refine own_st st107 ?_
      have zK107 := K107.1
      have N107 := Fr.app N105 N107q
      have A107 := S107.1
      show own_Go p e below s _ _ _ (T107.setTop (mkF m 44 #[.val (.ref a1), .val (.int (Int32.ofNat i)), .val (.int (Int32.ofNat j)), .val (.int (Int32.ofNat (cs).length)), .val (.int (Int32.ofNat (j - i)))] [(.ref b107)]))
      refine own_st (fun _ k => XS.goto X107.here hx rfl (pc0 := 44) (pc' := 57) rfl (hb hby d11_44) (by decide) (by decide) k) ?_
      show own_Go p e below s _ _ _ (T107.setTop (mkF m 57 #[.val (.ref a1), .val (.int (Int32.ofNat i)), .val (.int (Int32.ofNat j)), .val (.int (Int32.ofNat (cs).length)), .val (.int (Int32.ofNat (j - i)))] [(.ref b107)]))
      exact own_ret X107 hx hlk e107 hret rfl (Or.inr (Or.inr (Or.inr (Or.inr ⟨rfl, rfl, rfl⟩)))) (hb hby d11_57) (by decide) (by decide) ⟨N107, b107, rfl, ((Keep.refl h0 []).trans K107 all0), S107⟩
  · refine own_st (fun _ k => XS.ifYes X102.here hx rfl (pc0 := 12) (pc' := 22) rfl (hb hby d11_12) rfl ((if0 _ _).trans (feq c103).2) (by decide) (by decide) k) ?_
    show own_Go p e below s _ _ _ (T102.setTop (mkF m 22 #[.val (.ref a1), .val (.int (Int32.ofNat i)), .val (.int (Int32.ofNat j)), .val (.int (Int32.ofNat (cs).length)), .unset] []))
    refine own_st (fun _ k => XS.iloadN X102.here hx rfl (hb hby d11_22) rfl k) ?_
    show own_Go p e below s _ _ _ (T102.setTop (mkF m 23 #[.val (.ref a1), .val (.int (Int32.ofNat i)), .val (.int (Int32.ofNat j)), .val (.int (Int32.ofNat (cs).length)), .unset] [(.int (Int32.ofNat j))]))
    refine own_st (fun _ k => XS.iloadN X102.here hx rfl (hb hby d11_23) rfl k) ?_
    show own_Go p e below s _ _ _ (T102.setTop (mkF m 24 #[.val (.ref a1), .val (.int (Int32.ofNat i)), .val (.int (Int32.ofNat j)), .val (.int (Int32.ofNat (cs).length)), .unset] [(.int (Int32.ofNat i)), (.int (Int32.ofNat j))]))
    refine own_st (fun _ k => XS.isub X102.here hx rfl (hb hby d11_24) rfl k) ?_
    show own_Go p e below s _ _ _ (T102.setTop (mkF m 25 #[.val (.ref a1), .val (.int (Int32.ofNat i)), .val (.int (Int32.ofNat j)), .val (.int (Int32.ofNat (cs).length)), .unset] [(.int ((Int32.ofNat j) - (Int32.ofNat i)))]))
    rw [own_nsub (by omega) (by omega)]
    show own_Go p e below s _ _ _ (T102.setTop (mkF m 25 #[.val (.ref a1), .val (.int (Int32.ofNat i)), .val (.int (Int32.ofNat j)), .val (.int (Int32.ofNat (cs).length)), .unset] [(.int (Int32.ofNat (j - i)))]))
    refine own_st (fun _ k => XS.istore X102.here hx rfl (hb hby d11_25) rfl (l' := #[.val (.ref a1), .val (.int (Int32.ofNat i)), .val (.int (Int32.ofNat j)), .val (.int (Int32.ofNat (cs).length)), .val (.int (Int32.ofNat (j - i)))]) rfl k) ?_
    show own_Go p e below s _ _ _ (T102.setTop (mkF m 27 #[.val (.ref a1), .val (.int (Int32.ofNat i)), .val (.int (Int32.ofNat j)), .val (.int (Int32.ofNat (cs).length)), .val (.int (Int32.ofNat (j - i)))] []))
    refine own_st (fun _ k => XS.aloadN X102.here hx rfl (hb hby d11_27) rfl rfl k) ?_
    show own_Go p e below s _ _ _ (T102.setTop (mkF m 28 #[.val (.ref a1), .val (.int (Int32.ofNat i)), .val (.int (Int32.ofNat j)), .val (.int (Int32.ofNat (cs).length)), .val (.int (Int32.ofNat (j - i)))] [(.ref a1)]))
    obtain ⟨T108, v108, L108, h108, X108, e108, q108, st108⟩ := own_callV X102 hx hZ (y := (⟨"java/lang/String", "isLatin1", "()Z"⟩ : MethodName)) (z := (⟨"java/lang/String", "isLatin1", "()Z"⟩ : MethodName)) hown (hw _ (List.mem_of_getElem? (i := 82) rfl)) (hw _ (List.mem_of_getElem? (i := 83) rfl)) (notFace_of_selects (args := #[]) (mvT hZ (hw _ (List.mem_of_getElem? (i := 85) rfl)))) (hw _ (List.mem_of_getElem? (i := 85) rfl)) (hw _ (List.mem_of_getElem? (i := 84) rfl)) (by decide) (own_bk (W := 0) (ilW l Z a0 hw a1 h0 n0 O0 CS F2) hZ (hw _ (List.mem_of_getElem? (i := 86) rfl)) (hw _ (List.mem_of_getElem? (i := 8) rfl)) (by decide) (by decide)) e102 S1.1 (by decide) (by decide) (g := (mkF m 28 #[.val (.ref a1), .val (.int (Int32.ofNat i)), .val (.int (Int32.ofNat j)), .val (.int (Int32.ofNat (cs).length)), .val (.int (Int32.ofNat (j - i)))] [(.ref a1)])) rfl (by rw [hml]; rfl) (argsL := []) (rest := []) (lenOf pd__28_29Z rfl) rfl rfl (by show 2 * 0 + _ ≤ _; exact Nat.le_of_eq rfl) (hb hby d11_28)
    obtain ⟨rfl, N108q, hq108⟩ := q108
    replace e108 := e108.trans hq108
    refine own_st st108 ?_
    have N108 := Fr.app N102 N108q
    show own_Go p e below s _ _ _ (T108.setTop (mkF m 31 #[.val (.ref a1), .val (.int (Int32.ofNat i)), .val (.int (Int32.ofNat j)), .val (.int (Int32.ofNat (cs).length)), .val (.int (Int32.ofNat (j - i)))] [(.int (1 : Int32))]))
    refine own_st (fun _ k => XS.ifNo X108.here hx rfl (hb hby d11_31) rfl ((if0 _ _).trans (feq (by decide)).1) k) ?_
    show own_Go p e below s _ _ _ (T108.setTop (mkF m 34 #[.val (.ref a1), .val (.int (Int32.ofNat i)), .val (.int (Int32.ofNat j)), .val (.int (Int32.ofNat (cs).length)), .val (.int (Int32.ofNat (j - i)))] []))
    refine own_st (fun _ k => XS.aloadN X108.here hx rfl (hb hby d11_34) rfl rfl k) ?_
    show own_Go p e below s _ _ _ (T108.setTop (mkF m 35 #[.val (.ref a1), .val (.int (Int32.ofNat i)), .val (.int (Int32.ofNat j)), .val (.int (Int32.ofNat (cs).length)), .val (.int (Int32.ofNat (j - i)))] [(.ref a1)]))
    obtain ⟨T109, X109, e109, st109⟩ := getF X108 hx hZ hown (host := "") (Or.inl (hw _ (List.mem_of_getElem? (i := 33) rfl))) Via.refl e108 F1 (g := (mkF m 35 #[.val (.ref a1), .val (.int (Int32.ofNat i)), .val (.int (Int32.ofNat j)), .val (.int (Int32.ofNat (cs).length)), .val (.int (Int32.ofNat (j - i)))] [(.ref a1)])) rfl rfl (hb hby d11_35)
    refine own_st st109 ?_
    show own_Go p e below s _ _ _ (T109.setTop (mkF m 38 #[.val (.ref a1), .val (.int (Int32.ofNat i)), .val (.int (Int32.ofNat j)), .val (.int (Int32.ofNat (cs).length)), .val (.int (Int32.ofNat (j - i)))] [(.ref t1)]))
    refine own_st (fun _ k => XS.iloadN X109.here hx rfl (hb hby d11_38) rfl k) ?_
    show own_Go p e below s _ _ _ (T109.setTop (mkF m 39 #[.val (.ref a1), .val (.int (Int32.ofNat i)), .val (.int (Int32.ofNat j)), .val (.int (Int32.ofNat (cs).length)), .val (.int (Int32.ofNat (j - i)))] [(.int (Int32.ofNat i)), (.ref t1)]))
    refine own_st (fun _ k => XS.iload X109.here hx rfl (hb hby d11_39) rfl k) ?_
    show own_Go p e below s _ _ _ (T109.setTop (mkF m 41 #[.val (.ref a1), .val (.int (Int32.ofNat i)), .val (.int (Int32.ofNat j)), .val (.int (Int32.ofNat (cs).length)), .val (.int (Int32.ofNat (j - i)))] [(.int (Int32.ofNat (j - i))), (.int (Int32.ofNat i)), (.ref t1)]))
    obtain ⟨T110, v110, L110, h110, X110, e110, q110, st110⟩ := own_callS X109 hx hZ (y := (⟨"java/lang/StringLatin1", "newString", "([BII)Ljava/lang/String;"⟩ : MethodName)) hown (hw _ (List.mem_of_getElem? (i := 87) rfl)) (hw _ (List.mem_of_getElem? (i := 88) rfl)) (hw _ (List.mem_of_getElem? (i := 89) rfl)) (hw _ (List.mem_of_getElem? (i := 90) rfl)) (by decide) (own_bk (W := 0) (nsW l Z a0 hw t1 _ cs i (j - i) h0 n0 O0 (by omega) (by omega) hk (fun q => absurd ((own_nin (b := 0) (by omega) (by omega)).mpr q.1) c103) hbd A1) hZ (hw _ (List.mem_of_getElem? (i := 90) rfl)) (hw _ (List.mem_of_getElem? (i := 89) rfl)) (by decide) (by decide)) e109 (by decide) (by decide) (g := (mkF m 41 #[.val (.ref a1), .val (.int (Int32.ofNat i)), .val (.int (Int32.ofNat j)), .val (.int (Int32.ofNat (cs).length)), .val (.int (Int32.ofNat (j - i)))] [(.int (Int32.ofNat (j - i))), (.int (Int32.ofNat i)), (.ref t1)])) rfl (by rw [hml]; rfl) (argsL := [(.ref t1), (.int (Int32.ofNat i)), (.int (Int32.ofNat (j - i)))]) (rest := []) (lenOf pd__28_5bBII_29Ljava_2flang_2fString_3b rfl) rfl rfl (by show 2 * 0 + _ ≤ _; exact Nat.le_of_eq rfl) (hb hby d11_41)
    obtain ⟨N110q, b110, rfl, K110, zb110, S110⟩ := q110
    refine own_st st110 ?_
    have zK110 := K110.1
    have N110 := Fr.app N108 N110q
    have A110 := S110.1
    show own_Go p e below s _ _ _ (T110.setTop (mkF m 44 #[.val (.ref a1), .val (.int (Int32.ofNat i)), .val (.int (Int32.ofNat j)), .val (.int (Int32.ofNat (cs).length)), .val (.int (Int32.ofNat (j - i)))] [(.ref b110)]))
    refine own_st (fun _ k => XS.goto X110.here hx rfl (pc0 := 44) (pc' := 57) rfl (hb hby d11_44) (by decide) (by decide) k) ?_
    show own_Go p e below s _ _ _ (T110.setTop (mkF m 57 #[.val (.ref a1), .val (.int (Int32.ofNat i)), .val (.int (Int32.ofNat j)), .val (.int (Int32.ofNat (cs).length)), .val (.int (Int32.ofNat (j - i)))] [(.ref b110)]))
    exact own_ret X110 hx hlk e110 hret rfl (Or.inr (Or.inr (Or.inr (Or.inr ⟨rfl, rfl, rfl⟩)))) (hb hby d11_57) (by decide) (by decide) ⟨N110, b110, rfl, ((Keep.refl h0 []).trans K110 all0), S110⟩
theorem d10_0 : decode prog_9_method_2_code 0 = .ok (.aload_n 1, 1) := by decide +kernel
theorem d10_1 : decode prog_9_method_2_code 1 = .ok (.aload_n 0, 1) := by decide +kernel
theorem d10_2 : decode prog_9_method_2_code 2 = .ok (.getfield 13, 3) := by decide +kernel
theorem d10_5 : decode prog_9_method_2_code 5 = .ok (.iconst 1, 1) := by decide +kernel
theorem d10_6 : decode prog_9_method_2_code 6 = .ok (.isub, 1) := by decide +kernel
theorem d10_7 : decode prog_9_method_2_code 7 = .ok (.aload_n 0, 1) := by decide +kernel
theorem d10_8 : decode prog_9_method_2_code 8 = .ok (.getfield 16, 3) := by decide +kernel
theorem pd__28II_29Ljava_2flang_2fString_3b : parseMethodDescriptor "(II)Ljava/lang/String;" = some ⟨[.int, .int], some (.object "java/lang/String")⟩ := by decide +kernel
theorem d10_11 : decode prog_9_method_2_code 11 = .ok (.invokevirtual 19, 3) := by decide +kernel
theorem d10_14 : decode prog_9_method_2_code 14 = .ok (.areturn, 1) := by decide +kernel
theorem ef_inW (m : MethodId) (x0 : Addr) (x1 : Addr) : entryFrame m #[(.ref x0), (.ref x1)] 2 = mkF m 0 #[.val (.ref x0), .val (.ref x1)] [] := by (first | (simp [entryFrame, mkF, argsToLocals, Value.category]; done) | rfl)
abbrev inWR : Room := { frames := 5, cells := 2, slots := 10, locals := 102 }
set_option maxRecDepth 65536 in
set_option maxHeartbeats 40000000 in
theorem inW (l : Launch) (Z : State) (a0 : Array Value) (hw : ∀ d ∈ tables_1, d.before a0 Z = true) (a1 a2 : Addr) (cs : List Int32) (a b : Nat) (h0 : Heap) (n0 : Nat) (O0 : Old Z n0 h0) (CS : own_CS Z) (FM : own_FM Z) (ha : 1 ≤ a) (hab : a ≤ b) (hbl : b ≤ cs.length) (hk : cs.length ≤ 6) (hbd : ∀ c ∈ cs, ¬ c < 0 ∧ ¬ (255 : Int32) < c) (F1 : Fld Z h0 a1 "com/example/staffetta/staffetta/ArchiveLayout$Field" "first" "I" (.int (Int32.ofNat a))) (F2 : Fld Z h0 a1 "com/example/staffetta/staffetta/ArchiveLayout$Field" "last" "I" (.int (Int32.ofNat b))) (S1 : own_Str Z h0 a2 cs) :
    own_C l Z (⟨"com/example/staffetta/staffetta/ArchiveLayout$Field", "in", "(Ljava/lang/String;)Ljava/lang/String;"⟩ : MethodName) prog_9_method_2_code 2 (some (.object "java/lang/String")) [] inWR #[(.ref a1), (.ref a2)] h0 (fun v h L => Fr n0 L ∧ ∃ r : Nat, v = some (.ref r) ∧ Keep h0 h [] ∧ own_Str Z h r ((cs.drop (a - 1)).take (b - (a - 1)))) := by
  refine own_body (plainFor_of_name pn_com_example_staffetta_staffetta_ArchiveLayout_Field) ?_
  intro p e s m below meth c T0 X0 hx hby hml hZ hown hnm hret hlk e0
  have N0 := Fr.nil n0
  have zO := own_old O0
  refine own_st (fun _ k => castTop (ef_inW m a1 a2) k) ?_
  show own_Go p e below s _ _ _ (T0.setTop (mkF m 0 #[.val (.ref a1), .val (.ref a2)] []))
  refine own_st (fun _ k => XS.aloadN X0.here hx rfl (hb hby d10_0) rfl rfl k) ?_
  show own_Go p e below s _ _ _ (T0.setTop (mkF m 1 #[.val (.ref a1), .val (.ref a2)] [(.ref a2)]))
  refine own_st (fun _ k => XS.aloadN X0.here hx rfl (hb hby d10_1) rfl rfl k) ?_
  show own_Go p e below s _ _ _ (T0.setTop (mkF m 2 #[.val (.ref a1), .val (.ref a2)] [(.ref a1), (.ref a2)]))
  obtain ⟨T101, X101, e101, st101⟩ := getF X0 hx hZ hown (host := "") (Or.inl (hw _ (List.mem_of_getElem? (i := 50) rfl))) Via.refl e0 F1 (g := (mkF m 2 #[.val (.ref a1), .val (.ref a2)] [(.ref a1), (.ref a2)])) rfl rfl (hb hby d10_2)
  refine own_st st101 ?_
  show own_Go p e below s _ _ _ (T101.setTop (mkF m 5 #[.val (.ref a1), .val (.ref a2)] [(.int (Int32.ofNat a)), (.ref a2)]))
  refine own_st (fun _ k => XS.iconst X101.here hx rfl (hb hby d10_5) k) ?_
  show own_Go p e below s _ _ _ (T101.setTop (mkF m 6 #[.val (.ref a1), .val (.ref a2)] [(.int (1 : Int32)), (.int (Int32.ofNat a)), (.ref a2)]))
  refine own_st (fun _ k => XS.isub X101.here hx rfl (hb hby d10_6) rfl k) ?_
  show own_Go p e below s _ _ _ (T101.setTop (mkF m 7 #[.val (.ref a1), .val (.ref a2)] [(.int ((Int32.ofNat a) - (1 : Int32))), (.ref a2)]))
  rw [show Int32.ofNat a - (1 : Int32) = Int32.ofNat (a - 1) from own_nsub (a := 1) ha (by omega)]
  show own_Go p e below s _ _ _ (T101.setTop (mkF m 7 #[.val (.ref a1), .val (.ref a2)] [(.int (Int32.ofNat (a - 1))), (.ref a2)]))
  refine own_st (fun _ k => XS.aloadN X101.here hx rfl (hb hby d10_7) rfl rfl k) ?_
  show own_Go p e below s _ _ _ (T101.setTop (mkF m 8 #[.val (.ref a1), .val (.ref a2)] [(.ref a1), (.int (Int32.ofNat (a - 1))), (.ref a2)]))
  obtain ⟨T102, X102, e102, st102⟩ := getF X101 hx hZ hown (host := "") (Or.inl (hw _ (List.mem_of_getElem? (i := 52) rfl))) Via.refl e101 F2 (g := (mkF m 8 #[.val (.ref a1), .val (.ref a2)] [(.ref a1), (.int (Int32.ofNat (a - 1))), (.ref a2)])) rfl rfl (hb hby d10_8)
  refine own_st st102 ?_
  show own_Go p e below s _ _ _ (T102.setTop (mkF m 11 #[.val (.ref a1), .val (.ref a2)] [(.int (Int32.ofNat b)), (.int (Int32.ofNat (a - 1))), (.ref a2)]))
  obtain ⟨T103, v103, L103, h103, X103, e103, q103, st103⟩ := own_callV X102 hx hZ (y := (⟨"java/lang/String", "substring", "(II)Ljava/lang/String;"⟩ : MethodName)) (z := (⟨"java/lang/String", "substring", "(II)Ljava/lang/String;"⟩ : MethodName)) hown (hw _ (List.mem_of_getElem? (i := 59) rfl)) (hw _ (List.mem_of_getElem? (i := 60) rfl)) (notFace_of_selects (args := #[]) (mvT hZ (hw _ (List.mem_of_getElem? (i := 62) rfl)))) (hw _ (List.mem_of_getElem? (i := 62) rfl)) (hw _ (List.mem_of_getElem? (i := 61) rfl)) (by decide) (own_bk (W := 0) (ssW l Z a0 hw a2 cs (a - 1) b h0 n0 O0 CS FM (by omega) hbl hk hbd S1) hZ (hw _ (List.mem_of_getElem? (i := 63) rfl)) (hw _ (List.mem_of_getElem? (i := 8) rfl)) (by decide) (by decide)) e102 S1.1 (by decide) (by decide) (g := (mkF m 11 #[.val (.ref a1), .val (.ref a2)] [(.int (Int32.ofNat b)), (.int (Int32.ofNat (a - 1))), (.ref a2)])) rfl (by rw [hml]; rfl) (argsL := [(.int (Int32.ofNat (a - 1))), (.int (Int32.ofNat b))]) (rest := []) (lenOf pd__28II_29Ljava_2flang_2fString_3b rfl) rfl rfl (by show 2 * 0 + _ ≤ _; exact Nat.le_of_eq rfl) (hb hby d10_11)
  obtain ⟨N103q, b103, rfl, K103, S103⟩ := q103
  refine own_st st103 ?_
  have zK103 := K103.1
  have N103 := Fr.app N0 N103q
  have A103 := S103.1
  show own_Go p e below s _ _ _ (T103.setTop (mkF m 14 #[.val (.ref a1), .val (.ref a2)] [(.ref b103)]))
  exact own_ret X103 hx hlk e103 hret rfl (Or.inr (Or.inr (Or.inr (Or.inr ⟨rfl, rfl, rfl⟩)))) (hb hby d10_14) (by decide) (by decide) ⟨N103, b103, rfl, ((Keep.refl h0 []).trans K103 all0), S103⟩
theorem d23_0 : decode method_3_code 0 = .ok (.iload 4, 2) := by decide +kernel
theorem d23_2 : decode method_3_code 2 = .ok (.iload_n 3, 1) := by decide +kernel
theorem d23_3 : decode method_3_code 3 = .ok (.if_icmp .lt 5, 3) := by decide +kernel
theorem d23_8 : decode method_3_code 8 = .ok (.aload_n 0, 1) := by decide +kernel
theorem d23_9 : decode method_3_code 9 = .ok (.iload 4, 2) := by decide +kernel
theorem pd__28I_29C : parseMethodDescriptor "(I)C" = some ⟨[.int], some .char⟩ := by decide +kernel
theorem d23_11 : decode method_3_code 11 = .ok (.invokevirtual 9, 3) := by decide +kernel
theorem d23_14 : decode method_3_code 14 = .ok (.aload_n 1, 1) := by decide +kernel
theorem d23_15 : decode method_3_code 15 = .ok (.iload_n 2, 1) := by decide +kernel
theorem d23_16 : decode method_3_code 16 = .ok (.iload 4, 2) := by decide +kernel
theorem d23_18 : decode method_3_code 18 = .ok (.iadd, 1) := by decide +kernel
theorem d23_19 : decode method_3_code 19 = .ok (.invokevirtual 9, 3) := by decide +kernel
theorem d23_22 : decode method_3_code 22 = .ok (.if_icmp .ne 7, 3) := by decide +kernel
theorem d23_25 : decode method_3_code 25 = .ok (.iconst 1, 1) := by decide +kernel
theorem d23_26 : decode method_3_code 26 = .ok (.goto 4, 3) := by decide +kernel
theorem d23_30 : decode method_3_code 30 = .ok (.ireturn, 1) := by decide +kernel
theorem d23_6 : decode method_3_code 6 = .ok (.iconst 1, 1) := by decide +kernel
theorem d23_7 : decode method_3_code 7 = .ok (.ireturn, 1) := by decide +kernel
theorem ef_atW (m : MethodId) (x0 : Addr) (x1 : Addr) (x2 : Int32) (x3 : Int32) (x4 : Int32) : entryFrame m #[(.ref x0), (.ref x1), (.int x2), (.int x3), (.int x4)] 5 = mkF m 0 #[.val (.ref x0), .val (.ref x1), .val (.int x2), .val (.int x3), .val (.int x4)] [] := by (first | (simp [entryFrame, mkF, argsToLocals, Value.category]; done) | rfl)
abbrev atWR : Room := { frames := 4, cells := 0, slots := 0, locals := 54 }
set_option maxRecDepth 65536 in
set_option maxHeartbeats 40000000 in
theorem atW (l : Launch) (Z : State) (a0 : Array Value) (hw : ∀ d ∈ tables_1, d.before a0 Z = true) (a1 a2 : Addr) (cs ds : List Int32) (st n i : Nat) (h0 : Heap) (n0 : Nat) (O0 : Old Z n0 h0) (CS : own_CS Z) (FM : own_FM Z) (hds : ds = (cs.drop st).take n) (hn : st + n ≤ cs.length) (hk : cs.length ≤ 6) (hi : i ≤ 6) (hbd : ∀ c ∈ cs, ¬ c < 0 ∧ ¬ (255 : Int32) < c) (S1 : own_Str Z h0 a1 ds) (S2 : own_Str Z h0 a2 cs) :
    own_C l Z (⟨"com/example/staffetta/staffetta/FieldInPinLaw", "at", "(Ljava/lang/String;Ljava/lang/String;III)Z"⟩ : MethodName) method_3_code 5 (some .boolean) [] atWR #[(.ref a1), (.ref a2), (.int (Int32.ofNat st)), (.int (Int32.ofNat n)), (.int (Int32.ofNat i))] h0 (fun v h L => v = some (.int 1) ∧ Fr n0 L ∧ h = h0) := by
  refine own_body (plainFor_of_name pn_com_example_staffetta_staffetta_FieldInPinLaw) ?_
  intro p e s m below meth c T0 X0 hx hby hml hZ hown hnm hret hlk e0
  have N0 := Fr.nil n0
  have zO := own_old O0
  refine own_st (fun _ k => castTop (ef_atW m a1 a2 (Int32.ofNat st) (Int32.ofNat n) (Int32.ofNat i)) k) ?_
  show own_Go p e below s _ _ _ (T0.setTop (mkF m 0 #[.val (.ref a1), .val (.ref a2), .val (.int (Int32.ofNat st)), .val (.int (Int32.ofNat n)), .val (.int (Int32.ofNat i))] []))
  refine own_st (fun _ k => XS.iload X0.here hx rfl (hb hby d23_0) rfl k) ?_
  show own_Go p e below s _ _ _ (T0.setTop (mkF m 2 #[.val (.ref a1), .val (.ref a2), .val (.int (Int32.ofNat st)), .val (.int (Int32.ofNat n)), .val (.int (Int32.ofNat i))] [(.int (Int32.ofNat i))]))
  refine own_st (fun _ k => XS.iloadN X0.here hx rfl (hb hby d23_2) rfl k) ?_
  show own_Go p e below s _ _ _ (T0.setTop (mkF m 3 #[.val (.ref a1), .val (.ref a2), .val (.int (Int32.ofNat st)), .val (.int (Int32.ofNat n)), .val (.int (Int32.ofNat i))] [(.int (Int32.ofNat n)), (.int (Int32.ofNat i))]))
  by_cases c101 : (Int32.ofNat i) < (Int32.ofNat n)
  · refine own_st (fun _ k => XS.icmpYes X0.here hx rfl (pc0 := 3) (pc' := 8) rfl (hb hby d23_3) rfl (tlt c101).1 (by decide) (by decide) k) ?_
    show own_Go p e below s _ _ _ (T0.setTop (mkF m 8 #[.val (.ref a1), .val (.ref a2), .val (.int (Int32.ofNat st)), .val (.int (Int32.ofNat n)), .val (.int (Int32.ofNat i))] []))
    have hin : i < n := (own_nlt (by omega) (by omega)).mp c101
    have hil : i < ds.length := by rw [hds, List.length_take, List.length_drop]; omega
    refine own_st (fun _ k => XS.aloadN X0.here hx rfl (hb hby d23_8) rfl rfl k) ?_
    show own_Go p e below s _ _ _ (T0.setTop (mkF m 9 #[.val (.ref a1), .val (.ref a2), .val (.int (Int32.ofNat st)), .val (.int (Int32.ofNat n)), .val (.int (Int32.ofNat i))] [(.ref a1)]))
    refine own_st (fun _ k => XS.iload X0.here hx rfl (hb hby d23_9) rfl k) ?_
    show own_Go p e below s _ _ _ (T0.setTop (mkF m 11 #[.val (.ref a1), .val (.ref a2), .val (.int (Int32.ofNat st)), .val (.int (Int32.ofNat n)), .val (.int (Int32.ofNat i))] [(.int (Int32.ofNat i)), (.ref a1)]))
    obtain ⟨T102, v102, L102, h102, X102, e102, q102, st102⟩ := own_callV X0 hx hZ (y := (⟨"java/lang/String", "charAt", "(I)C"⟩ : MethodName)) (z := (⟨"java/lang/String", "charAt", "(I)C"⟩ : MethodName)) hown (hw _ (List.mem_of_getElem? (i := 117) rfl)) (hw _ (List.mem_of_getElem? (i := 118) rfl)) (notFace_of_selects (args := #[]) (mvT hZ (hw _ (List.mem_of_getElem? (i := 120) rfl)))) (hw _ (List.mem_of_getElem? (i := 120) rfl)) (hw _ (List.mem_of_getElem? (i := 119) rfl)) (by decide) (own_chB (W := 0) hZ (own_wCh hw) (kI := 4) (hw _ (List.mem_of_getElem? (i := 7) rfl)) (i := i) O0 CS FM S1 (fun c hc => (hbd c (own_memdt (by rw [hds] at hc; exact hc))).2) hil rfl (by decide) (by decide)) e0 S1.1 (by decide) (by decide) (g := (mkF m 11 #[.val (.ref a1), .val (.ref a2), .val (.int (Int32.ofNat st)), .val (.int (Int32.ofNat n)), .val (.int (Int32.ofNat i))] [(.int (Int32.ofNat i)), (.ref a1)])) rfl (by rw [hml]; rfl) (argsL := [(.int (Int32.ofNat i))]) (rest := []) (lenOf pd__28I_29C rfl) rfl rfl (by show 2 * 0 + _ ≤ _; exact Nat.le_of_eq rfl) (hb hby d23_11)
    obtain ⟨rfl, N102q, hq102⟩ := q102
    replace e102 := e102.trans hq102
    refine own_st st102 ?_
    have N102 := Fr.app N0 N102q
    show own_Go p e below s _ _ _ (T102.setTop (mkF m 14 #[.val (.ref a1), .val (.ref a2), .val (.int (Int32.ofNat st)), .val (.int (Int32.ofNat n)), .val (.int (Int32.ofNat i))] [(.int (ds.getD i 0))]))
    refine own_st (fun _ k => XS.aloadN X102.here hx rfl (hb hby d23_14) rfl rfl k) ?_
    show own_Go p e below s _ _ _ (T102.setTop (mkF m 15 #[.val (.ref a1), .val (.ref a2), .val (.int (Int32.ofNat st)), .val (.int (Int32.ofNat n)), .val (.int (Int32.ofNat i))] [(.ref a2), (.int (ds.getD i 0))]))
    refine own_st (fun _ k => XS.iloadN X102.here hx rfl (hb hby d23_15) rfl k) ?_
    show own_Go p e below s _ _ _ (T102.setTop (mkF m 16 #[.val (.ref a1), .val (.ref a2), .val (.int (Int32.ofNat st)), .val (.int (Int32.ofNat n)), .val (.int (Int32.ofNat i))] [(.int (Int32.ofNat st)), (.ref a2), (.int (ds.getD i 0))]))
    refine own_st (fun _ k => XS.iload X102.here hx rfl (hb hby d23_16) rfl k) ?_
    show own_Go p e below s _ _ _ (T102.setTop (mkF m 18 #[.val (.ref a1), .val (.ref a2), .val (.int (Int32.ofNat st)), .val (.int (Int32.ofNat n)), .val (.int (Int32.ofNat i))] [(.int (Int32.ofNat i)), (.int (Int32.ofNat st)), (.ref a2), (.int (ds.getD i 0))]))
    refine own_st (fun _ k => XS.iadd X102.here hx rfl (hb hby d23_18) rfl k) ?_
    show own_Go p e below s _ _ _ (T102.setTop (mkF m 19 #[.val (.ref a1), .val (.ref a2), .val (.int (Int32.ofNat st)), .val (.int (Int32.ofNat n)), .val (.int (Int32.ofNat i))] [(.int ((Int32.ofNat st) + (Int32.ofNat i))), (.ref a2), (.int (ds.getD i 0))]))
    obtain ⟨T103, v103, L103, h103, X103, e103, q103, st103⟩ := own_callV X102 hx hZ (y := (⟨"java/lang/String", "charAt", "(I)C"⟩ : MethodName)) (z := (⟨"java/lang/String", "charAt", "(I)C"⟩ : MethodName)) hown (hw _ (List.mem_of_getElem? (i := 117) rfl)) (hw _ (List.mem_of_getElem? (i := 118) rfl)) (notFace_of_selects (args := #[]) (mvT hZ (hw _ (List.mem_of_getElem? (i := 120) rfl)))) (hw _ (List.mem_of_getElem? (i := 120) rfl)) (hw _ (List.mem_of_getElem? (i := 119) rfl)) (by decide) (own_chB (W := 1) hZ (own_wCh hw) (kI := 4) (hw _ (List.mem_of_getElem? (i := 7) rfl)) (i := (st + i)) O0 CS FM S2 (fun c hc => (hbd c hc).2) (by omega) (own_nadd (by omega)) (by decide) (by decide)) e102 S2.1 (by decide) (by decide) (g := (mkF m 19 #[.val (.ref a1), .val (.ref a2), .val (.int (Int32.ofNat st)), .val (.int (Int32.ofNat n)), .val (.int (Int32.ofNat i))] [(.int ((Int32.ofNat st) + (Int32.ofNat i))), (.ref a2), (.int (ds.getD i 0))])) rfl (by rw [hml]; rfl) (argsL := [(.int ((Int32.ofNat st) + (Int32.ofNat i)))]) (rest := [(.int (ds.getD i 0))]) (lenOf pd__28I_29C rfl) rfl rfl (by show 2 * 0 + _ ≤ _; exact Nat.le_of_eq rfl) (hb hby d23_19)
    obtain ⟨rfl, N103q, hq103⟩ := q103
    replace e103 := e103.trans hq103
    refine own_st st103 ?_
    have N103 := Fr.app N102 N103q
    show own_Go p e below s _ _ _ (T103.setTop (mkF m 22 #[.val (.ref a1), .val (.ref a2), .val (.int (Int32.ofNat st)), .val (.int (Int32.ofNat n)), .val (.int (Int32.ofNat i))] [(.int (cs.getD (st + i) 0)), (.int (ds.getD i 0))]))
    refine own_st (fun _ k => XS.icmpNo X103.here hx rfl (hb hby d23_22) rfl (teq (by rw [hds]; simp [List.getD_eq_getElem?_getD, List.getElem?_take, List.getElem?_drop, hin])).2 k) ?_
    show own_Go p e below s _ _ _ (T103.setTop (mkF m 25 #[.val (.ref a1), .val (.ref a2), .val (.int (Int32.ofNat st)), .val (.int (Int32.ofNat n)), .val (.int (Int32.ofNat i))] []))
    refine own_st (fun _ k => XS.iconst X103.here hx rfl (hb hby d23_25) k) ?_
    show own_Go p e below s _ _ _ (T103.setTop (mkF m 26 #[.val (.ref a1), .val (.ref a2), .val (.int (Int32.ofNat st)), .val (.int (Int32.ofNat n)), .val (.int (Int32.ofNat i))] [(.int (1 : Int32))]))
    refine own_st (fun _ k => XS.goto X103.here hx rfl (pc0 := 26) (pc' := 30) rfl (hb hby d23_26) (by decide) (by decide) k) ?_
    show own_Go p e below s _ _ _ (T103.setTop (mkF m 30 #[.val (.ref a1), .val (.ref a2), .val (.int (Int32.ofNat st)), .val (.int (Int32.ofNat n)), .val (.int (Int32.ofNat i))] [(.int (1 : Int32))]))
    exact own_ret X103 hx hlk e103 hret (by decide) (Or.inl ⟨rfl, Or.inr (Or.inl rfl), _, rfl⟩) (hb hby d23_30) (by decide) (by decide) ⟨rfl, N103, rfl⟩
  · refine own_st (fun _ k => XS.icmpNo X0.here hx rfl (hb hby d23_3) rfl (flt c101).1 k) ?_
    show own_Go p e below s _ _ _ (T0.setTop (mkF m 6 #[.val (.ref a1), .val (.ref a2), .val (.int (Int32.ofNat st)), .val (.int (Int32.ofNat n)), .val (.int (Int32.ofNat i))] []))
    refine own_st (fun _ k => XS.iconst X0.here hx rfl (hb hby d23_6) k) ?_
    show own_Go p e below s _ _ _ (T0.setTop (mkF m 7 #[.val (.ref a1), .val (.ref a2), .val (.int (Int32.ofNat st)), .val (.int (Int32.ofNat n)), .val (.int (Int32.ofNat i))] [(.int (1 : Int32))]))
    exact own_ret X0 hx hlk e0 hret (by decide) (Or.inl ⟨rfl, Or.inr (Or.inl rfl), _, rfl⟩) (hb hby d23_7) (by decide) (by decide) ⟨rfl, N0, rfl⟩
theorem pd__28JI_29C : parseMethodDescriptor "(JI)C" = some ⟨[.long, .int], some .char⟩ := by decide +kernel
theorem pd__28_5bC_29V : parseMethodDescriptor "([C)V" = some ⟨[(.array .char)], none⟩ := by decide +kernel
theorem pd__28Ljava_2flang_2fString_3b_29Ljava_2flang_2fString_3b : parseMethodDescriptor "(Ljava/lang/String;)Ljava/lang/String;" = some ⟨[(.object "java/lang/String")], some (.object "java/lang/String")⟩ := by decide +kernel
theorem pd__28Ljava_2flang_2fString_3bLjava_2flang_2fString_3bIII_29Z : parseMethodDescriptor "(Ljava/lang/String;Ljava/lang/String;III)Z" = some ⟨[(.object "java/lang/String"), (.object "java/lang/String"), .int, .int, .int], some .boolean⟩ := by decide +kernel
theorem ef_lawW (m : MethodId) (x0 : Int64) (x1 : Int32) (x2 : Int32) (x3 : Int32) : entryFrame m #[(.long x0), (.int x1), (.int x2), (.int x3)] maxLocals = mkF m 0 #[.val (.long x0), .second, .val (.int x1), .val (.int x2), .val (.int x3), .unset, .unset, .unset, .unset, .unset, .unset, .unset, .unset] [] := by (first | (simp [entryFrame, mkF, argsToLocals, Value.category, maxLocals]; done) | rfl)
set_option maxRecDepth 65536 in
set_option maxHeartbeats 40000000 in
theorem lawW (l : Launch) (Z : State) (a0 : Array Value) (hw : ∀ d ∈ tables_1, d.before a0 Z = true) (ws : List Jvm.Cond) (pc_ : Int64) (pf pl pn : Int32) (h0 : Heap) (n0 : Nat) (O0 : Old Z n0 h0) (CS : own_CS Z) (FM : own_FM Z) :
    own_C l Z x code maxLocals ret ws room_1 #[(.long pc_), (.int pf), (.int pl), (.int pn)] h0 (fun v h L => v = some (.int 1) ∧ Fr n0 L) := by
  refine own_body (plainFor_of_name pn_com_example_staffetta_staffetta_FieldInPinLaw) ?_
  intro p e s m below meth c T0 X0 hx hby hml hZ hown hnm hret hlk e0
  have N0 := Fr.nil n0
  have zO := own_old O0
  refine own_st (fun _ k => castTop (ef_lawW m pc_ pf pl pn) k) ?_
  show own_Go p e below s _ _ _ (T0.setTop (mkF m 0 #[.val (.long pc_), .second, .val (.int pf), .val (.int pl), .val (.int pn), .unset, .unset, .unset, .unset, .unset, .unset, .unset, .unset] []))
  refine own_st (fun _ k => XS.bipush X0.here hx rfl (hb hby at_0) k) ?_
  show own_Go p e below s _ _ _ (T0.setTop (mkF m 2 #[.val (.long pc_), .second, .val (.int pf), .val (.int pl), .val (.int pn), .unset, .unset, .unset, .unset, .unset, .unset, .unset, .unset] [(.int (6 : Int32))]))
  obtain ⟨T101, h101, k101, X101, e101, E101, A101, st101⟩ := newP X0 hx hZ (hw _ (List.mem_of_getElem? (i := 0) rfl)) e0 (g := (mkF m 2 #[.val (.long pc_), .second, .val (.int pf), .val (.int pl), .val (.int pn), .unset, .unset, .unset, .unset, .unset, .unset, .unset, .unset] [(.int (6 : Int32))])) rfl (hb hby at_2) rfl (by decide) (cap := 6) (by decide) (by decide) (by decide) (by decide)
  obtain ⟨b101, g101⟩ : ∃ z, z = h0.size := ⟨_, rfl⟩
  rw [← g101] at A101 st101
  have K101 : Keep h0 h101 [] := (Keep.refl _ _).ext E101
  have l101 : b101 < h101.size := A101.lt
  refine own_st st101 ?_
  have zK101 := K101.1
  have V101 : Arv Z h101 b101 k101 .char (6 : Int32) [(.int (0 : Int32)), (.int (0 : Int32)), (.int (0 : Int32)), (.int (0 : Int32)), (.int (0 : Int32)), (.int (0 : Int32))] (.int (0 : Int32)) := (Arv.new A101 (by decide)).pad (pad_rep [] (.int (0 : Int32)) 6)
  show own_Go p e below s _ _ _ (T101.setTop (mkF m 4 #[.val (.long pc_), .second, .val (.int pf), .val (.int pl), .val (.int pn), .unset, .unset, .unset, .unset, .unset, .unset, .unset, .unset] [(.ref b101)]))
  refine own_st (fun _ k => XS.astore X101.here hx rfl (hb hby at_4) rfl rfl (l' := #[.val (.long pc_), .second, .val (.int pf), .val (.int pl), .val (.int pn), .val (.ref b101), .unset, .unset, .unset, .unset, .unset, .unset, .unset]) rfl k) ?_
  show own_Go p e below s _ _ _ (T101.setTop (mkF m 6 #[.val (.long pc_), .second, .val (.int pf), .val (.int pl), .val (.int pn), .val (.ref b101), .unset, .unset, .unset, .unset, .unset, .unset, .unset] []))
  refine own_st (fun _ k => XS.aload X101.here hx rfl (hb hby at_6) rfl rfl k) ?_
  show own_Go p e below s _ _ _ (T101.setTop (mkF m 8 #[.val (.long pc_), .second, .val (.int pf), .val (.int pl), .val (.int pn), .val (.ref b101), .unset, .unset, .unset, .unset, .unset, .unset, .unset] [(.ref b101)]))
  refine own_st (fun _ k => XS.iconst X101.here hx rfl (hb hby at_8) k) ?_
  show own_Go p e below s _ _ _ (T101.setTop (mkF m 9 #[.val (.long pc_), .second, .val (.int pf), .val (.int pl), .val (.int pn), .val (.ref b101), .unset, .unset, .unset, .unset, .unset, .unset, .unset] [(.int (0 : Int32)), (.ref b101)]))
  refine own_st (fun _ k => XS.lloadN X101.here hx rfl (hb hby at_9) rfl k) ?_
  show own_Go p e below s _ _ _ (T101.setTop (mkF m 10 #[.val (.long pc_), .second, .val (.int pf), .val (.int pl), .val (.int pn), .val (.ref b101), .unset, .unset, .unset, .unset, .unset, .unset, .unset] [(.long pc_), (.int (0 : Int32)), (.ref b101)]))
  refine own_st (fun _ k => XS.iconst X101.here hx rfl (hb hby at_10) k) ?_
  show own_Go p e below s _ _ _ (T101.setTop (mkF m 11 #[.val (.long pc_), .second, .val (.int pf), .val (.int pl), .val (.int pn), .val (.ref b101), .unset, .unset, .unset, .unset, .unset, .unset, .unset] [(.int (0 : Int32)), (.long pc_), (.int (0 : Int32)), (.ref b101)]))
  have O102 : Old Z n0 h101 := O0.keep ((Keep.refl h0 []).trans K101 all0) all0
  obtain ⟨T103, v103, L103, h103, X103, e103, q103, st103⟩ := own_callS X101 hx hZ (y := (⟨"com/example/staffetta/staffetta/FieldInPinLaw", "ch", "(JI)C"⟩ : MethodName)) hown (hw _ (List.mem_of_getElem? (i := 1) rfl)) (hw _ (List.mem_of_getElem? (i := 2) rfl)) (hw _ (List.mem_of_getElem? (i := 3) rfl)) (hw _ (List.mem_of_getElem? (i := 4) rfl)) (by decide) (own_bk (W := 2) (chW l Z a0 hw pc_ (0 : Int32) h101 n0 O102) hZ (hw _ (List.mem_of_getElem? (i := 4) rfl)) (hw _ (List.mem_of_getElem? (i := 3) rfl)) (by decide) (by decide)) e101 (by decide) (by decide) (g := (mkF m 11 #[.val (.long pc_), .second, .val (.int pf), .val (.int pl), .val (.int pn), .val (.ref b101), .unset, .unset, .unset, .unset, .unset, .unset, .unset] [(.int (0 : Int32)), (.long pc_), (.int (0 : Int32)), (.ref b101)])) rfl (by rw [hml]; rfl) (argsL := [(.long pc_), (.int (0 : Int32))]) (rest := [(.int (0 : Int32)), (.ref b101)]) (lenOf pd__28JI_29C rfl) rfl rfl (by show 2 * 0 + _ ≤ _; exact Nat.le_of_eq rfl) (hb hby at_11)
  obtain ⟨N103q, hq103, c103, rfl, hc103⟩ := q103
  replace e103 := e103.trans hq103
  refine own_st st103 ?_
  have N103 := Fr.app N0 N103q
  show own_Go p e below s _ _ _ (T103.setTop (mkF m 14 #[.val (.long pc_), .second, .val (.int pf), .val (.int pl), .val (.int pn), .val (.ref b101), .unset, .unset, .unset, .unset, .unset, .unset, .unset] [(.int c103), (.int (0 : Int32)), (.ref b101)]))
  obtain ⟨c104, Ar104, q104, S104, M104, H104, U104⟩ := V101
  obtain ⟨T104, h104, X104, e104, W104, st104⟩ := stC X103 hx hZ e103 Ar104 (j := (0 : Int32)) (inb_of S104 ⟨by decide, by decide⟩) (g := (mkF m 14 #[.val (.long pc_), .second, .val (.int pf), .val (.int pl), .val (.int pn), .val (.ref b101), .unset, .unset, .unset, .unset, .unset, .unset, .unset] [(.int c103), (.int (0 : Int32)), (.ref b101)])) rfl rfl (hb hby at_14)
  have V104 : Arv Z h104 b101 k101 .char (6 : Int32) [(.int c103), (.int (0 : Int32)), (.int (0 : Int32)), (.int (0 : Int32)), (.int (0 : Int32)), (.int (0 : Int32))] (.int (0 : Int32)) := by
    have q := Arv.set Ar104 q104 S104 M104 H104 U104 (fits_nar_char _) W104 0 rfl (Nat.le_of_ble_eq_true rfl)
    rw [own_narC (own_up1 hc103)] at q
    exact q
  have K104 := Keep.of_wr W104
  have N104 := Fr.snoc X104 N103 (by omega : n0 ≤ b101)
  refine own_st st104 ?_
  have zK104 := K104.1
  show own_Go p e below s _ _ _ (T104.setTop (mkF m 15 #[.val (.long pc_), .second, .val (.int pf), .val (.int pl), .val (.int pn), .val (.ref b101), .unset, .unset, .unset, .unset, .unset, .unset, .unset] []))
  refine own_st (fun _ k => XS.aload X104.here hx rfl (hb hby at_15) rfl rfl k) ?_
  show own_Go p e below s _ _ _ (T104.setTop (mkF m 17 #[.val (.long pc_), .second, .val (.int pf), .val (.int pl), .val (.int pn), .val (.ref b101), .unset, .unset, .unset, .unset, .unset, .unset, .unset] [(.ref b101)]))
  refine own_st (fun _ k => XS.iconst X104.here hx rfl (hb hby at_17) k) ?_
  show own_Go p e below s _ _ _ (T104.setTop (mkF m 18 #[.val (.long pc_), .second, .val (.int pf), .val (.int pl), .val (.int pn), .val (.ref b101), .unset, .unset, .unset, .unset, .unset, .unset, .unset] [(.int (1 : Int32)), (.ref b101)]))
  refine own_st (fun _ k => XS.lloadN X104.here hx rfl (hb hby at_18) rfl k) ?_
  show own_Go p e below s _ _ _ (T104.setTop (mkF m 19 #[.val (.long pc_), .second, .val (.int pf), .val (.int pl), .val (.int pn), .val (.ref b101), .unset, .unset, .unset, .unset, .unset, .unset, .unset] [(.long pc_), (.int (1 : Int32)), (.ref b101)]))
  refine own_st (fun _ k => XS.iconst X104.here hx rfl (hb hby at_19) k) ?_
  show own_Go p e below s _ _ _ (T104.setTop (mkF m 20 #[.val (.long pc_), .second, .val (.int pf), .val (.int pl), .val (.int pn), .val (.ref b101), .unset, .unset, .unset, .unset, .unset, .unset, .unset] [(.int (1 : Int32)), (.long pc_), (.int (1 : Int32)), (.ref b101)]))
  have O105 : Old Z n0 h104 := O102.keep ((Keep.refl h101 [b101]).trans K104 (allS (Or.inl (by simp)) all0)) (allS (by omega) all0)
  obtain ⟨T106, v106, L106, h106, X106, e106, q106, st106⟩ := own_callS X104 hx hZ (y := (⟨"com/example/staffetta/staffetta/FieldInPinLaw", "ch", "(JI)C"⟩ : MethodName)) hown (hw _ (List.mem_of_getElem? (i := 1) rfl)) (hw _ (List.mem_of_getElem? (i := 2) rfl)) (hw _ (List.mem_of_getElem? (i := 3) rfl)) (hw _ (List.mem_of_getElem? (i := 4) rfl)) (by decide) (own_bk (W := 2) (chW l Z a0 hw pc_ (1 : Int32) h104 n0 O105) hZ (hw _ (List.mem_of_getElem? (i := 4) rfl)) (hw _ (List.mem_of_getElem? (i := 3) rfl)) (by decide) (by decide)) e104 (by decide) (by decide) (g := (mkF m 20 #[.val (.long pc_), .second, .val (.int pf), .val (.int pl), .val (.int pn), .val (.ref b101), .unset, .unset, .unset, .unset, .unset, .unset, .unset] [(.int (1 : Int32)), (.long pc_), (.int (1 : Int32)), (.ref b101)])) rfl (by rw [hml]; rfl) (argsL := [(.long pc_), (.int (1 : Int32))]) (rest := [(.int (1 : Int32)), (.ref b101)]) (lenOf pd__28JI_29C rfl) rfl rfl (by show 2 * 0 + _ ≤ _; exact Nat.le_of_eq rfl) (hb hby at_20)
  obtain ⟨N106q, hq106, c106, rfl, hc106⟩ := q106
  replace e106 := e106.trans hq106
  refine own_st st106 ?_
  have N106 := Fr.app N104 N106q
  show own_Go p e below s _ _ _ (T106.setTop (mkF m 23 #[.val (.long pc_), .second, .val (.int pf), .val (.int pl), .val (.int pn), .val (.ref b101), .unset, .unset, .unset, .unset, .unset, .unset, .unset] [(.int c106), (.int (1 : Int32)), (.ref b101)]))
  obtain ⟨c107, Ar107, q107, S107, M107, H107, U107⟩ := V104
  obtain ⟨T107, h107, X107, e107, W107, st107⟩ := stC X106 hx hZ e106 Ar107 (j := (1 : Int32)) (inb_of S107 ⟨by decide, by decide⟩) (g := (mkF m 23 #[.val (.long pc_), .second, .val (.int pf), .val (.int pl), .val (.int pn), .val (.ref b101), .unset, .unset, .unset, .unset, .unset, .unset, .unset] [(.int c106), (.int (1 : Int32)), (.ref b101)])) rfl rfl (hb hby at_23)
  have V107 : Arv Z h107 b101 k101 .char (6 : Int32) [(.int c103), (.int c106), (.int (0 : Int32)), (.int (0 : Int32)), (.int (0 : Int32)), (.int (0 : Int32))] (.int (0 : Int32)) := by
    have q := Arv.set Ar107 q107 S107 M107 H107 U107 (fits_nar_char _) W107 1 rfl (Nat.le_of_ble_eq_true rfl)
    rw [own_narC (own_up1 hc106)] at q
    exact q
  have K107 := Keep.of_wr W107
  have N107 := Fr.snoc X107 N106 (by omega : n0 ≤ b101)
  refine own_st st107 ?_
  have zK107 := K107.1
  show own_Go p e below s _ _ _ (T107.setTop (mkF m 24 #[.val (.long pc_), .second, .val (.int pf), .val (.int pl), .val (.int pn), .val (.ref b101), .unset, .unset, .unset, .unset, .unset, .unset, .unset] []))
  refine own_st (fun _ k => XS.aload X107.here hx rfl (hb hby at_24) rfl rfl k) ?_
  show own_Go p e below s _ _ _ (T107.setTop (mkF m 26 #[.val (.long pc_), .second, .val (.int pf), .val (.int pl), .val (.int pn), .val (.ref b101), .unset, .unset, .unset, .unset, .unset, .unset, .unset] [(.ref b101)]))
  refine own_st (fun _ k => XS.iconst X107.here hx rfl (hb hby at_26) k) ?_
  show own_Go p e below s _ _ _ (T107.setTop (mkF m 27 #[.val (.long pc_), .second, .val (.int pf), .val (.int pl), .val (.int pn), .val (.ref b101), .unset, .unset, .unset, .unset, .unset, .unset, .unset] [(.int (2 : Int32)), (.ref b101)]))
  refine own_st (fun _ k => XS.lloadN X107.here hx rfl (hb hby at_27) rfl k) ?_
  show own_Go p e below s _ _ _ (T107.setTop (mkF m 28 #[.val (.long pc_), .second, .val (.int pf), .val (.int pl), .val (.int pn), .val (.ref b101), .unset, .unset, .unset, .unset, .unset, .unset, .unset] [(.long pc_), (.int (2 : Int32)), (.ref b101)]))
  refine own_st (fun _ k => XS.iconst X107.here hx rfl (hb hby at_28) k) ?_
  show own_Go p e below s _ _ _ (T107.setTop (mkF m 29 #[.val (.long pc_), .second, .val (.int pf), .val (.int pl), .val (.int pn), .val (.ref b101), .unset, .unset, .unset, .unset, .unset, .unset, .unset] [(.int (2 : Int32)), (.long pc_), (.int (2 : Int32)), (.ref b101)]))
  have O108 : Old Z n0 h107 := O105.keep ((Keep.refl h104 [b101]).trans K107 (allS (Or.inl (by simp)) all0)) (allS (by omega) all0)
  obtain ⟨T109, v109, L109, h109, X109, e109, q109, st109⟩ := own_callS X107 hx hZ (y := (⟨"com/example/staffetta/staffetta/FieldInPinLaw", "ch", "(JI)C"⟩ : MethodName)) hown (hw _ (List.mem_of_getElem? (i := 1) rfl)) (hw _ (List.mem_of_getElem? (i := 2) rfl)) (hw _ (List.mem_of_getElem? (i := 3) rfl)) (hw _ (List.mem_of_getElem? (i := 4) rfl)) (by decide) (own_bk (W := 2) (chW l Z a0 hw pc_ (2 : Int32) h107 n0 O108) hZ (hw _ (List.mem_of_getElem? (i := 4) rfl)) (hw _ (List.mem_of_getElem? (i := 3) rfl)) (by decide) (by decide)) e107 (by decide) (by decide) (g := (mkF m 29 #[.val (.long pc_), .second, .val (.int pf), .val (.int pl), .val (.int pn), .val (.ref b101), .unset, .unset, .unset, .unset, .unset, .unset, .unset] [(.int (2 : Int32)), (.long pc_), (.int (2 : Int32)), (.ref b101)])) rfl (by rw [hml]; rfl) (argsL := [(.long pc_), (.int (2 : Int32))]) (rest := [(.int (2 : Int32)), (.ref b101)]) (lenOf pd__28JI_29C rfl) rfl rfl (by show 2 * 0 + _ ≤ _; exact Nat.le_of_eq rfl) (hb hby at_29)
  obtain ⟨N109q, hq109, c109, rfl, hc109⟩ := q109
  replace e109 := e109.trans hq109
  refine own_st st109 ?_
  have N109 := Fr.app N107 N109q
  show own_Go p e below s _ _ _ (T109.setTop (mkF m 32 #[.val (.long pc_), .second, .val (.int pf), .val (.int pl), .val (.int pn), .val (.ref b101), .unset, .unset, .unset, .unset, .unset, .unset, .unset] [(.int c109), (.int (2 : Int32)), (.ref b101)]))
  obtain ⟨c110, Ar110, q110, S110, M110, H110, U110⟩ := V107
  obtain ⟨T110, h110, X110, e110, W110, st110⟩ := stC X109 hx hZ e109 Ar110 (j := (2 : Int32)) (inb_of S110 ⟨by decide, by decide⟩) (g := (mkF m 32 #[.val (.long pc_), .second, .val (.int pf), .val (.int pl), .val (.int pn), .val (.ref b101), .unset, .unset, .unset, .unset, .unset, .unset, .unset] [(.int c109), (.int (2 : Int32)), (.ref b101)])) rfl rfl (hb hby at_32)
  have V110 : Arv Z h110 b101 k101 .char (6 : Int32) [(.int c103), (.int c106), (.int c109), (.int (0 : Int32)), (.int (0 : Int32)), (.int (0 : Int32))] (.int (0 : Int32)) := by
    have q := Arv.set Ar110 q110 S110 M110 H110 U110 (fits_nar_char _) W110 2 rfl (Nat.le_of_ble_eq_true rfl)
    rw [own_narC (own_up1 hc109)] at q
    exact q
  have K110 := Keep.of_wr W110
  have N110 := Fr.snoc X110 N109 (by omega : n0 ≤ b101)
  refine own_st st110 ?_
  have zK110 := K110.1
  show own_Go p e below s _ _ _ (T110.setTop (mkF m 33 #[.val (.long pc_), .second, .val (.int pf), .val (.int pl), .val (.int pn), .val (.ref b101), .unset, .unset, .unset, .unset, .unset, .unset, .unset] []))
  refine own_st (fun _ k => XS.aload X110.here hx rfl (hb hby at_33) rfl rfl k) ?_
  show own_Go p e below s _ _ _ (T110.setTop (mkF m 35 #[.val (.long pc_), .second, .val (.int pf), .val (.int pl), .val (.int pn), .val (.ref b101), .unset, .unset, .unset, .unset, .unset, .unset, .unset] [(.ref b101)]))
  refine own_st (fun _ k => XS.iconst X110.here hx rfl (hb hby at_35) k) ?_
  show own_Go p e below s _ _ _ (T110.setTop (mkF m 36 #[.val (.long pc_), .second, .val (.int pf), .val (.int pl), .val (.int pn), .val (.ref b101), .unset, .unset, .unset, .unset, .unset, .unset, .unset] [(.int (3 : Int32)), (.ref b101)]))
  refine own_st (fun _ k => XS.lloadN X110.here hx rfl (hb hby at_36) rfl k) ?_
  show own_Go p e below s _ _ _ (T110.setTop (mkF m 37 #[.val (.long pc_), .second, .val (.int pf), .val (.int pl), .val (.int pn), .val (.ref b101), .unset, .unset, .unset, .unset, .unset, .unset, .unset] [(.long pc_), (.int (3 : Int32)), (.ref b101)]))
  refine own_st (fun _ k => XS.iconst X110.here hx rfl (hb hby at_37) k) ?_
  show own_Go p e below s _ _ _ (T110.setTop (mkF m 38 #[.val (.long pc_), .second, .val (.int pf), .val (.int pl), .val (.int pn), .val (.ref b101), .unset, .unset, .unset, .unset, .unset, .unset, .unset] [(.int (3 : Int32)), (.long pc_), (.int (3 : Int32)), (.ref b101)]))
  have O111 : Old Z n0 h110 := O108.keep ((Keep.refl h107 [b101]).trans K110 (allS (Or.inl (by simp)) all0)) (allS (by omega) all0)
  obtain ⟨T112, v112, L112, h112, X112, e112, q112, st112⟩ := own_callS X110 hx hZ (y := (⟨"com/example/staffetta/staffetta/FieldInPinLaw", "ch", "(JI)C"⟩ : MethodName)) hown (hw _ (List.mem_of_getElem? (i := 1) rfl)) (hw _ (List.mem_of_getElem? (i := 2) rfl)) (hw _ (List.mem_of_getElem? (i := 3) rfl)) (hw _ (List.mem_of_getElem? (i := 4) rfl)) (by decide) (own_bk (W := 2) (chW l Z a0 hw pc_ (3 : Int32) h110 n0 O111) hZ (hw _ (List.mem_of_getElem? (i := 4) rfl)) (hw _ (List.mem_of_getElem? (i := 3) rfl)) (by decide) (by decide)) e110 (by decide) (by decide) (g := (mkF m 38 #[.val (.long pc_), .second, .val (.int pf), .val (.int pl), .val (.int pn), .val (.ref b101), .unset, .unset, .unset, .unset, .unset, .unset, .unset] [(.int (3 : Int32)), (.long pc_), (.int (3 : Int32)), (.ref b101)])) rfl (by rw [hml]; rfl) (argsL := [(.long pc_), (.int (3 : Int32))]) (rest := [(.int (3 : Int32)), (.ref b101)]) (lenOf pd__28JI_29C rfl) rfl rfl (by show 2 * 0 + _ ≤ _; exact Nat.le_of_eq rfl) (hb hby at_38)
  obtain ⟨N112q, hq112, c112, rfl, hc112⟩ := q112
  replace e112 := e112.trans hq112
  refine own_st st112 ?_
  have N112 := Fr.app N110 N112q
  show own_Go p e below s _ _ _ (T112.setTop (mkF m 41 #[.val (.long pc_), .second, .val (.int pf), .val (.int pl), .val (.int pn), .val (.ref b101), .unset, .unset, .unset, .unset, .unset, .unset, .unset] [(.int c112), (.int (3 : Int32)), (.ref b101)]))
  obtain ⟨c113, Ar113, q113, S113, M113, H113, U113⟩ := V110
  obtain ⟨T113, h113, X113, e113, W113, st113⟩ := stC X112 hx hZ e112 Ar113 (j := (3 : Int32)) (inb_of S113 ⟨by decide, by decide⟩) (g := (mkF m 41 #[.val (.long pc_), .second, .val (.int pf), .val (.int pl), .val (.int pn), .val (.ref b101), .unset, .unset, .unset, .unset, .unset, .unset, .unset] [(.int c112), (.int (3 : Int32)), (.ref b101)])) rfl rfl (hb hby at_41)
  have V113 : Arv Z h113 b101 k101 .char (6 : Int32) [(.int c103), (.int c106), (.int c109), (.int c112), (.int (0 : Int32)), (.int (0 : Int32))] (.int (0 : Int32)) := by
    have q := Arv.set Ar113 q113 S113 M113 H113 U113 (fits_nar_char _) W113 3 rfl (Nat.le_of_ble_eq_true rfl)
    rw [own_narC (own_up1 hc112)] at q
    exact q
  have K113 := Keep.of_wr W113
  have N113 := Fr.snoc X113 N112 (by omega : n0 ≤ b101)
  refine own_st st113 ?_
  have zK113 := K113.1
  show own_Go p e below s _ _ _ (T113.setTop (mkF m 42 #[.val (.long pc_), .second, .val (.int pf), .val (.int pl), .val (.int pn), .val (.ref b101), .unset, .unset, .unset, .unset, .unset, .unset, .unset] []))
  refine own_st (fun _ k => XS.aload X113.here hx rfl (hb hby at_42) rfl rfl k) ?_
  show own_Go p e below s _ _ _ (T113.setTop (mkF m 44 #[.val (.long pc_), .second, .val (.int pf), .val (.int pl), .val (.int pn), .val (.ref b101), .unset, .unset, .unset, .unset, .unset, .unset, .unset] [(.ref b101)]))
  refine own_st (fun _ k => XS.iconst X113.here hx rfl (hb hby at_44) k) ?_
  show own_Go p e below s _ _ _ (T113.setTop (mkF m 45 #[.val (.long pc_), .second, .val (.int pf), .val (.int pl), .val (.int pn), .val (.ref b101), .unset, .unset, .unset, .unset, .unset, .unset, .unset] [(.int (4 : Int32)), (.ref b101)]))
  refine own_st (fun _ k => XS.lloadN X113.here hx rfl (hb hby at_45) rfl k) ?_
  show own_Go p e below s _ _ _ (T113.setTop (mkF m 46 #[.val (.long pc_), .second, .val (.int pf), .val (.int pl), .val (.int pn), .val (.ref b101), .unset, .unset, .unset, .unset, .unset, .unset, .unset] [(.long pc_), (.int (4 : Int32)), (.ref b101)]))
  refine own_st (fun _ k => XS.iconst X113.here hx rfl (hb hby at_46) k) ?_
  show own_Go p e below s _ _ _ (T113.setTop (mkF m 47 #[.val (.long pc_), .second, .val (.int pf), .val (.int pl), .val (.int pn), .val (.ref b101), .unset, .unset, .unset, .unset, .unset, .unset, .unset] [(.int (4 : Int32)), (.long pc_), (.int (4 : Int32)), (.ref b101)]))
  have O114 : Old Z n0 h113 := O111.keep ((Keep.refl h110 [b101]).trans K113 (allS (Or.inl (by simp)) all0)) (allS (by omega) all0)
  obtain ⟨T115, v115, L115, h115, X115, e115, q115, st115⟩ := own_callS X113 hx hZ (y := (⟨"com/example/staffetta/staffetta/FieldInPinLaw", "ch", "(JI)C"⟩ : MethodName)) hown (hw _ (List.mem_of_getElem? (i := 1) rfl)) (hw _ (List.mem_of_getElem? (i := 2) rfl)) (hw _ (List.mem_of_getElem? (i := 3) rfl)) (hw _ (List.mem_of_getElem? (i := 4) rfl)) (by decide) (own_bk (W := 2) (chW l Z a0 hw pc_ (4 : Int32) h113 n0 O114) hZ (hw _ (List.mem_of_getElem? (i := 4) rfl)) (hw _ (List.mem_of_getElem? (i := 3) rfl)) (by decide) (by decide)) e113 (by decide) (by decide) (g := (mkF m 47 #[.val (.long pc_), .second, .val (.int pf), .val (.int pl), .val (.int pn), .val (.ref b101), .unset, .unset, .unset, .unset, .unset, .unset, .unset] [(.int (4 : Int32)), (.long pc_), (.int (4 : Int32)), (.ref b101)])) rfl (by rw [hml]; rfl) (argsL := [(.long pc_), (.int (4 : Int32))]) (rest := [(.int (4 : Int32)), (.ref b101)]) (lenOf pd__28JI_29C rfl) rfl rfl (by show 2 * 0 + _ ≤ _; exact Nat.le_of_eq rfl) (hb hby at_47)
  obtain ⟨N115q, hq115, c115, rfl, hc115⟩ := q115
  replace e115 := e115.trans hq115
  refine own_st st115 ?_
  have N115 := Fr.app N113 N115q
  show own_Go p e below s _ _ _ (T115.setTop (mkF m 50 #[.val (.long pc_), .second, .val (.int pf), .val (.int pl), .val (.int pn), .val (.ref b101), .unset, .unset, .unset, .unset, .unset, .unset, .unset] [(.int c115), (.int (4 : Int32)), (.ref b101)]))
  obtain ⟨c116, Ar116, q116, S116, M116, H116, U116⟩ := V113
  obtain ⟨T116, h116, X116, e116, W116, st116⟩ := stC X115 hx hZ e115 Ar116 (j := (4 : Int32)) (inb_of S116 ⟨by decide, by decide⟩) (g := (mkF m 50 #[.val (.long pc_), .second, .val (.int pf), .val (.int pl), .val (.int pn), .val (.ref b101), .unset, .unset, .unset, .unset, .unset, .unset, .unset] [(.int c115), (.int (4 : Int32)), (.ref b101)])) rfl rfl (hb hby at_50)
  have V116 : Arv Z h116 b101 k101 .char (6 : Int32) [(.int c103), (.int c106), (.int c109), (.int c112), (.int c115), (.int (0 : Int32))] (.int (0 : Int32)) := by
    have q := Arv.set Ar116 q116 S116 M116 H116 U116 (fits_nar_char _) W116 4 rfl (Nat.le_of_ble_eq_true rfl)
    rw [own_narC (own_up1 hc115)] at q
    exact q
  have K116 := Keep.of_wr W116
  have N116 := Fr.snoc X116 N115 (by omega : n0 ≤ b101)
  refine own_st st116 ?_
  have zK116 := K116.1
  show own_Go p e below s _ _ _ (T116.setTop (mkF m 51 #[.val (.long pc_), .second, .val (.int pf), .val (.int pl), .val (.int pn), .val (.ref b101), .unset, .unset, .unset, .unset, .unset, .unset, .unset] []))
  refine own_st (fun _ k => XS.aload X116.here hx rfl (hb hby at_51) rfl rfl k) ?_
  show own_Go p e below s _ _ _ (T116.setTop (mkF m 53 #[.val (.long pc_), .second, .val (.int pf), .val (.int pl), .val (.int pn), .val (.ref b101), .unset, .unset, .unset, .unset, .unset, .unset, .unset] [(.ref b101)]))
  refine own_st (fun _ k => XS.iconst X116.here hx rfl (hb hby at_53) k) ?_
  show own_Go p e below s _ _ _ (T116.setTop (mkF m 54 #[.val (.long pc_), .second, .val (.int pf), .val (.int pl), .val (.int pn), .val (.ref b101), .unset, .unset, .unset, .unset, .unset, .unset, .unset] [(.int (5 : Int32)), (.ref b101)]))
  refine own_st (fun _ k => XS.lloadN X116.here hx rfl (hb hby at_54) rfl k) ?_
  show own_Go p e below s _ _ _ (T116.setTop (mkF m 55 #[.val (.long pc_), .second, .val (.int pf), .val (.int pl), .val (.int pn), .val (.ref b101), .unset, .unset, .unset, .unset, .unset, .unset, .unset] [(.long pc_), (.int (5 : Int32)), (.ref b101)]))
  refine own_st (fun _ k => XS.iconst X116.here hx rfl (hb hby at_55) k) ?_
  show own_Go p e below s _ _ _ (T116.setTop (mkF m 56 #[.val (.long pc_), .second, .val (.int pf), .val (.int pl), .val (.int pn), .val (.ref b101), .unset, .unset, .unset, .unset, .unset, .unset, .unset] [(.int (5 : Int32)), (.long pc_), (.int (5 : Int32)), (.ref b101)]))
  have O117 : Old Z n0 h116 := O114.keep ((Keep.refl h113 [b101]).trans K116 (allS (Or.inl (by simp)) all0)) (allS (by omega) all0)
  obtain ⟨T118, v118, L118, h118, X118, e118, q118, st118⟩ := own_callS X116 hx hZ (y := (⟨"com/example/staffetta/staffetta/FieldInPinLaw", "ch", "(JI)C"⟩ : MethodName)) hown (hw _ (List.mem_of_getElem? (i := 1) rfl)) (hw _ (List.mem_of_getElem? (i := 2) rfl)) (hw _ (List.mem_of_getElem? (i := 3) rfl)) (hw _ (List.mem_of_getElem? (i := 4) rfl)) (by decide) (own_bk (W := 2) (chW l Z a0 hw pc_ (5 : Int32) h116 n0 O117) hZ (hw _ (List.mem_of_getElem? (i := 4) rfl)) (hw _ (List.mem_of_getElem? (i := 3) rfl)) (by decide) (by decide)) e116 (by decide) (by decide) (g := (mkF m 56 #[.val (.long pc_), .second, .val (.int pf), .val (.int pl), .val (.int pn), .val (.ref b101), .unset, .unset, .unset, .unset, .unset, .unset, .unset] [(.int (5 : Int32)), (.long pc_), (.int (5 : Int32)), (.ref b101)])) rfl (by rw [hml]; rfl) (argsL := [(.long pc_), (.int (5 : Int32))]) (rest := [(.int (5 : Int32)), (.ref b101)]) (lenOf pd__28JI_29C rfl) rfl rfl (by show 2 * 0 + _ ≤ _; exact Nat.le_of_eq rfl) (hb hby at_56)
  obtain ⟨N118q, hq118, c118, rfl, hc118⟩ := q118
  replace e118 := e118.trans hq118
  refine own_st st118 ?_
  have N118 := Fr.app N116 N118q
  show own_Go p e below s _ _ _ (T118.setTop (mkF m 59 #[.val (.long pc_), .second, .val (.int pf), .val (.int pl), .val (.int pn), .val (.ref b101), .unset, .unset, .unset, .unset, .unset, .unset, .unset] [(.int c118), (.int (5 : Int32)), (.ref b101)]))
  obtain ⟨c119, Ar119, q119, S119, M119, H119, U119⟩ := V116
  obtain ⟨T119, h119, X119, e119, W119, st119⟩ := stC X118 hx hZ e118 Ar119 (j := (5 : Int32)) (inb_of S119 ⟨by decide, by decide⟩) (g := (mkF m 59 #[.val (.long pc_), .second, .val (.int pf), .val (.int pl), .val (.int pn), .val (.ref b101), .unset, .unset, .unset, .unset, .unset, .unset, .unset] [(.int c118), (.int (5 : Int32)), (.ref b101)])) rfl rfl (hb hby at_59)
  have V119 : Arv Z h119 b101 k101 .char (6 : Int32) [(.int c103), (.int c106), (.int c109), (.int c112), (.int c115), (.int c118)] (.int (0 : Int32)) := by
    have q := Arv.set Ar119 q119 S119 M119 H119 U119 (fits_nar_char _) W119 5 rfl (Nat.le_of_ble_eq_true rfl)
    rw [own_narC (own_up1 hc118)] at q
    exact q
  have K119 := Keep.of_wr W119
  have N119 := Fr.snoc X119 N118 (by omega : n0 ≤ b101)
  refine own_st st119 ?_
  have zK119 := K119.1
  show own_Go p e below s _ _ _ (T119.setTop (mkF m 60 #[.val (.long pc_), .second, .val (.int pf), .val (.int pl), .val (.int pn), .val (.ref b101), .unset, .unset, .unset, .unset, .unset, .unset, .unset] []))
  obtain ⟨T120, h120, X120, e120, E120, A120, D120, -, st120⟩ := newO X119 hx hZ hown (hw _ (List.mem_of_getElem? (i := 6) rfl)) (hw _ (List.mem_of_getElem? (i := 7) rfl)) (hw _ (List.mem_of_getElem? (i := 8) rfl)) e119 (g := (mkF m 60 #[.val (.long pc_), .second, .val (.int pf), .val (.int pl), .val (.int pn), .val (.ref b101), .unset, .unset, .unset, .unset, .unset, .unset, .unset] [])) rfl (hb hby at_60) (by decide) (by decide)
  obtain ⟨b120, g120⟩ : ∃ z, z = h119.size := ⟨_, rfl⟩
  rw [← g120] at A120 D120 st120
  have K120 : Keep h119 h120 [] := (Keep.refl _ _).ext E120
  have l120 : b120 < h120.size := A120.lt
  refine own_st st120 ?_
  have zK120 := K120.1
  show own_Go p e below s _ _ _ (T120.setTop (mkF m 63 #[.val (.long pc_), .second, .val (.int pf), .val (.int pl), .val (.int pn), .val (.ref b101), .unset, .unset, .unset, .unset, .unset, .unset, .unset] [(.ref b120)]))
  refine own_st (fun _ k => XS.dup X120.here hx rfl (hb hby at_63) rfl rfl k) ?_
  show own_Go p e below s _ _ _ (T120.setTop (mkF m 64 #[.val (.long pc_), .second, .val (.int pf), .val (.int pl), .val (.int pn), .val (.ref b101), .unset, .unset, .unset, .unset, .unset, .unset, .unset] [(.ref b120), (.ref b120)]))
  refine own_st (fun _ k => XS.aload X120.here hx rfl (hb hby at_64) rfl rfl k) ?_
  show own_Go p e below s _ _ _ (T120.setTop (mkF m 66 #[.val (.long pc_), .second, .val (.int pf), .val (.int pl), .val (.int pn), .val (.ref b101), .unset, .unset, .unset, .unset, .unset, .unset, .unset] [(.ref b101), (.ref b120), (.ref b120)]))
  have F_value_b120 : Fld Z h120 b120 "java/lang/String" "value" "[B" .null := D120 (Or.inr (hw _ (List.mem_of_getElem? (i := 34) rfl))) (ty := (.array .byte)) (by decide)
  have F_coder_b120 : Fld Z h120 b120 "java/lang/String" "coder" "B" (.int (0 : Int32)) := D120 (Or.inr (hw _ (List.mem_of_getElem? (i := 32) rfl))) (ty := .byte) (by decide)
  have f121 := (V119.keep ((Keep.refl h119 []).trans K120 all0) nin0)
  have O122 : Old Z n0 h120 := O117.keep (((Keep.refl h116 [b101]).trans K119 (allS (Or.inl (by simp)) all0)).trans K120 all0) (allS (by omega) all0)
  obtain ⟨T123, v123, L123, h123, X123, e123, q123, st123⟩ := own_callI X120 hx hZ (y := (⟨"java/lang/String", "<init>", "([C)V"⟩ : MethodName)) rfl hown (hw _ (List.mem_of_getElem? (i := 9) rfl)) (hw _ (List.mem_of_getElem? (i := 10) rfl)) (hw _ (List.mem_of_getElem? (i := 11) rfl)) (by decide) (own_nsB (W := 1) hZ (own_wNew hw) (kI := 4) (hw _ (List.mem_of_getElem? (i := 7) rfl)) (cs := [c103, c106, c109, c112, c115, c118]) (n := 6) (by omega : n0 ≤ b120) O122 CS A120 F_value_b120 F_coder_b120 f121 rfl rfl (by decide) (by decide) (own_allC hc103 (own_allC hc106 (own_allC hc109 (own_allC hc112 (own_allC hc115 (own_all1 hc118)))))) (by decide) (by decide)) e120 (by decide) (by decide) (g := (mkF m 66 #[.val (.long pc_), .second, .val (.int pf), .val (.int pl), .val (.int pn), .val (.ref b101), .unset, .unset, .unset, .unset, .unset, .unset, .unset] [(.ref b101), (.ref b120), (.ref b120)])) rfl (by rw [hml]; rfl) (a := b120) (argsL := [(.ref b101)]) (rest := [(.ref b120)]) (lenOf pd__28_5bC_29V rfl) rfl rfl (by show 2 * 0 + _ ≤ _; exact Nat.le_of_eq rfl) (hb hby at_66)
  obtain ⟨rfl, N123q, K123, S123⟩ := q123
  refine own_st st123 ?_
  have zK123 := K123.1
  have N123 := Fr.app N119 N123q
  have A123 := S123.1
  show own_Go p e below s _ _ _ (T123.setTop (mkF m 69 #[.val (.long pc_), .second, .val (.int pf), .val (.int pl), .val (.int pn), .val (.ref b101), .unset, .unset, .unset, .unset, .unset, .unset, .unset] [(.ref b120)]))
  refine own_st (fun _ k => XS.astore X123.here hx rfl (hb hby at_69) rfl rfl (l' := #[.val (.long pc_), .second, .val (.int pf), .val (.int pl), .val (.int pn), .val (.ref b101), .val (.ref b120), .unset, .unset, .unset, .unset, .unset, .unset]) rfl k) ?_
  show own_Go p e below s _ _ _ (T123.setTop (mkF m 71 #[.val (.long pc_), .second, .val (.int pf), .val (.int pl), .val (.int pn), .val (.ref b101), .val (.ref b120), .unset, .unset, .unset, .unset, .unset, .unset] []))
  have hlat : ∀ c ∈ [c103, c106, c109, c112, c115, c118], ¬ c < 0 ∧ ¬ (255 : Int32) < c := (own_allC hc103 (own_allC hc106 (own_allC hc109 (own_allC hc112 (own_allC hc115 (own_all1 hc118))))))
  refine own_st (fun _ k => XS.iconst X123.here hx rfl (hb hby at_71) k) ?_
  show own_Go p e below s _ _ _ (T123.setTop (mkF m 72 #[.val (.long pc_), .second, .val (.int pf), .val (.int pl), .val (.int pn), .val (.ref b101), .val (.ref b120), .unset, .unset, .unset, .unset, .unset, .unset] [(.int (1 : Int32))]))
  refine own_st (fun _ k => XS.iloadN X123.here hx rfl (hb hby at_72) rfl k) ?_
  show own_Go p e below s _ _ _ (T123.setTop (mkF m 73 #[.val (.long pc_), .second, .val (.int pf), .val (.int pl), .val (.int pn), .val (.ref b101), .val (.ref b120), .unset, .unset, .unset, .unset, .unset, .unset] [(.int pf), (.int (1 : Int32))]))
  refine own_st (X123.ldcInt hx hown (mvT hZ (hw _ (List.mem_of_getElem? (i := 35) rfl))) (g := (mkF m 73 #[.val (.long pc_), .second, .val (.int pf), .val (.int pl), .val (.int pn), .val (.ref b101), .val (.ref b120), .unset, .unset, .unset, .unset, .unset, .unset] [(.int pf), (.int (1 : Int32))])) rfl (hb hby at_73)) ?_
  show own_Go p e below s _ _ _ (T123.setTop (mkF m 75 #[.val (.long pc_), .second, .val (.int pf), .val (.int pl), .val (.int pn), .val (.ref b101), .val (.ref b120), .unset, .unset, .unset, .unset, .unset, .unset] [(.int (2147483647 : Int32)), (.int pf), (.int (1 : Int32))]))
  refine own_st (fun _ k => XS.iand X123.here hx rfl (hb hby at_75) rfl k) ?_
  show own_Go p e below s _ _ _ (T123.setTop (mkF m 76 #[.val (.long pc_), .second, .val (.int pf), .val (.int pl), .val (.int pn), .val (.ref b101), .val (.ref b120), .unset, .unset, .unset, .unset, .unset, .unset] [(.int (pf &&& (2147483647 : Int32))), (.int (1 : Int32))]))
  refine own_st (fun _ k => XS.bipush X123.here hx rfl (hb hby at_76) k) ?_
  show own_Go p e below s _ _ _ (T123.setTop (mkF m 78 #[.val (.long pc_), .second, .val (.int pf), .val (.int pl), .val (.int pn), .val (.ref b101), .val (.ref b120), .unset, .unset, .unset, .unset, .unset, .unset] [(.int (6 : Int32)), (.int (pf &&& (2147483647 : Int32))), (.int (1 : Int32))]))
  refine own_st (fun _ k => iremM (g := (mkF m 78 #[.val (.long pc_), .second, .val (.int pf), .val (.int pl), .val (.int pn), .val (.ref b101), .val (.ref b120), .unset, .unset, .unset, .unset, .unset, .unset] [(.int (6 : Int32)), (.int (pf &&& (2147483647 : Int32))), (.int (1 : Int32))])) X123 hx rfl (hb hby at_78) rfl (by decide) k) ?_
  show own_Go p e below s _ _ _ (T123.setTop (mkF m 79 #[.val (.long pc_), .second, .val (.int pf), .val (.int pl), .val (.int pn), .val (.ref b101), .val (.ref b120), .unset, .unset, .unset, .unset, .unset, .unset] [(.int ((pf &&& (2147483647 : Int32)) % (6 : Int32))), (.int (1 : Int32))]))
  refine own_st (fun _ k => XS.iadd X123.here hx rfl (hb hby at_79) rfl k) ?_
  show own_Go p e below s _ _ _ (T123.setTop (mkF m 80 #[.val (.long pc_), .second, .val (.int pf), .val (.int pl), .val (.int pn), .val (.ref b101), .val (.ref b120), .unset, .unset, .unset, .unset, .unset, .unset] [(.int ((1 : Int32) + ((pf &&& (2147483647 : Int32)) % (6 : Int32))))]))
  obtain ⟨na, ha1, ha6, ea⟩ := own_first pf
  rw [ea]
  show own_Go p e below s _ _ _ (T123.setTop (mkF m 80 #[.val (.long pc_), .second, .val (.int pf), .val (.int pl), .val (.int pn), .val (.ref b101), .val (.ref b120), .unset, .unset, .unset, .unset, .unset, .unset] [(.int (Int32.ofNat na))]))
  refine own_st (fun _ k => XS.istore X123.here hx rfl (hb hby at_80) rfl (l' := #[.val (.long pc_), .second, .val (.int pf), .val (.int pl), .val (.int pn), .val (.ref b101), .val (.ref b120), .val (.int (Int32.ofNat na)), .unset, .unset, .unset, .unset, .unset]) rfl k) ?_
  show own_Go p e below s _ _ _ (T123.setTop (mkF m 82 #[.val (.long pc_), .second, .val (.int pf), .val (.int pl), .val (.int pn), .val (.ref b101), .val (.ref b120), .val (.int (Int32.ofNat na)), .unset, .unset, .unset, .unset, .unset] []))
  refine own_st (fun _ k => XS.iload X123.here hx rfl (hb hby at_82) rfl k) ?_
  show own_Go p e below s _ _ _ (T123.setTop (mkF m 84 #[.val (.long pc_), .second, .val (.int pf), .val (.int pl), .val (.int pn), .val (.ref b101), .val (.ref b120), .val (.int (Int32.ofNat na)), .unset, .unset, .unset, .unset, .unset] [(.int (Int32.ofNat na))]))
  refine own_st (fun _ k => XS.iloadN X123.here hx rfl (hb hby at_84) rfl k) ?_
  show own_Go p e below s _ _ _ (T123.setTop (mkF m 85 #[.val (.long pc_), .second, .val (.int pf), .val (.int pl), .val (.int pn), .val (.ref b101), .val (.ref b120), .val (.int (Int32.ofNat na)), .unset, .unset, .unset, .unset, .unset] [(.int pl), (.int (Int32.ofNat na))]))
  refine own_st (X123.ldcInt hx hown (mvT hZ (hw _ (List.mem_of_getElem? (i := 35) rfl))) (g := (mkF m 85 #[.val (.long pc_), .second, .val (.int pf), .val (.int pl), .val (.int pn), .val (.ref b101), .val (.ref b120), .val (.int (Int32.ofNat na)), .unset, .unset, .unset, .unset, .unset] [(.int pl), (.int (Int32.ofNat na))])) rfl (hb hby at_85)) ?_
  show own_Go p e below s _ _ _ (T123.setTop (mkF m 87 #[.val (.long pc_), .second, .val (.int pf), .val (.int pl), .val (.int pn), .val (.ref b101), .val (.ref b120), .val (.int (Int32.ofNat na)), .unset, .unset, .unset, .unset, .unset] [(.int (2147483647 : Int32)), (.int pl), (.int (Int32.ofNat na))]))
  refine own_st (fun _ k => XS.iand X123.here hx rfl (hb hby at_87) rfl k) ?_
  show own_Go p e below s _ _ _ (T123.setTop (mkF m 88 #[.val (.long pc_), .second, .val (.int pf), .val (.int pl), .val (.int pn), .val (.ref b101), .val (.ref b120), .val (.int (Int32.ofNat na)), .unset, .unset, .unset, .unset, .unset] [(.int (pl &&& (2147483647 : Int32))), (.int (Int32.ofNat na))]))
  refine own_st (fun _ k => XS.bipush X123.here hx rfl (hb hby at_88) k) ?_
  show own_Go p e below s _ _ _ (T123.setTop (mkF m 90 #[.val (.long pc_), .second, .val (.int pf), .val (.int pl), .val (.int pn), .val (.ref b101), .val (.ref b120), .val (.int (Int32.ofNat na)), .unset, .unset, .unset, .unset, .unset] [(.int (7 : Int32)), (.int (pl &&& (2147483647 : Int32))), (.int (Int32.ofNat na))]))
  refine own_st (fun _ k => XS.iload X123.here hx rfl (hb hby at_90) rfl k) ?_
  show own_Go p e below s _ _ _ (T123.setTop (mkF m 92 #[.val (.long pc_), .second, .val (.int pf), .val (.int pl), .val (.int pn), .val (.ref b101), .val (.ref b120), .val (.int (Int32.ofNat na)), .unset, .unset, .unset, .unset, .unset] [(.int (Int32.ofNat na)), (.int (7 : Int32)), (.int (pl &&& (2147483647 : Int32))), (.int (Int32.ofNat na))]))
  refine own_st (fun _ k => XS.isub X123.here hx rfl (hb hby at_92) rfl k) ?_
  show own_Go p e below s _ _ _ (T123.setTop (mkF m 93 #[.val (.long pc_), .second, .val (.int pf), .val (.int pl), .val (.int pn), .val (.ref b101), .val (.ref b120), .val (.int (Int32.ofNat na)), .unset, .unset, .unset, .unset, .unset] [(.int ((7 : Int32) - (Int32.ofNat na))), (.int (pl &&& (2147483647 : Int32))), (.int (Int32.ofNat na))]))
  refine own_st (fun _ k => iremM (g := (mkF m 93 #[.val (.long pc_), .second, .val (.int pf), .val (.int pl), .val (.int pn), .val (.ref b101), .val (.ref b120), .val (.int (Int32.ofNat na)), .unset, .unset, .unset, .unset, .unset] [(.int ((7 : Int32) - (Int32.ofNat na))), (.int (pl &&& (2147483647 : Int32))), (.int (Int32.ofNat na))])) X123 hx rfl (hb hby at_93) rfl (own_nz7 ha1 ha6) k) ?_
  show own_Go p e below s _ _ _ (T123.setTop (mkF m 94 #[.val (.long pc_), .second, .val (.int pf), .val (.int pl), .val (.int pn), .val (.ref b101), .val (.ref b120), .val (.int (Int32.ofNat na)), .unset, .unset, .unset, .unset, .unset] [(.int ((pl &&& (2147483647 : Int32)) % ((7 : Int32) - (Int32.ofNat na)))), (.int (Int32.ofNat na))]))
  refine own_st (fun _ k => XS.iadd X123.here hx rfl (hb hby at_94) rfl k) ?_
  show own_Go p e below s _ _ _ (T123.setTop (mkF m 95 #[.val (.long pc_), .second, .val (.int pf), .val (.int pl), .val (.int pn), .val (.ref b101), .val (.ref b120), .val (.int (Int32.ofNat na)), .unset, .unset, .unset, .unset, .unset] [(.int ((Int32.ofNat na) + ((pl &&& (2147483647 : Int32)) % ((7 : Int32) - (Int32.ofNat na)))))]))
  obtain ⟨nb, hb1, hb6, eb⟩ := own_last pl ha1 ha6
  rw [eb]
  show own_Go p e below s _ _ _ (T123.setTop (mkF m 95 #[.val (.long pc_), .second, .val (.int pf), .val (.int pl), .val (.int pn), .val (.ref b101), .val (.ref b120), .val (.int (Int32.ofNat na)), .unset, .unset, .unset, .unset, .unset] [(.int (Int32.ofNat nb))]))
  refine own_st (fun _ k => XS.istore X123.here hx rfl (hb hby at_95) rfl (l' := #[.val (.long pc_), .second, .val (.int pf), .val (.int pl), .val (.int pn), .val (.ref b101), .val (.ref b120), .val (.int (Int32.ofNat na)), .val (.int (Int32.ofNat nb)), .unset, .unset, .unset, .unset]) rfl k) ?_
  show own_Go p e below s _ _ _ (T123.setTop (mkF m 97 #[.val (.long pc_), .second, .val (.int pf), .val (.int pl), .val (.int pn), .val (.ref b101), .val (.ref b120), .val (.int (Int32.ofNat na)), .val (.int (Int32.ofNat nb)), .unset, .unset, .unset, .unset] []))
  obtain ⟨T124, h124, X124, e124, E124, A124, D124, -, st124⟩ := newO X123 hx hZ hown (hw _ (List.mem_of_getElem? (i := 36) rfl)) (hw _ (List.mem_of_getElem? (i := 37) rfl)) (hw _ (List.mem_of_getElem? (i := 38) rfl)) e123 (g := (mkF m 97 #[.val (.long pc_), .second, .val (.int pf), .val (.int pl), .val (.int pn), .val (.ref b101), .val (.ref b120), .val (.int (Int32.ofNat na)), .val (.int (Int32.ofNat nb)), .unset, .unset, .unset, .unset] [])) rfl (hb hby at_97) (by decide) (by decide)
  obtain ⟨b124, g124⟩ : ∃ z, z = h123.size := ⟨_, rfl⟩
  rw [← g124] at A124 D124 st124
  have K124 : Keep h123 h124 [] := (Keep.refl _ _).ext E124
  have l124 : b124 < h124.size := A124.lt
  refine own_st st124 ?_
  have zK124 := K124.1
  show own_Go p e below s _ _ _ (T124.setTop (mkF m 100 #[.val (.long pc_), .second, .val (.int pf), .val (.int pl), .val (.int pn), .val (.ref b101), .val (.ref b120), .val (.int (Int32.ofNat na)), .val (.int (Int32.ofNat nb)), .unset, .unset, .unset, .unset] [(.ref b124)]))
  refine own_st (fun _ k => XS.dup X124.here hx rfl (hb hby at_100) rfl rfl k) ?_
  show own_Go p e below s _ _ _ (T124.setTop (mkF m 101 #[.val (.long pc_), .second, .val (.int pf), .val (.int pl), .val (.int pn), .val (.ref b101), .val (.ref b120), .val (.int (Int32.ofNat na)), .val (.int (Int32.ofNat nb)), .unset, .unset, .unset, .unset] [(.ref b124), (.ref b124)]))
  refine own_st (fun _ k => XS.iload X124.here hx rfl (hb hby at_101) rfl k) ?_
  show own_Go p e below s _ _ _ (T124.setTop (mkF m 103 #[.val (.long pc_), .second, .val (.int pf), .val (.int pl), .val (.int pn), .val (.ref b101), .val (.ref b120), .val (.int (Int32.ofNat na)), .val (.int (Int32.ofNat nb)), .unset, .unset, .unset, .unset] [(.int pn), (.ref b124), (.ref b124)]))
  refine own_st (fun _ k => XS.iload X124.here hx rfl (hb hby at_103) rfl k) ?_
  show own_Go p e below s _ _ _ (T124.setTop (mkF m 105 #[.val (.long pc_), .second, .val (.int pf), .val (.int pl), .val (.int pn), .val (.ref b101), .val (.ref b120), .val (.int (Int32.ofNat na)), .val (.int (Int32.ofNat nb)), .unset, .unset, .unset, .unset] [(.int (Int32.ofNat na)), (.int pn), (.ref b124), (.ref b124)]))
  refine own_st (fun _ k => XS.iload X124.here hx rfl (hb hby at_105) rfl k) ?_
  show own_Go p e below s _ _ _ (T124.setTop (mkF m 107 #[.val (.long pc_), .second, .val (.int pf), .val (.int pl), .val (.int pn), .val (.ref b101), .val (.ref b120), .val (.int (Int32.ofNat na)), .val (.int (Int32.ofNat nb)), .unset, .unset, .unset, .unset] [(.int (Int32.ofNat nb)), (.int (Int32.ofNat na)), (.int pn), (.ref b124), (.ref b124)]))
  have O125 : Old Z n0 h124 := O122.keep (((Keep.refl h120 [b120]).trans K123 (allS (Or.inl (by simp)) all0)).trans K124 all0) (allS (by omega) all0)
  have F_number_b124 : Fld Z h124 b124 "com/example/staffetta/staffetta/ArchiveLayout$Field" "number" "I" (.int (0 : Int32)) := D124 (Or.inr (hw _ (List.mem_of_getElem? (i := 49) rfl))) (ty := .int) (by decide)
  have F_first_b124 : Fld Z h124 b124 "com/example/staffetta/staffetta/ArchiveLayout$Field" "first" "I" (.int (0 : Int32)) := D124 (Or.inr (hw _ (List.mem_of_getElem? (i := 51) rfl))) (ty := .int) (by decide)
  have F_last_b124 : Fld Z h124 b124 "com/example/staffetta/staffetta/ArchiveLayout$Field" "last" "I" (.int (0 : Int32)) := D124 (Or.inr (hw _ (List.mem_of_getElem? (i := 53) rfl))) (ty := .int) (by decide)
  obtain ⟨T126, v126, L126, h126, X126, e126, q126, st126⟩ := own_callI X124 hx hZ (y := (⟨"com/example/staffetta/staffetta/ArchiveLayout$Field", "<init>", "(III)V"⟩ : MethodName)) rfl hown (hw _ (List.mem_of_getElem? (i := 39) rfl)) (hw _ (List.mem_of_getElem? (i := 40) rfl)) (hw _ (List.mem_of_getElem? (i := 41) rfl)) (by decide) (own_bk (W := 1) (fdI l Z a0 hw b124 pn (Int32.ofNat na) (Int32.ofNat nb) _ _ _ h124 n0 O125 A124 (by omega) F_number_b124 F_first_b124 F_last_b124) hZ (hw _ (List.mem_of_getElem? (i := 41) rfl)) (hw _ (List.mem_of_getElem? (i := 38) rfl)) (by decide) (by decide)) e124 (by decide) (by decide) (g := (mkF m 107 #[.val (.long pc_), .second, .val (.int pf), .val (.int pl), .val (.int pn), .val (.ref b101), .val (.ref b120), .val (.int (Int32.ofNat na)), .val (.int (Int32.ofNat nb)), .unset, .unset, .unset, .unset] [(.int (Int32.ofNat nb)), (.int (Int32.ofNat na)), (.int pn), (.ref b124), (.ref b124)])) rfl (by rw [hml]; rfl) (a := b124) (argsL := [(.int pn), (.int (Int32.ofNat na)), (.int (Int32.ofNat nb))]) (rest := [(.ref b124)]) (lenOf pd__28III_29V rfl) rfl rfl (by show 2 * 0 + _ ≤ _; exact Nat.le_of_eq rfl) (hb hby at_107)
  obtain ⟨rfl, N126q, K126, A126, Fa126, Fb126⟩ := q126
  refine own_st st126 ?_
  have zK126 := K126.1
  have N126 := Fr.app N123 N126q
  show own_Go p e below s _ _ _ (T126.setTop (mkF m 110 #[.val (.long pc_), .second, .val (.int pf), .val (.int pl), .val (.int pn), .val (.ref b101), .val (.ref b120), .val (.int (Int32.ofNat na)), .val (.int (Int32.ofNat nb)), .unset, .unset, .unset, .unset] [(.ref b124)]))
  refine own_st (fun _ k => XS.astore X126.here hx rfl (hb hby at_110) rfl rfl (l' := #[.val (.long pc_), .second, .val (.int pf), .val (.int pl), .val (.int pn), .val (.ref b101), .val (.ref b120), .val (.int (Int32.ofNat na)), .val (.int (Int32.ofNat nb)), .val (.ref b124), .unset, .unset, .unset]) rfl k) ?_
  show own_Go p e below s _ _ _ (T126.setTop (mkF m 112 #[.val (.long pc_), .second, .val (.int pf), .val (.int pl), .val (.int pn), .val (.ref b101), .val (.ref b120), .val (.int (Int32.ofNat na)), .val (.int (Int32.ofNat nb)), .val (.ref b124), .unset, .unset, .unset] []))
  refine own_st (fun _ k => XS.aload X126.here hx rfl (hb hby at_112) rfl rfl k) ?_
  show own_Go p e below s _ _ _ (T126.setTop (mkF m 114 #[.val (.long pc_), .second, .val (.int pf), .val (.int pl), .val (.int pn), .val (.ref b101), .val (.ref b120), .val (.int (Int32.ofNat na)), .val (.int (Int32.ofNat nb)), .val (.ref b124), .unset, .unset, .unset] [(.ref b124)]))
  refine own_st (fun _ k => XS.aload X126.here hx rfl (hb hby at_114) rfl rfl k) ?_
  show own_Go p e below s _ _ _ (T126.setTop (mkF m 116 #[.val (.long pc_), .second, .val (.int pf), .val (.int pl), .val (.int pn), .val (.ref b101), .val (.ref b120), .val (.int (Int32.ofNat na)), .val (.int (Int32.ofNat nb)), .val (.ref b124), .unset, .unset, .unset] [(.ref b120), (.ref b124)]))
  have O127 : Old Z n0 h126 := O125.keep ((Keep.refl h124 [b124]).trans K126 (allS (Or.inl (by simp)) all0)) (allS (by omega) all0)
  have f128 := (S123.keep (((Keep.refl h123 []).trans K124 all0).trans K126 (allS (Or.inr (by omega)) all0)) nin0)
  obtain ⟨T129, v129, L129, h129, X129, e129, q129, st129⟩ := own_callV X126 hx hZ (y := (⟨"com/example/staffetta/staffetta/ArchiveLayout$Field", "in", "(Ljava/lang/String;)Ljava/lang/String;"⟩ : MethodName)) (z := (⟨"com/example/staffetta/staffetta/ArchiveLayout$Field", "in", "(Ljava/lang/String;)Ljava/lang/String;"⟩ : MethodName)) hown (hw _ (List.mem_of_getElem? (i := 54) rfl)) (hw _ (List.mem_of_getElem? (i := 55) rfl)) (notFace_of_selects (args := #[]) (mvT hZ (hw _ (List.mem_of_getElem? (i := 57) rfl)))) (hw _ (List.mem_of_getElem? (i := 57) rfl)) (hw _ (List.mem_of_getElem? (i := 56) rfl)) (by decide) (own_bk (W := 0) (inW l Z a0 hw b124 b120 [c103, c106, c109, c112, c115, c118] na nb h126 n0 O127 CS FM ha1 hb1 hb6 (Nat.le_refl 6) hlat Fa126 Fb126 f128) hZ (hw _ (List.mem_of_getElem? (i := 58) rfl)) (hw _ (List.mem_of_getElem? (i := 38) rfl)) (by decide) (by decide)) e126 A126 (by decide) (by decide) (g := (mkF m 116 #[.val (.long pc_), .second, .val (.int pf), .val (.int pl), .val (.int pn), .val (.ref b101), .val (.ref b120), .val (.int (Int32.ofNat na)), .val (.int (Int32.ofNat nb)), .val (.ref b124), .unset, .unset, .unset] [(.ref b120), (.ref b124)])) rfl (by rw [hml]; rfl) (argsL := [(.ref b120)]) (rest := []) (lenOf pd__28Ljava_2flang_2fString_3b_29Ljava_2flang_2fString_3b rfl) rfl rfl (by show 2 * 0 + _ ≤ _; exact Nat.le_of_eq rfl) (hb hby at_116)
  obtain ⟨N129q, b129, rfl, K129, S129⟩ := q129
  refine own_st st129 ?_
  have zK129 := K129.1
  have N129 := Fr.app N126 N129q
  have A129 := S129.1
  show own_Go p e below s _ _ _ (T129.setTop (mkF m 119 #[.val (.long pc_), .second, .val (.int pf), .val (.int pl), .val (.int pn), .val (.ref b101), .val (.ref b120), .val (.int (Int32.ofNat na)), .val (.int (Int32.ofNat nb)), .val (.ref b124), .unset, .unset, .unset] [(.ref b129)]))
  refine own_st (fun _ k => XS.astore X129.here hx rfl (hb hby at_119) rfl rfl (l' := #[.val (.long pc_), .second, .val (.int pf), .val (.int pl), .val (.int pn), .val (.ref b101), .val (.ref b120), .val (.int (Int32.ofNat na)), .val (.int (Int32.ofNat nb)), .val (.ref b124), .val (.ref b129), .unset, .unset]) rfl k) ?_
  show own_Go p e below s _ _ _ (T129.setTop (mkF m 121 #[.val (.long pc_), .second, .val (.int pf), .val (.int pl), .val (.int pn), .val (.ref b101), .val (.ref b120), .val (.int (Int32.ofNat na)), .val (.int (Int32.ofNat nb)), .val (.ref b124), .val (.ref b129), .unset, .unset] []))
  refine own_st (fun _ k => XS.iload X129.here hx rfl (hb hby at_121) rfl k) ?_
  show own_Go p e below s _ _ _ (T129.setTop (mkF m 123 #[.val (.long pc_), .second, .val (.int pf), .val (.int pl), .val (.int pn), .val (.ref b101), .val (.ref b120), .val (.int (Int32.ofNat na)), .val (.int (Int32.ofNat nb)), .val (.ref b124), .val (.ref b129), .unset, .unset] [(.int (Int32.ofNat nb))]))
  refine own_st (fun _ k => XS.iload X129.here hx rfl (hb hby at_123) rfl k) ?_
  show own_Go p e below s _ _ _ (T129.setTop (mkF m 125 #[.val (.long pc_), .second, .val (.int pf), .val (.int pl), .val (.int pn), .val (.ref b101), .val (.ref b120), .val (.int (Int32.ofNat na)), .val (.int (Int32.ofNat nb)), .val (.ref b124), .val (.ref b129), .unset, .unset] [(.int (Int32.ofNat na)), (.int (Int32.ofNat nb))]))
  refine own_st (fun _ k => XS.isub X129.here hx rfl (hb hby at_125) rfl k) ?_
  show own_Go p e below s _ _ _ (T129.setTop (mkF m 126 #[.val (.long pc_), .second, .val (.int pf), .val (.int pl), .val (.int pn), .val (.ref b101), .val (.ref b120), .val (.int (Int32.ofNat na)), .val (.int (Int32.ofNat nb)), .val (.ref b124), .val (.ref b129), .unset, .unset] [(.int ((Int32.ofNat nb) - (Int32.ofNat na)))]))
  refine own_st (fun _ k => XS.iconst X129.here hx rfl (hb hby at_126) k) ?_
  show own_Go p e below s _ _ _ (T129.setTop (mkF m 127 #[.val (.long pc_), .second, .val (.int pf), .val (.int pl), .val (.int pn), .val (.ref b101), .val (.ref b120), .val (.int (Int32.ofNat na)), .val (.int (Int32.ofNat nb)), .val (.ref b124), .val (.ref b129), .unset, .unset] [(.int (1 : Int32)), (.int ((Int32.ofNat nb) - (Int32.ofNat na)))]))
  refine own_st (fun _ k => XS.iadd X129.here hx rfl (hb hby at_127) rfl k) ?_
  show own_Go p e below s _ _ _ (T129.setTop (mkF m 128 #[.val (.long pc_), .second, .val (.int pf), .val (.int pl), .val (.int pn), .val (.ref b101), .val (.ref b120), .val (.int (Int32.ofNat na)), .val (.int (Int32.ofNat nb)), .val (.ref b124), .val (.ref b129), .unset, .unset] [(.int (((Int32.ofNat nb) - (Int32.ofNat na)) + (1 : Int32)))]))
  rw [show Int32.ofNat nb - Int32.ofNat na + (1 : Int32) = Int32.ofNat (nb - (na - 1)) from by rw [own_nsub hb1 (by omega)]; exact (own_nadd (b := 1) (by omega)).trans (by rw [show nb - na + 1 = nb - (na - 1) from by omega])]
  show own_Go p e below s _ _ _ (T129.setTop (mkF m 128 #[.val (.long pc_), .second, .val (.int pf), .val (.int pl), .val (.int pn), .val (.ref b101), .val (.ref b120), .val (.int (Int32.ofNat na)), .val (.int (Int32.ofNat nb)), .val (.ref b124), .val (.ref b129), .unset, .unset] [(.int (Int32.ofNat (nb - (na - 1))))]))
  refine own_st (fun _ k => XS.istore X129.here hx rfl (hb hby at_128) rfl (l' := #[.val (.long pc_), .second, .val (.int pf), .val (.int pl), .val (.int pn), .val (.ref b101), .val (.ref b120), .val (.int (Int32.ofNat na)), .val (.int (Int32.ofNat nb)), .val (.ref b124), .val (.ref b129), .val (.int (Int32.ofNat (nb - (na - 1)))), .unset]) rfl k) ?_
  show own_Go p e below s _ _ _ (T129.setTop (mkF m 130 #[.val (.long pc_), .second, .val (.int pf), .val (.int pl), .val (.int pn), .val (.ref b101), .val (.ref b120), .val (.int (Int32.ofNat na)), .val (.int (Int32.ofNat nb)), .val (.ref b124), .val (.ref b129), .val (.int (Int32.ofNat (nb - (na - 1)))), .unset] []))
  refine own_st (fun _ k => XS.aload X129.here hx rfl (hb hby at_130) rfl rfl k) ?_
  show own_Go p e below s _ _ _ (T129.setTop (mkF m 132 #[.val (.long pc_), .second, .val (.int pf), .val (.int pl), .val (.int pn), .val (.ref b101), .val (.ref b120), .val (.int (Int32.ofNat na)), .val (.int (Int32.ofNat nb)), .val (.ref b124), .val (.ref b129), .val (.int (Int32.ofNat (nb - (na - 1)))), .unset] [(.ref b129)]))
  have O130 : Old Z n0 h129 := O127.keep ((Keep.refl h126 []).trans K129 all0) all0
  obtain ⟨T131, v131, L131, h131, X131, e131, q131, st131⟩ := own_callV X129 hx hZ (y := (⟨"java/lang/String", "length", "()I"⟩ : MethodName)) (z := (⟨"java/lang/String", "length", "()I"⟩ : MethodName)) hown (hw _ (List.mem_of_getElem? (i := 113) rfl)) (hw _ (List.mem_of_getElem? (i := 65) rfl)) (notFace_of_selects (args := #[]) (mvT hZ (hw _ (List.mem_of_getElem? (i := 67) rfl)))) (hw _ (List.mem_of_getElem? (i := 67) rfl)) (hw _ (List.mem_of_getElem? (i := 66) rfl)) (by decide) (own_lenB (W := 0) hZ (own_wLen hw) (kI := 4) (hw _ (List.mem_of_getElem? (i := 7) rfl)) O130 CS S129 (by decide) (by decide)) e129 A129 (by decide) (by decide) (g := (mkF m 132 #[.val (.long pc_), .second, .val (.int pf), .val (.int pl), .val (.int pn), .val (.ref b101), .val (.ref b120), .val (.int (Int32.ofNat na)), .val (.int (Int32.ofNat nb)), .val (.ref b124), .val (.ref b129), .val (.int (Int32.ofNat (nb - (na - 1)))), .unset] [(.ref b129)])) rfl (by rw [hml]; rfl) (argsL := []) (rest := []) (lenOf pd__28_29I rfl) rfl rfl (by show 2 * 0 + _ ≤ _; exact Nat.le_of_eq rfl) (hb hby at_132)
  obtain ⟨rfl, N131q, hq131⟩ := q131
  replace e131 := e131.trans hq131
  refine own_st st131 ?_
  have N131 := Fr.app N129 N131q
  show own_Go p e below s _ _ _ (T131.setTop (mkF m 135 #[.val (.long pc_), .second, .val (.int pf), .val (.int pl), .val (.int pn), .val (.ref b101), .val (.ref b120), .val (.int (Int32.ofNat na)), .val (.int (Int32.ofNat nb)), .val (.ref b124), .val (.ref b129), .val (.int (Int32.ofNat (nb - (na - 1)))), .unset] [(.int (Int32.ofNat ((([c103, c106, c109, c112, c115, c118].drop (na - 1)).take (nb - (na - 1)))).length))]))
  refine own_st (fun _ k => XS.iload X131.here hx rfl (hb hby at_135) rfl k) ?_
  show own_Go p e below s _ _ _ (T131.setTop (mkF m 137 #[.val (.long pc_), .second, .val (.int pf), .val (.int pl), .val (.int pn), .val (.ref b101), .val (.ref b120), .val (.int (Int32.ofNat na)), .val (.int (Int32.ofNat nb)), .val (.ref b124), .val (.ref b129), .val (.int (Int32.ofNat (nb - (na - 1)))), .unset] [(.int (Int32.ofNat (nb - (na - 1)))), (.int (Int32.ofNat ((([c103, c106, c109, c112, c115, c118].drop (na - 1)).take (nb - (na - 1)))).length))]))
  refine own_st (fun _ k => XS.icmpYes X131.here hx rfl (pc0 := 137) (pc' := 142) rfl (hb hby at_137) rfl (teq (by show Int32.ofNat (List.length _) = _; rw [List.length_take, List.length_drop]; congr 1; show min _ (6 - _) = _; omega)).1 (by decide) (by decide) k) ?_
  show own_Go p e below s _ _ _ (T131.setTop (mkF m 142 #[.val (.long pc_), .second, .val (.int pf), .val (.int pl), .val (.int pn), .val (.ref b101), .val (.ref b120), .val (.int (Int32.ofNat na)), .val (.int (Int32.ofNat nb)), .val (.ref b124), .val (.ref b129), .val (.int (Int32.ofNat (nb - (na - 1)))), .unset] []))
  refine own_st (fun _ k => XS.iload X131.here hx rfl (hb hby at_142) rfl k) ?_
  show own_Go p e below s _ _ _ (T131.setTop (mkF m 144 #[.val (.long pc_), .second, .val (.int pf), .val (.int pl), .val (.int pn), .val (.ref b101), .val (.ref b120), .val (.int (Int32.ofNat na)), .val (.int (Int32.ofNat nb)), .val (.ref b124), .val (.ref b129), .val (.int (Int32.ofNat (nb - (na - 1)))), .unset] [(.int (Int32.ofNat na))]))
  refine own_st (fun _ k => XS.iconst X131.here hx rfl (hb hby at_144) k) ?_
  show own_Go p e below s _ _ _ (T131.setTop (mkF m 145 #[.val (.long pc_), .second, .val (.int pf), .val (.int pl), .val (.int pn), .val (.ref b101), .val (.ref b120), .val (.int (Int32.ofNat na)), .val (.int (Int32.ofNat nb)), .val (.ref b124), .val (.ref b129), .val (.int (Int32.ofNat (nb - (na - 1)))), .unset] [(.int (1 : Int32)), (.int (Int32.ofNat na))]))
  refine own_st (fun _ k => XS.isub X131.here hx rfl (hb hby at_145) rfl k) ?_
  show own_Go p e below s _ _ _ (T131.setTop (mkF m 146 #[.val (.long pc_), .second, .val (.int pf), .val (.int pl), .val (.int pn), .val (.ref b101), .val (.ref b120), .val (.int (Int32.ofNat na)), .val (.int (Int32.ofNat nb)), .val (.ref b124), .val (.ref b129), .val (.int (Int32.ofNat (nb - (na - 1)))), .unset] [(.int ((Int32.ofNat na) - (1 : Int32)))]))
  rw [show Int32.ofNat na - (1 : Int32) = Int32.ofNat (na - 1) from own_nsub (a := 1) ha1 (by omega)]
  show own_Go p e below s _ _ _ (T131.setTop (mkF m 146 #[.val (.long pc_), .second, .val (.int pf), .val (.int pl), .val (.int pn), .val (.ref b101), .val (.ref b120), .val (.int (Int32.ofNat na)), .val (.int (Int32.ofNat nb)), .val (.ref b124), .val (.ref b129), .val (.int (Int32.ofNat (nb - (na - 1)))), .unset] [(.int (Int32.ofNat (na - 1)))]))
  refine own_st (fun _ k => XS.istore X131.here hx rfl (hb hby at_146) rfl (l' := #[.val (.long pc_), .second, .val (.int pf), .val (.int pl), .val (.int pn), .val (.ref b101), .val (.ref b120), .val (.int (Int32.ofNat na)), .val (.int (Int32.ofNat nb)), .val (.ref b124), .val (.ref b129), .val (.int (Int32.ofNat (nb - (na - 1)))), .val (.int (Int32.ofNat (na - 1)))]) rfl k) ?_
  show own_Go p e below s _ _ _ (T131.setTop (mkF m 148 #[.val (.long pc_), .second, .val (.int pf), .val (.int pl), .val (.int pn), .val (.ref b101), .val (.ref b120), .val (.int (Int32.ofNat na)), .val (.int (Int32.ofNat nb)), .val (.ref b124), .val (.ref b129), .val (.int (Int32.ofNat (nb - (na - 1)))), .val (.int (Int32.ofNat (na - 1)))] []))
  refine own_st (fun _ k => XS.aload X131.here hx rfl (hb hby at_148) rfl rfl k) ?_
  show own_Go p e below s _ _ _ (T131.setTop (mkF m 150 #[.val (.long pc_), .second, .val (.int pf), .val (.int pl), .val (.int pn), .val (.ref b101), .val (.ref b120), .val (.int (Int32.ofNat na)), .val (.int (Int32.ofNat nb)), .val (.ref b124), .val (.ref b129), .val (.int (Int32.ofNat (nb - (na - 1)))), .val (.int (Int32.ofNat (na - 1)))] [(.ref b129)]))
  refine own_st (fun _ k => XS.aload X131.here hx rfl (hb hby at_150) rfl rfl k) ?_
  show own_Go p e below s _ _ _ (T131.setTop (mkF m 152 #[.val (.long pc_), .second, .val (.int pf), .val (.int pl), .val (.int pn), .val (.ref b101), .val (.ref b120), .val (.int (Int32.ofNat na)), .val (.int (Int32.ofNat nb)), .val (.ref b124), .val (.ref b129), .val (.int (Int32.ofNat (nb - (na - 1)))), .val (.int (Int32.ofNat (na - 1)))] [(.ref b120), (.ref b129)]))
  refine own_st (fun _ k => XS.iload X131.here hx rfl (hb hby at_152) rfl k) ?_
  show own_Go p e below s _ _ _ (T131.setTop (mkF m 154 #[.val (.long pc_), .second, .val (.int pf), .val (.int pl), .val (.int pn), .val (.ref b101), .val (.ref b120), .val (.int (Int32.ofNat na)), .val (.int (Int32.ofNat nb)), .val (.ref b124), .val (.ref b129), .val (.int (Int32.ofNat (nb - (na - 1)))), .val (.int (Int32.ofNat (na - 1)))] [(.int (Int32.ofNat (na - 1))), (.ref b120), (.ref b129)]))
  refine own_st (fun _ k => XS.iload X131.here hx rfl (hb hby at_154) rfl k) ?_
  show own_Go p e below s _ _ _ (T131.setTop (mkF m 156 #[.val (.long pc_), .second, .val (.int pf), .val (.int pl), .val (.int pn), .val (.ref b101), .val (.ref b120), .val (.int (Int32.ofNat na)), .val (.int (Int32.ofNat nb)), .val (.ref b124), .val (.ref b129), .val (.int (Int32.ofNat (nb - (na - 1)))), .val (.int (Int32.ofNat (na - 1)))] [(.int (Int32.ofNat (nb - (na - 1)))), (.int (Int32.ofNat (na - 1))), (.ref b120), (.ref b129)]))
  refine own_st (fun _ k => XS.iconst X131.here hx rfl (hb hby at_156) k) ?_
  show own_Go p e below s _ _ _ (T131.setTop (mkF m 157 #[.val (.long pc_), .second, .val (.int pf), .val (.int pl), .val (.int pn), .val (.ref b101), .val (.ref b120), .val (.int (Int32.ofNat na)), .val (.int (Int32.ofNat nb)), .val (.ref b124), .val (.ref b129), .val (.int (Int32.ofNat (nb - (na - 1)))), .val (.int (Int32.ofNat (na - 1)))] [(.int (0 : Int32)), (.int (Int32.ofNat (nb - (na - 1)))), (.int (Int32.ofNat (na - 1))), (.ref b120), (.ref b129)]))
  have f132 := (f128.keep ((Keep.refl h126 []).trans K129 all0) nin0)
  obtain ⟨T133, v133, L133, h133, X133, e133, q133, st133⟩ := own_callS X131 hx hZ (y := (⟨"com/example/staffetta/staffetta/FieldInPinLaw", "at", "(Ljava/lang/String;Ljava/lang/String;III)Z"⟩ : MethodName)) hown (hw _ (List.mem_of_getElem? (i := 114) rfl)) (hw _ (List.mem_of_getElem? (i := 115) rfl)) (hw _ (List.mem_of_getElem? (i := 3) rfl)) (hw _ (List.mem_of_getElem? (i := 116) rfl)) (by decide) (own_bk (W := 0) (atW l Z a0 hw b129 b120 [c103, c106, c109, c112, c115, c118] (([c103, c106, c109, c112, c115, c118].drop (na - 1)).take (nb - (na - 1))) (na - 1) (nb - (na - 1)) 0 h129 n0 O130 CS FM rfl (by show na - 1 + (nb - (na - 1)) ≤ 6; omega) (Nat.le_refl 6) (by decide) hlat S129 f132) hZ (hw _ (List.mem_of_getElem? (i := 116) rfl)) (hw _ (List.mem_of_getElem? (i := 3) rfl)) (by decide) (by decide)) e131 (by decide) (by decide) (g := (mkF m 157 #[.val (.long pc_), .second, .val (.int pf), .val (.int pl), .val (.int pn), .val (.ref b101), .val (.ref b120), .val (.int (Int32.ofNat na)), .val (.int (Int32.ofNat nb)), .val (.ref b124), .val (.ref b129), .val (.int (Int32.ofNat (nb - (na - 1)))), .val (.int (Int32.ofNat (na - 1)))] [(.int (0 : Int32)), (.int (Int32.ofNat (nb - (na - 1)))), (.int (Int32.ofNat (na - 1))), (.ref b120), (.ref b129)])) rfl (by rw [hml]; rfl) (argsL := [(.ref b129), (.ref b120), (.int (Int32.ofNat (na - 1))), (.int (Int32.ofNat (nb - (na - 1)))), (.int (0 : Int32))]) (rest := []) (lenOf pd__28Ljava_2flang_2fString_3bLjava_2flang_2fString_3bIII_29Z rfl) rfl rfl (by show 2 * 0 + _ ≤ _; exact Nat.le_of_eq rfl) (hb hby at_157)
  obtain ⟨rfl, N133q, hq133⟩ := q133
  replace e133 := e133.trans hq133
  refine own_st st133 ?_
  have N133 := Fr.app N131 N133q
  show own_Go p e below s _ _ _ (T133.setTop (mkF m 160 #[.val (.long pc_), .second, .val (.int pf), .val (.int pl), .val (.int pn), .val (.ref b101), .val (.ref b120), .val (.int (Int32.ofNat na)), .val (.int (Int32.ofNat nb)), .val (.ref b124), .val (.ref b129), .val (.int (Int32.ofNat (nb - (na - 1)))), .val (.int (Int32.ofNat (na - 1)))] [(.int (1 : Int32))]))
  refine own_st (fun _ k => XS.ifNo X133.here hx rfl (hb hby at_160) rfl ((if0 _ _).trans (feq (by decide)).1) k) ?_
  show own_Go p e below s _ _ _ (T133.setTop (mkF m 163 #[.val (.long pc_), .second, .val (.int pf), .val (.int pl), .val (.int pn), .val (.ref b101), .val (.ref b120), .val (.int (Int32.ofNat na)), .val (.int (Int32.ofNat nb)), .val (.ref b124), .val (.ref b129), .val (.int (Int32.ofNat (nb - (na - 1)))), .val (.int (Int32.ofNat (na - 1)))] []))
  refine own_st (fun _ k => XS.aload X133.here hx rfl (hb hby at_163) rfl rfl k) ?_
  show own_Go p e below s _ _ _ (T133.setTop (mkF m 165 #[.val (.long pc_), .second, .val (.int pf), .val (.int pl), .val (.int pn), .val (.ref b101), .val (.ref b120), .val (.int (Int32.ofNat na)), .val (.int (Int32.ofNat nb)), .val (.ref b124), .val (.ref b129), .val (.int (Int32.ofNat (nb - (na - 1)))), .val (.int (Int32.ofNat (na - 1)))] [(.ref b129)]))
  refine own_st (fun _ k => XS.aload X133.here hx rfl (hb hby at_165) rfl rfl k) ?_
  show own_Go p e below s _ _ _ (T133.setTop (mkF m 167 #[.val (.long pc_), .second, .val (.int pf), .val (.int pl), .val (.int pn), .val (.ref b101), .val (.ref b120), .val (.int (Int32.ofNat na)), .val (.int (Int32.ofNat nb)), .val (.ref b124), .val (.ref b129), .val (.int (Int32.ofNat (nb - (na - 1)))), .val (.int (Int32.ofNat (na - 1)))] [(.ref b120), (.ref b129)]))
  refine own_st (fun _ k => XS.iload X133.here hx rfl (hb hby at_167) rfl k) ?_
  show own_Go p e below s _ _ _ (T133.setTop (mkF m 169 #[.val (.long pc_), .second, .val (.int pf), .val (.int pl), .val (.int pn), .val (.ref b101), .val (.ref b120), .val (.int (Int32.ofNat na)), .val (.int (Int32.ofNat nb)), .val (.ref b124), .val (.ref b129), .val (.int (Int32.ofNat (nb - (na - 1)))), .val (.int (Int32.ofNat (na - 1)))] [(.int (Int32.ofNat (na - 1))), (.ref b120), (.ref b129)]))
  refine own_st (fun _ k => XS.iload X133.here hx rfl (hb hby at_169) rfl k) ?_
  show own_Go p e below s _ _ _ (T133.setTop (mkF m 171 #[.val (.long pc_), .second, .val (.int pf), .val (.int pl), .val (.int pn), .val (.ref b101), .val (.ref b120), .val (.int (Int32.ofNat na)), .val (.int (Int32.ofNat nb)), .val (.ref b124), .val (.ref b129), .val (.int (Int32.ofNat (nb - (na - 1)))), .val (.int (Int32.ofNat (na - 1)))] [(.int (Int32.ofNat (nb - (na - 1)))), (.int (Int32.ofNat (na - 1))), (.ref b120), (.ref b129)]))
  refine own_st (fun _ k => XS.iconst X133.here hx rfl (hb hby at_171) k) ?_
  show own_Go p e below s _ _ _ (T133.setTop (mkF m 172 #[.val (.long pc_), .second, .val (.int pf), .val (.int pl), .val (.int pn), .val (.ref b101), .val (.ref b120), .val (.int (Int32.ofNat na)), .val (.int (Int32.ofNat nb)), .val (.ref b124), .val (.ref b129), .val (.int (Int32.ofNat (nb - (na - 1)))), .val (.int (Int32.ofNat (na - 1)))] [(.int (1 : Int32)), (.int (Int32.ofNat (nb - (na - 1)))), (.int (Int32.ofNat (na - 1))), (.ref b120), (.ref b129)]))
  obtain ⟨T134, v134, L134, h134, X134, e134, q134, st134⟩ := own_callS X133 hx hZ (y := (⟨"com/example/staffetta/staffetta/FieldInPinLaw", "at", "(Ljava/lang/String;Ljava/lang/String;III)Z"⟩ : MethodName)) hown (hw _ (List.mem_of_getElem? (i := 114) rfl)) (hw _ (List.mem_of_getElem? (i := 115) rfl)) (hw _ (List.mem_of_getElem? (i := 3) rfl)) (hw _ (List.mem_of_getElem? (i := 116) rfl)) (by decide) (own_bk (W := 0) (atW l Z a0 hw b129 b120 [c103, c106, c109, c112, c115, c118] (([c103, c106, c109, c112, c115, c118].drop (na - 1)).take (nb - (na - 1))) (na - 1) (nb - (na - 1)) 1 h129 n0 O130 CS FM rfl (by show na - 1 + (nb - (na - 1)) ≤ 6; omega) (Nat.le_refl 6) (by decide) hlat S129 f132) hZ (hw _ (List.mem_of_getElem? (i := 116) rfl)) (hw _ (List.mem_of_getElem? (i := 3) rfl)) (by decide) (by decide)) e133 (by decide) (by decide) (g := (mkF m 172 #[.val (.long pc_), .second, .val (.int pf), .val (.int pl), .val (.int pn), .val (.ref b101), .val (.ref b120), .val (.int (Int32.ofNat na)), .val (.int (Int32.ofNat nb)), .val (.ref b124), .val (.ref b129), .val (.int (Int32.ofNat (nb - (na - 1)))), .val (.int (Int32.ofNat (na - 1)))] [(.int (1 : Int32)), (.int (Int32.ofNat (nb - (na - 1)))), (.int (Int32.ofNat (na - 1))), (.ref b120), (.ref b129)])) rfl (by rw [hml]; rfl) (argsL := [(.ref b129), (.ref b120), (.int (Int32.ofNat (na - 1))), (.int (Int32.ofNat (nb - (na - 1)))), (.int (1 : Int32))]) (rest := []) (lenOf pd__28Ljava_2flang_2fString_3bLjava_2flang_2fString_3bIII_29Z rfl) rfl rfl (by show 2 * 0 + _ ≤ _; exact Nat.le_of_eq rfl) (hb hby at_172)
  obtain ⟨rfl, N134q, hq134⟩ := q134
  replace e134 := e134.trans hq134
  refine own_st st134 ?_
  have N134 := Fr.app N133 N134q
  show own_Go p e below s _ _ _ (T134.setTop (mkF m 175 #[.val (.long pc_), .second, .val (.int pf), .val (.int pl), .val (.int pn), .val (.ref b101), .val (.ref b120), .val (.int (Int32.ofNat na)), .val (.int (Int32.ofNat nb)), .val (.ref b124), .val (.ref b129), .val (.int (Int32.ofNat (nb - (na - 1)))), .val (.int (Int32.ofNat (na - 1)))] [(.int (1 : Int32))]))
  refine own_st (fun _ k => XS.ifNo X134.here hx rfl (hb hby at_175) rfl ((if0 _ _).trans (feq (by decide)).1) k) ?_
  show own_Go p e below s _ _ _ (T134.setTop (mkF m 178 #[.val (.long pc_), .second, .val (.int pf), .val (.int pl), .val (.int pn), .val (.ref b101), .val (.ref b120), .val (.int (Int32.ofNat na)), .val (.int (Int32.ofNat nb)), .val (.ref b124), .val (.ref b129), .val (.int (Int32.ofNat (nb - (na - 1)))), .val (.int (Int32.ofNat (na - 1)))] []))
  refine own_st (fun _ k => XS.aload X134.here hx rfl (hb hby at_178) rfl rfl k) ?_
  show own_Go p e below s _ _ _ (T134.setTop (mkF m 180 #[.val (.long pc_), .second, .val (.int pf), .val (.int pl), .val (.int pn), .val (.ref b101), .val (.ref b120), .val (.int (Int32.ofNat na)), .val (.int (Int32.ofNat nb)), .val (.ref b124), .val (.ref b129), .val (.int (Int32.ofNat (nb - (na - 1)))), .val (.int (Int32.ofNat (na - 1)))] [(.ref b129)]))
  refine own_st (fun _ k => XS.aload X134.here hx rfl (hb hby at_180) rfl rfl k) ?_
  show own_Go p e below s _ _ _ (T134.setTop (mkF m 182 #[.val (.long pc_), .second, .val (.int pf), .val (.int pl), .val (.int pn), .val (.ref b101), .val (.ref b120), .val (.int (Int32.ofNat na)), .val (.int (Int32.ofNat nb)), .val (.ref b124), .val (.ref b129), .val (.int (Int32.ofNat (nb - (na - 1)))), .val (.int (Int32.ofNat (na - 1)))] [(.ref b120), (.ref b129)]))
  refine own_st (fun _ k => XS.iload X134.here hx rfl (hb hby at_182) rfl k) ?_
  show own_Go p e below s _ _ _ (T134.setTop (mkF m 184 #[.val (.long pc_), .second, .val (.int pf), .val (.int pl), .val (.int pn), .val (.ref b101), .val (.ref b120), .val (.int (Int32.ofNat na)), .val (.int (Int32.ofNat nb)), .val (.ref b124), .val (.ref b129), .val (.int (Int32.ofNat (nb - (na - 1)))), .val (.int (Int32.ofNat (na - 1)))] [(.int (Int32.ofNat (na - 1))), (.ref b120), (.ref b129)]))
  refine own_st (fun _ k => XS.iload X134.here hx rfl (hb hby at_184) rfl k) ?_
  show own_Go p e below s _ _ _ (T134.setTop (mkF m 186 #[.val (.long pc_), .second, .val (.int pf), .val (.int pl), .val (.int pn), .val (.ref b101), .val (.ref b120), .val (.int (Int32.ofNat na)), .val (.int (Int32.ofNat nb)), .val (.ref b124), .val (.ref b129), .val (.int (Int32.ofNat (nb - (na - 1)))), .val (.int (Int32.ofNat (na - 1)))] [(.int (Int32.ofNat (nb - (na - 1)))), (.int (Int32.ofNat (na - 1))), (.ref b120), (.ref b129)]))
  refine own_st (fun _ k => XS.iconst X134.here hx rfl (hb hby at_186) k) ?_
  show own_Go p e below s _ _ _ (T134.setTop (mkF m 187 #[.val (.long pc_), .second, .val (.int pf), .val (.int pl), .val (.int pn), .val (.ref b101), .val (.ref b120), .val (.int (Int32.ofNat na)), .val (.int (Int32.ofNat nb)), .val (.ref b124), .val (.ref b129), .val (.int (Int32.ofNat (nb - (na - 1)))), .val (.int (Int32.ofNat (na - 1)))] [(.int (2 : Int32)), (.int (Int32.ofNat (nb - (na - 1)))), (.int (Int32.ofNat (na - 1))), (.ref b120), (.ref b129)]))
  obtain ⟨T135, v135, L135, h135, X135, e135, q135, st135⟩ := own_callS X134 hx hZ (y := (⟨"com/example/staffetta/staffetta/FieldInPinLaw", "at", "(Ljava/lang/String;Ljava/lang/String;III)Z"⟩ : MethodName)) hown (hw _ (List.mem_of_getElem? (i := 114) rfl)) (hw _ (List.mem_of_getElem? (i := 115) rfl)) (hw _ (List.mem_of_getElem? (i := 3) rfl)) (hw _ (List.mem_of_getElem? (i := 116) rfl)) (by decide) (own_bk (W := 0) (atW l Z a0 hw b129 b120 [c103, c106, c109, c112, c115, c118] (([c103, c106, c109, c112, c115, c118].drop (na - 1)).take (nb - (na - 1))) (na - 1) (nb - (na - 1)) 2 h129 n0 O130 CS FM rfl (by show na - 1 + (nb - (na - 1)) ≤ 6; omega) (Nat.le_refl 6) (by decide) hlat S129 f132) hZ (hw _ (List.mem_of_getElem? (i := 116) rfl)) (hw _ (List.mem_of_getElem? (i := 3) rfl)) (by decide) (by decide)) e134 (by decide) (by decide) (g := (mkF m 187 #[.val (.long pc_), .second, .val (.int pf), .val (.int pl), .val (.int pn), .val (.ref b101), .val (.ref b120), .val (.int (Int32.ofNat na)), .val (.int (Int32.ofNat nb)), .val (.ref b124), .val (.ref b129), .val (.int (Int32.ofNat (nb - (na - 1)))), .val (.int (Int32.ofNat (na - 1)))] [(.int (2 : Int32)), (.int (Int32.ofNat (nb - (na - 1)))), (.int (Int32.ofNat (na - 1))), (.ref b120), (.ref b129)])) rfl (by rw [hml]; rfl) (argsL := [(.ref b129), (.ref b120), (.int (Int32.ofNat (na - 1))), (.int (Int32.ofNat (nb - (na - 1)))), (.int (2 : Int32))]) (rest := []) (lenOf pd__28Ljava_2flang_2fString_3bLjava_2flang_2fString_3bIII_29Z rfl) rfl rfl (by show 2 * 0 + _ ≤ _; exact Nat.le_of_eq rfl) (hb hby at_187)
  obtain ⟨rfl, N135q, hq135⟩ := q135
  replace e135 := e135.trans hq135
  refine own_st st135 ?_
  have N135 := Fr.app N134 N135q
  show own_Go p e below s _ _ _ (T135.setTop (mkF m 190 #[.val (.long pc_), .second, .val (.int pf), .val (.int pl), .val (.int pn), .val (.ref b101), .val (.ref b120), .val (.int (Int32.ofNat na)), .val (.int (Int32.ofNat nb)), .val (.ref b124), .val (.ref b129), .val (.int (Int32.ofNat (nb - (na - 1)))), .val (.int (Int32.ofNat (na - 1)))] [(.int (1 : Int32))]))
  refine own_st (fun _ k => XS.ifNo X135.here hx rfl (hb hby at_190) rfl ((if0 _ _).trans (feq (by decide)).1) k) ?_
  show own_Go p e below s _ _ _ (T135.setTop (mkF m 193 #[.val (.long pc_), .second, .val (.int pf), .val (.int pl), .val (.int pn), .val (.ref b101), .val (.ref b120), .val (.int (Int32.ofNat na)), .val (.int (Int32.ofNat nb)), .val (.ref b124), .val (.ref b129), .val (.int (Int32.ofNat (nb - (na - 1)))), .val (.int (Int32.ofNat (na - 1)))] []))
  refine own_st (fun _ k => XS.aload X135.here hx rfl (hb hby at_193) rfl rfl k) ?_
  show own_Go p e below s _ _ _ (T135.setTop (mkF m 195 #[.val (.long pc_), .second, .val (.int pf), .val (.int pl), .val (.int pn), .val (.ref b101), .val (.ref b120), .val (.int (Int32.ofNat na)), .val (.int (Int32.ofNat nb)), .val (.ref b124), .val (.ref b129), .val (.int (Int32.ofNat (nb - (na - 1)))), .val (.int (Int32.ofNat (na - 1)))] [(.ref b129)]))
  refine own_st (fun _ k => XS.aload X135.here hx rfl (hb hby at_195) rfl rfl k) ?_
  show own_Go p e below s _ _ _ (T135.setTop (mkF m 197 #[.val (.long pc_), .second, .val (.int pf), .val (.int pl), .val (.int pn), .val (.ref b101), .val (.ref b120), .val (.int (Int32.ofNat na)), .val (.int (Int32.ofNat nb)), .val (.ref b124), .val (.ref b129), .val (.int (Int32.ofNat (nb - (na - 1)))), .val (.int (Int32.ofNat (na - 1)))] [(.ref b120), (.ref b129)]))
  refine own_st (fun _ k => XS.iload X135.here hx rfl (hb hby at_197) rfl k) ?_
  show own_Go p e below s _ _ _ (T135.setTop (mkF m 199 #[.val (.long pc_), .second, .val (.int pf), .val (.int pl), .val (.int pn), .val (.ref b101), .val (.ref b120), .val (.int (Int32.ofNat na)), .val (.int (Int32.ofNat nb)), .val (.ref b124), .val (.ref b129), .val (.int (Int32.ofNat (nb - (na - 1)))), .val (.int (Int32.ofNat (na - 1)))] [(.int (Int32.ofNat (na - 1))), (.ref b120), (.ref b129)]))
  refine own_st (fun _ k => XS.iload X135.here hx rfl (hb hby at_199) rfl k) ?_
  show own_Go p e below s _ _ _ (T135.setTop (mkF m 201 #[.val (.long pc_), .second, .val (.int pf), .val (.int pl), .val (.int pn), .val (.ref b101), .val (.ref b120), .val (.int (Int32.ofNat na)), .val (.int (Int32.ofNat nb)), .val (.ref b124), .val (.ref b129), .val (.int (Int32.ofNat (nb - (na - 1)))), .val (.int (Int32.ofNat (na - 1)))] [(.int (Int32.ofNat (nb - (na - 1)))), (.int (Int32.ofNat (na - 1))), (.ref b120), (.ref b129)]))
  refine own_st (fun _ k => XS.iconst X135.here hx rfl (hb hby at_201) k) ?_
  show own_Go p e below s _ _ _ (T135.setTop (mkF m 202 #[.val (.long pc_), .second, .val (.int pf), .val (.int pl), .val (.int pn), .val (.ref b101), .val (.ref b120), .val (.int (Int32.ofNat na)), .val (.int (Int32.ofNat nb)), .val (.ref b124), .val (.ref b129), .val (.int (Int32.ofNat (nb - (na - 1)))), .val (.int (Int32.ofNat (na - 1)))] [(.int (3 : Int32)), (.int (Int32.ofNat (nb - (na - 1)))), (.int (Int32.ofNat (na - 1))), (.ref b120), (.ref b129)]))
  obtain ⟨T136, v136, L136, h136, X136, e136, q136, st136⟩ := own_callS X135 hx hZ (y := (⟨"com/example/staffetta/staffetta/FieldInPinLaw", "at", "(Ljava/lang/String;Ljava/lang/String;III)Z"⟩ : MethodName)) hown (hw _ (List.mem_of_getElem? (i := 114) rfl)) (hw _ (List.mem_of_getElem? (i := 115) rfl)) (hw _ (List.mem_of_getElem? (i := 3) rfl)) (hw _ (List.mem_of_getElem? (i := 116) rfl)) (by decide) (own_bk (W := 0) (atW l Z a0 hw b129 b120 [c103, c106, c109, c112, c115, c118] (([c103, c106, c109, c112, c115, c118].drop (na - 1)).take (nb - (na - 1))) (na - 1) (nb - (na - 1)) 3 h129 n0 O130 CS FM rfl (by show na - 1 + (nb - (na - 1)) ≤ 6; omega) (Nat.le_refl 6) (by decide) hlat S129 f132) hZ (hw _ (List.mem_of_getElem? (i := 116) rfl)) (hw _ (List.mem_of_getElem? (i := 3) rfl)) (by decide) (by decide)) e135 (by decide) (by decide) (g := (mkF m 202 #[.val (.long pc_), .second, .val (.int pf), .val (.int pl), .val (.int pn), .val (.ref b101), .val (.ref b120), .val (.int (Int32.ofNat na)), .val (.int (Int32.ofNat nb)), .val (.ref b124), .val (.ref b129), .val (.int (Int32.ofNat (nb - (na - 1)))), .val (.int (Int32.ofNat (na - 1)))] [(.int (3 : Int32)), (.int (Int32.ofNat (nb - (na - 1)))), (.int (Int32.ofNat (na - 1))), (.ref b120), (.ref b129)])) rfl (by rw [hml]; rfl) (argsL := [(.ref b129), (.ref b120), (.int (Int32.ofNat (na - 1))), (.int (Int32.ofNat (nb - (na - 1)))), (.int (3 : Int32))]) (rest := []) (lenOf pd__28Ljava_2flang_2fString_3bLjava_2flang_2fString_3bIII_29Z rfl) rfl rfl (by show 2 * 0 + _ ≤ _; exact Nat.le_of_eq rfl) (hb hby at_202)
  obtain ⟨rfl, N136q, hq136⟩ := q136
  replace e136 := e136.trans hq136
  refine own_st st136 ?_
  have N136 := Fr.app N135 N136q
  show own_Go p e below s _ _ _ (T136.setTop (mkF m 205 #[.val (.long pc_), .second, .val (.int pf), .val (.int pl), .val (.int pn), .val (.ref b101), .val (.ref b120), .val (.int (Int32.ofNat na)), .val (.int (Int32.ofNat nb)), .val (.ref b124), .val (.ref b129), .val (.int (Int32.ofNat (nb - (na - 1)))), .val (.int (Int32.ofNat (na - 1)))] [(.int (1 : Int32))]))
  refine own_st (fun _ k => XS.ifNo X136.here hx rfl (hb hby at_205) rfl ((if0 _ _).trans (feq (by decide)).1) k) ?_
  show own_Go p e below s _ _ _ (T136.setTop (mkF m 208 #[.val (.long pc_), .second, .val (.int pf), .val (.int pl), .val (.int pn), .val (.ref b101), .val (.ref b120), .val (.int (Int32.ofNat na)), .val (.int (Int32.ofNat nb)), .val (.ref b124), .val (.ref b129), .val (.int (Int32.ofNat (nb - (na - 1)))), .val (.int (Int32.ofNat (na - 1)))] []))
  refine own_st (fun _ k => XS.aload X136.here hx rfl (hb hby at_208) rfl rfl k) ?_
  show own_Go p e below s _ _ _ (T136.setTop (mkF m 210 #[.val (.long pc_), .second, .val (.int pf), .val (.int pl), .val (.int pn), .val (.ref b101), .val (.ref b120), .val (.int (Int32.ofNat na)), .val (.int (Int32.ofNat nb)), .val (.ref b124), .val (.ref b129), .val (.int (Int32.ofNat (nb - (na - 1)))), .val (.int (Int32.ofNat (na - 1)))] [(.ref b129)]))
  refine own_st (fun _ k => XS.aload X136.here hx rfl (hb hby at_210) rfl rfl k) ?_
  show own_Go p e below s _ _ _ (T136.setTop (mkF m 212 #[.val (.long pc_), .second, .val (.int pf), .val (.int pl), .val (.int pn), .val (.ref b101), .val (.ref b120), .val (.int (Int32.ofNat na)), .val (.int (Int32.ofNat nb)), .val (.ref b124), .val (.ref b129), .val (.int (Int32.ofNat (nb - (na - 1)))), .val (.int (Int32.ofNat (na - 1)))] [(.ref b120), (.ref b129)]))
  refine own_st (fun _ k => XS.iload X136.here hx rfl (hb hby at_212) rfl k) ?_
  show own_Go p e below s _ _ _ (T136.setTop (mkF m 214 #[.val (.long pc_), .second, .val (.int pf), .val (.int pl), .val (.int pn), .val (.ref b101), .val (.ref b120), .val (.int (Int32.ofNat na)), .val (.int (Int32.ofNat nb)), .val (.ref b124), .val (.ref b129), .val (.int (Int32.ofNat (nb - (na - 1)))), .val (.int (Int32.ofNat (na - 1)))] [(.int (Int32.ofNat (na - 1))), (.ref b120), (.ref b129)]))
  refine own_st (fun _ k => XS.iload X136.here hx rfl (hb hby at_214) rfl k) ?_
  show own_Go p e below s _ _ _ (T136.setTop (mkF m 216 #[.val (.long pc_), .second, .val (.int pf), .val (.int pl), .val (.int pn), .val (.ref b101), .val (.ref b120), .val (.int (Int32.ofNat na)), .val (.int (Int32.ofNat nb)), .val (.ref b124), .val (.ref b129), .val (.int (Int32.ofNat (nb - (na - 1)))), .val (.int (Int32.ofNat (na - 1)))] [(.int (Int32.ofNat (nb - (na - 1)))), (.int (Int32.ofNat (na - 1))), (.ref b120), (.ref b129)]))
  refine own_st (fun _ k => XS.iconst X136.here hx rfl (hb hby at_216) k) ?_
  show own_Go p e below s _ _ _ (T136.setTop (mkF m 217 #[.val (.long pc_), .second, .val (.int pf), .val (.int pl), .val (.int pn), .val (.ref b101), .val (.ref b120), .val (.int (Int32.ofNat na)), .val (.int (Int32.ofNat nb)), .val (.ref b124), .val (.ref b129), .val (.int (Int32.ofNat (nb - (na - 1)))), .val (.int (Int32.ofNat (na - 1)))] [(.int (4 : Int32)), (.int (Int32.ofNat (nb - (na - 1)))), (.int (Int32.ofNat (na - 1))), (.ref b120), (.ref b129)]))
  obtain ⟨T137, v137, L137, h137, X137, e137, q137, st137⟩ := own_callS X136 hx hZ (y := (⟨"com/example/staffetta/staffetta/FieldInPinLaw", "at", "(Ljava/lang/String;Ljava/lang/String;III)Z"⟩ : MethodName)) hown (hw _ (List.mem_of_getElem? (i := 114) rfl)) (hw _ (List.mem_of_getElem? (i := 115) rfl)) (hw _ (List.mem_of_getElem? (i := 3) rfl)) (hw _ (List.mem_of_getElem? (i := 116) rfl)) (by decide) (own_bk (W := 0) (atW l Z a0 hw b129 b120 [c103, c106, c109, c112, c115, c118] (([c103, c106, c109, c112, c115, c118].drop (na - 1)).take (nb - (na - 1))) (na - 1) (nb - (na - 1)) 4 h129 n0 O130 CS FM rfl (by show na - 1 + (nb - (na - 1)) ≤ 6; omega) (Nat.le_refl 6) (by decide) hlat S129 f132) hZ (hw _ (List.mem_of_getElem? (i := 116) rfl)) (hw _ (List.mem_of_getElem? (i := 3) rfl)) (by decide) (by decide)) e136 (by decide) (by decide) (g := (mkF m 217 #[.val (.long pc_), .second, .val (.int pf), .val (.int pl), .val (.int pn), .val (.ref b101), .val (.ref b120), .val (.int (Int32.ofNat na)), .val (.int (Int32.ofNat nb)), .val (.ref b124), .val (.ref b129), .val (.int (Int32.ofNat (nb - (na - 1)))), .val (.int (Int32.ofNat (na - 1)))] [(.int (4 : Int32)), (.int (Int32.ofNat (nb - (na - 1)))), (.int (Int32.ofNat (na - 1))), (.ref b120), (.ref b129)])) rfl (by rw [hml]; rfl) (argsL := [(.ref b129), (.ref b120), (.int (Int32.ofNat (na - 1))), (.int (Int32.ofNat (nb - (na - 1)))), (.int (4 : Int32))]) (rest := []) (lenOf pd__28Ljava_2flang_2fString_3bLjava_2flang_2fString_3bIII_29Z rfl) rfl rfl (by show 2 * 0 + _ ≤ _; exact Nat.le_of_eq rfl) (hb hby at_217)
  obtain ⟨rfl, N137q, hq137⟩ := q137
  replace e137 := e137.trans hq137
  refine own_st st137 ?_
  have N137 := Fr.app N136 N137q
  show own_Go p e below s _ _ _ (T137.setTop (mkF m 220 #[.val (.long pc_), .second, .val (.int pf), .val (.int pl), .val (.int pn), .val (.ref b101), .val (.ref b120), .val (.int (Int32.ofNat na)), .val (.int (Int32.ofNat nb)), .val (.ref b124), .val (.ref b129), .val (.int (Int32.ofNat (nb - (na - 1)))), .val (.int (Int32.ofNat (na - 1)))] [(.int (1 : Int32))]))
  refine own_st (fun _ k => XS.ifNo X137.here hx rfl (hb hby at_220) rfl ((if0 _ _).trans (feq (by decide)).1) k) ?_
  show own_Go p e below s _ _ _ (T137.setTop (mkF m 223 #[.val (.long pc_), .second, .val (.int pf), .val (.int pl), .val (.int pn), .val (.ref b101), .val (.ref b120), .val (.int (Int32.ofNat na)), .val (.int (Int32.ofNat nb)), .val (.ref b124), .val (.ref b129), .val (.int (Int32.ofNat (nb - (na - 1)))), .val (.int (Int32.ofNat (na - 1)))] []))
  refine own_st (fun _ k => XS.aload X137.here hx rfl (hb hby at_223) rfl rfl k) ?_
  show own_Go p e below s _ _ _ (T137.setTop (mkF m 225 #[.val (.long pc_), .second, .val (.int pf), .val (.int pl), .val (.int pn), .val (.ref b101), .val (.ref b120), .val (.int (Int32.ofNat na)), .val (.int (Int32.ofNat nb)), .val (.ref b124), .val (.ref b129), .val (.int (Int32.ofNat (nb - (na - 1)))), .val (.int (Int32.ofNat (na - 1)))] [(.ref b129)]))
  refine own_st (fun _ k => XS.aload X137.here hx rfl (hb hby at_225) rfl rfl k) ?_
  show own_Go p e below s _ _ _ (T137.setTop (mkF m 227 #[.val (.long pc_), .second, .val (.int pf), .val (.int pl), .val (.int pn), .val (.ref b101), .val (.ref b120), .val (.int (Int32.ofNat na)), .val (.int (Int32.ofNat nb)), .val (.ref b124), .val (.ref b129), .val (.int (Int32.ofNat (nb - (na - 1)))), .val (.int (Int32.ofNat (na - 1)))] [(.ref b120), (.ref b129)]))
  refine own_st (fun _ k => XS.iload X137.here hx rfl (hb hby at_227) rfl k) ?_
  show own_Go p e below s _ _ _ (T137.setTop (mkF m 229 #[.val (.long pc_), .second, .val (.int pf), .val (.int pl), .val (.int pn), .val (.ref b101), .val (.ref b120), .val (.int (Int32.ofNat na)), .val (.int (Int32.ofNat nb)), .val (.ref b124), .val (.ref b129), .val (.int (Int32.ofNat (nb - (na - 1)))), .val (.int (Int32.ofNat (na - 1)))] [(.int (Int32.ofNat (na - 1))), (.ref b120), (.ref b129)]))
  refine own_st (fun _ k => XS.iload X137.here hx rfl (hb hby at_229) rfl k) ?_
  show own_Go p e below s _ _ _ (T137.setTop (mkF m 231 #[.val (.long pc_), .second, .val (.int pf), .val (.int pl), .val (.int pn), .val (.ref b101), .val (.ref b120), .val (.int (Int32.ofNat na)), .val (.int (Int32.ofNat nb)), .val (.ref b124), .val (.ref b129), .val (.int (Int32.ofNat (nb - (na - 1)))), .val (.int (Int32.ofNat (na - 1)))] [(.int (Int32.ofNat (nb - (na - 1)))), (.int (Int32.ofNat (na - 1))), (.ref b120), (.ref b129)]))
  refine own_st (fun _ k => XS.iconst X137.here hx rfl (hb hby at_231) k) ?_
  show own_Go p e below s _ _ _ (T137.setTop (mkF m 232 #[.val (.long pc_), .second, .val (.int pf), .val (.int pl), .val (.int pn), .val (.ref b101), .val (.ref b120), .val (.int (Int32.ofNat na)), .val (.int (Int32.ofNat nb)), .val (.ref b124), .val (.ref b129), .val (.int (Int32.ofNat (nb - (na - 1)))), .val (.int (Int32.ofNat (na - 1)))] [(.int (5 : Int32)), (.int (Int32.ofNat (nb - (na - 1)))), (.int (Int32.ofNat (na - 1))), (.ref b120), (.ref b129)]))
  obtain ⟨T138, v138, L138, h138, X138, e138, q138, st138⟩ := own_callS X137 hx hZ (y := (⟨"com/example/staffetta/staffetta/FieldInPinLaw", "at", "(Ljava/lang/String;Ljava/lang/String;III)Z"⟩ : MethodName)) hown (hw _ (List.mem_of_getElem? (i := 114) rfl)) (hw _ (List.mem_of_getElem? (i := 115) rfl)) (hw _ (List.mem_of_getElem? (i := 3) rfl)) (hw _ (List.mem_of_getElem? (i := 116) rfl)) (by decide) (own_bk (W := 0) (atW l Z a0 hw b129 b120 [c103, c106, c109, c112, c115, c118] (([c103, c106, c109, c112, c115, c118].drop (na - 1)).take (nb - (na - 1))) (na - 1) (nb - (na - 1)) 5 h129 n0 O130 CS FM rfl (by show na - 1 + (nb - (na - 1)) ≤ 6; omega) (Nat.le_refl 6) (by decide) hlat S129 f132) hZ (hw _ (List.mem_of_getElem? (i := 116) rfl)) (hw _ (List.mem_of_getElem? (i := 3) rfl)) (by decide) (by decide)) e137 (by decide) (by decide) (g := (mkF m 232 #[.val (.long pc_), .second, .val (.int pf), .val (.int pl), .val (.int pn), .val (.ref b101), .val (.ref b120), .val (.int (Int32.ofNat na)), .val (.int (Int32.ofNat nb)), .val (.ref b124), .val (.ref b129), .val (.int (Int32.ofNat (nb - (na - 1)))), .val (.int (Int32.ofNat (na - 1)))] [(.int (5 : Int32)), (.int (Int32.ofNat (nb - (na - 1)))), (.int (Int32.ofNat (na - 1))), (.ref b120), (.ref b129)])) rfl (by rw [hml]; rfl) (argsL := [(.ref b129), (.ref b120), (.int (Int32.ofNat (na - 1))), (.int (Int32.ofNat (nb - (na - 1)))), (.int (5 : Int32))]) (rest := []) (lenOf pd__28Ljava_2flang_2fString_3bLjava_2flang_2fString_3bIII_29Z rfl) rfl rfl (by show 2 * 0 + _ ≤ _; exact Nat.le_of_eq rfl) (hb hby at_232)
  obtain ⟨rfl, N138q, hq138⟩ := q138
  replace e138 := e138.trans hq138
  refine own_st st138 ?_
  have N138 := Fr.app N137 N138q
  show own_Go p e below s _ _ _ (T138.setTop (mkF m 235 #[.val (.long pc_), .second, .val (.int pf), .val (.int pl), .val (.int pn), .val (.ref b101), .val (.ref b120), .val (.int (Int32.ofNat na)), .val (.int (Int32.ofNat nb)), .val (.ref b124), .val (.ref b129), .val (.int (Int32.ofNat (nb - (na - 1)))), .val (.int (Int32.ofNat (na - 1)))] [(.int (1 : Int32))]))
  refine own_st (fun _ k => XS.ifNo X138.here hx rfl (hb hby at_235) rfl ((if0 _ _).trans (feq (by decide)).1) k) ?_
  show own_Go p e below s _ _ _ (T138.setTop (mkF m 238 #[.val (.long pc_), .second, .val (.int pf), .val (.int pl), .val (.int pn), .val (.ref b101), .val (.ref b120), .val (.int (Int32.ofNat na)), .val (.int (Int32.ofNat nb)), .val (.ref b124), .val (.ref b129), .val (.int (Int32.ofNat (nb - (na - 1)))), .val (.int (Int32.ofNat (na - 1)))] []))
  refine own_st (fun _ k => XS.iconst X138.here hx rfl (hb hby at_238) k) ?_
  show own_Go p e below s _ _ _ (T138.setTop (mkF m 239 #[.val (.long pc_), .second, .val (.int pf), .val (.int pl), .val (.int pn), .val (.ref b101), .val (.ref b120), .val (.int (Int32.ofNat na)), .val (.int (Int32.ofNat nb)), .val (.ref b124), .val (.ref b129), .val (.int (Int32.ofNat (nb - (na - 1)))), .val (.int (Int32.ofNat (na - 1)))] [(.int (1 : Int32))]))
  refine own_st (fun _ k => XS.goto X138.here hx rfl (pc0 := 239) (pc' := 243) rfl (hb hby at_239) (by decide) (by decide) k) ?_
  show own_Go p e below s _ _ _ (T138.setTop (mkF m 243 #[.val (.long pc_), .second, .val (.int pf), .val (.int pl), .val (.int pn), .val (.ref b101), .val (.ref b120), .val (.int (Int32.ofNat na)), .val (.int (Int32.ofNat nb)), .val (.ref b124), .val (.ref b129), .val (.int (Int32.ofNat (nb - (na - 1)))), .val (.int (Int32.ofNat (na - 1)))] [(.int (1 : Int32))]))
  exact own_ret X138 hx hlk e138 hret (by decide) (Or.inl ⟨rfl, Or.inr (Or.inl rfl), _, rfl⟩) (hb hby at_243) (by decide) (by decide) ⟨rfl, N138⟩
set_option maxRecDepth 65536 in
set_option maxHeartbeats 40000000 in
theorem comes_1 {Post : Tables → Env → Array Value → State → Outcome → State → Prop} (hpost : ∀ tb e args s v u, (limb_1_1.after args s (.returned v) u = true ∧ limb_1_2.after args s (.returned v) u = true ∧ True) → FrameEnd s (.returned v) u (Jvm.fieldLocs frame_1_writes args s ++ Jvm.arrayLocs frame_1_arrays args s ++ Jvm.staticLocs frame_1_statics s) 24 128 → Post tb e args s (.returned v) u) :
    ArmFor flags0 classFile x code maxLocals ret World_1 tables_1 room_1 Calls_1 rest_1 Pre_1 Post := by
  intro l hfl _ _ p e ha hc hk s m args below hf hA hF happ hP
  obtain ⟨hcalls, hrest, hpre⟩ := hP
  obtain ⟨-, -, -, hnamed, -, -, -, hat⟩ := (Spec.applies_iff hf).mp happ
  obtain ⟨hg, hn⟩ := and_e (Cond.before_iff.mp (show (Jvm.Cond.and given_1 narrow_1).before args s = true from hpre))
  obtain ⟨g2, g3⟩ := and_e hg
  obtain ⟨g4, g5⟩ := and_e g3
  obtain ⟨g6, g7⟩ := and_e g5
  obtain ⟨g8, g9⟩ := and_e g7
  obtain ⟨w0, w1, w2, w3, rfl⟩ : ∃ w0 w1 w2 w3 : Value, args = #[w0, w1, w2, w3] := by
    have hs : args.size = 4 := by simpa [Cond.value, given_1] using g2
    obtain ⟨L⟩ := args
    match L, hs with
    | [w0, w1, w2, w3], _ => exact ⟨w0, w1, w2, w3, rfl⟩
  have hw := fun d (hd : d ∈ tables_1) => atoms_spec (ws := Jvm.Cond.code x code maxLocals ret :: tables_1) hat d (List.mem_cons_of_mem _ hd)
  have hfit : Fit s := fun {y c} hc i hi => by
    obtain ⟨ha, rfl⟩ := Array.getElem?_eq_some_iff.mp hc
    have q := List.all_eq_true.mp ((Array.all_eq_true_iff_forall_mem.mp hF) _ (Array.getElem_mem ha)) i (List.mem_range.mpr hi)
    simpa [Array.getElem?_eq_getElem hi] using q
  obtain ⟨hsets, hown0⟩ := atoms_of _ (rest_1_c_eq ▸ (show rest_1_c.before _ s = true from hrest))
  have hr0 := Cond.before_iff.mp hown0
  obtain ⟨i0, ei0⟩ := isL_v g4
  obtain rfl : w0 = (.long i0) := Option.some.inj ei0
  obtain ⟨i1, ei1⟩ := is_v g6
  obtain rfl : w1 = (.int i1) := Option.some.inj ei1
  obtain ⟨i2, ei2⟩ := is_v g8
  obtain rfl : w2 = (.int i2) := Option.some.inj ei2
  obtain ⟨i3, ei3⟩ := is_v g9
  obtain rfl : w3 = (.int i3) := Option.some.inj ei3
  have n5 := not_v (Cond.before_iff.mp (hsets _ (List.mem_of_getElem? (i := 2) rfl)))
  obtain ⟨zc, ezc⟩ := is_v (Cond.before_iff.mp (hsets _ (List.mem_of_getElem? (i := 1) rfl)))
  have CS : own_CS s := ⟨zc, Sta.start ezc (Or.inl (hsets _ (List.mem_of_getElem? (i := 0) rfl))), gotF (Cond.eq_ints ezc (Term.int_eval (0))) n5⟩
  obtain ⟨fmv, efm, rfm⟩ := isR_v (Cond.before_iff.mp (hsets _ (List.mem_of_getElem? (i := 8) rfl)))
  have FM : own_FM s := ⟨fmv, Sta.start efm (Or.inl (hsets _ (List.mem_of_getElem? (i := 7) rfl))), rfm⟩
  obtain ⟨n, o, h1, h2, h3, _, L, rfl, ⟨rfl, N⟩, hq⟩ := lawW l s _ hw tables_1 i0 i1 i2 i3 s.heap s.heap.size (Old.start s) CS FM p e ha hc hk s m _ below hf ((Spec.applies_iff_loose hf).mp happ).1 ⟨rfl, State.Warmed39.refl s, rfl⟩ trivial
  refine ⟨n, _, h1, h2, h3, hpost _ _ _ _ _ _ ⟨Cond.after_iff.mpr rfl, Cond.after_iff.mpr (eq_i res_at (Term.int_eval (1)) rfl), trivial⟩ ⟨hq.1, hq.2.1, (hq.2.2.sift fun y hy => Or.inr (N y hy)).mono (by decide) (by decide)⟩⟩
theorem main_1_1 : Claimed_1_1 := comes_1 fun _ _ _ _ _ _ h hF => ⟨h.1, hF⟩
theorem main_1_2 : Claimed_1_2 := comes_1 fun _ _ _ _ _ _ h hF => ⟨h.2.1, hF⟩
end Jvm.Pilot.@@N@@
namespace Jvm.Pilot.@@N@@
open Jvm Jvm.ClassFile Sem Op Lib Jvm.Free Jvm.Stand Jvm.Pilot.@@N@@.Jvm.D
/-! MADE BY PROGRAM (witnessworld.py) out of the Statement's table words and the real class files: 24 classes; the members and pool entries that the words name. The judged class is class 1, her method 3. -/
namespace start1
open Jvm.ClassFile
def u (s : String) : CpInfo := .utf8 (stringToUtf16 s)
/-- a pool by its gaps: so many unusable entries, then the entry; so many at the end -/
def gap : Nat → List CpInfo → List CpInfo
  | 0, r => r
  | n + 1, r => .unusable :: gap n r
def poolList (es : List (Nat × CpInfo)) (last : Nat) : List CpInfo := es.foldr (fun e r => gap e.1 (e.2 :: r)) (gap last [])
def pool (es : List (Nat × CpInfo)) (last : Nat) : Array CpInfo := ⟨poolList es last⟩
def fileOf (pool : Array CpInfo) (this : Nat) (attrs : Array Attribute := #[]) (ms : Array MethodInfo := #[]) (fl : Nat := 33) (sup : Nat := 0) (ifs : Array Nat := #[]) (fds : Array FieldInfo := #[]) : ClassFile where
  minorVersion := 0
  majorVersion := 65
  constantPool := pool
  accessFlags := fl
  thisClass := this
  superClass := sup
  interfaces := ifs
  fields := fds
  methods := ms
  attributes := attrs
def plain (name : String) (sup : Option ClassId) : Class where
  name := name
  kind := .ordinary
  loader := none
  accessFlags := 33
  super := sup
  interfaces := #[]
  cf := none
  fields := #[]
  methods := #[]
  instanceTypes := #[]
  staticTypes := #[]
  resolved := #[]
  callSites := []
  init := .initialized
  statics := none
  mirror := none

def pool0 : Array CpInfo := pool [(5, u "<init>"), (0, u "()V"), (1, .class_ 10), (1, u "java/lang/Object")] 113

def k0c0 : Code := { maxStack := 0, maxLocals := 1, code := object_method_1_code, exceptionTable := #[], attributes := #[] }
def k0m0 : Method := { name := "<init>", desc := "()V", sig := { parameters := [], returnType := none }, accessFlags := 1, code := some k0c0 }
/-- java/lang/Object -/
def k0 : Class := { plain "java/lang/Object" none with
  accessFlags := 33
  interfaces := #[]
  cf := some (fileOf pool0 8 #[] #[{ accessFlags := 1, nameIndex := 5, descriptorIndex := 6, attributes := #[] }] 33 0 #[] #[])
  fields := #[]
  methods := #[k0m0]
  instanceTypes := #[]
  staticTypes := #[]
  resolved := Array.replicate 124 none
  statics := none }

def pool1 : Array CpInfo := pool [(2, .class_ 4), (1, u "java/lang/Object"), (0, u "<init>"), (0, u "()V"), (0, .long 255), (1, .methodref 10 11), (0, .class_ 12), (0, .nameAndType 13 14), (0, u "java/lang/String"), (0, u "charAt"), (0, u "(I)C"), (0, .methodref 16 17), (0, .class_ 18), (0, .nameAndType 19 20), (0, u "com/example/staffetta/staffetta/FieldInPinLaw"), (0, u "ch"), (0, u "(JI)C"), (0, .methodref 10 22), (0, .nameAndType 5 23), (0, u "([C)V"), (0, .integer 2147483647), (0, .class_ 26), (0, u "com/example/staffetta/staffetta/ArchiveLayout$Field"), (0, .methodref 25 28), (0, .nameAndType 5 29), (0, u "(III)V"), (0, .methodref 25 31), (0, .nameAndType 32 33), (0, u "in"), (0, u "(Ljava/lang/String;)Ljava/lang/String;"), (0, .methodref 10 35), (0, .nameAndType 36 37), (0, u "length"), (0, u "()I"), (0, .methodref 16 39), (0, .nameAndType 40 41), (0, u "at"), (0, u "(Ljava/lang/String;Ljava/lang/String;III)Z"), (3, u "law"), (0, u "(JIII)Z")] 8

def k1m0 : Method := { name := "<init>", desc := "()V", sig := { parameters := [], returnType := none }, accessFlags := 1, code := none }
def k1c1 : Code := { maxStack := 4, maxLocals := 3, code := method_2_code, exceptionTable := #[], attributes := #[] }
def k1m1 : Method := { name := "ch", desc := "(JI)C", sig := { parameters := [.long, .int], returnType := some .char }, accessFlags := 10, code := some k1c1 }
def k1c2 : Code := { maxStack := 4, maxLocals := 5, code := method_3_code, exceptionTable := #[], attributes := #[] }
def k1m2 : Method := { name := "at", desc := "(Ljava/lang/String;Ljava/lang/String;III)Z", sig := { parameters := [(.object "java/lang/String"), (.object "java/lang/String"), .int, .int, .int], returnType := some .boolean }, accessFlags := 10, code := some k1c2 }
def k1c3 : Code := { maxStack := 5, maxLocals := 13, code := code, exceptionTable := #[], attributes := #[] }
def k1m3 : Method := { name := "law", desc := "(JIII)Z", sig := { parameters := [.long, .int, .int, .int], returnType := some .boolean }, accessFlags := 9, code := some k1c3 }
/-- com/example/staffetta/staffetta/FieldInPinLaw -/
def k1 : Class := { plain "com/example/staffetta/staffetta/FieldInPinLaw" (some 0) with
  accessFlags := 49
  interfaces := #[]
  cf := some (fileOf pool1 16 #[] #[{ accessFlags := 1, nameIndex := 5, descriptorIndex := 6, attributes := #[] }, { accessFlags := 10, nameIndex := 19, descriptorIndex := 20, attributes := #[] }, { accessFlags := 10, nameIndex := 40, descriptorIndex := 41, attributes := #[] }, { accessFlags := 9, nameIndex := 45, descriptorIndex := 46, attributes := #[] }] 49 2 #[] #[])
  fields := #[]
  methods := #[k1m0, k1m1, k1m2, k1m3]
  instanceTypes := #[]
  staticTypes := #[]
  resolved := Array.replicate 55 none
  statics := none }

def pool2 : Array CpInfo := pool [(1, .class_ 2), (0, u "java/io/Serializable"), (0, .class_ 4), (0, u "java/lang/Object")] 2

/-- java/io/Serializable -/
def k2 : Class := { plain "java/io/Serializable" (some 0) with
  accessFlags := 1537
  interfaces := #[]
  cf := some (fileOf pool2 1 #[] #[] 1537 3 #[] #[])
  fields := #[]
  methods := #[]
  instanceTypes := #[]
  staticTypes := #[]
  resolved := Array.replicate 7 none
  statics := none }

def pool3 : Array CpInfo := pool [(1, .class_ 2), (0, u "java/lang/Comparable"), (0, .class_ 4), (0, u "java/lang/Object")] 7

/-- java/lang/Comparable -/
def k3 : Class := { plain "java/lang/Comparable" (some 0) with
  accessFlags := 1537
  interfaces := #[]
  cf := some (fileOf pool3 1 #[] #[] 1537 3 #[] #[])
  fields := #[]
  methods := #[]
  instanceTypes := #[]
  staticTypes := #[]
  resolved := Array.replicate 12 none
  statics := none }

def pool4 : Array CpInfo := pool [(2, .class_ 4), (1, u "java/lang/CharSequence"), (42, .class_ 48), (0, u "java/lang/CharSequence$1CodePointIterator"), (10, .class_ 60), (0, u "java/lang/CharSequence$1CharIterator"), (5, .class_ 67), (0, u "java/lang/Object")] 63

/-- java/lang/CharSequence -/
def k4 : Class := { plain "java/lang/CharSequence" (some 0) with
  accessFlags := 1537
  interfaces := #[]
  cf := some (fileOf pool4 2 #[.nestMembers #[47, 59]] #[] 1537 66 #[] #[])
  fields := #[]
  methods := #[]
  instanceTypes := #[]
  staticTypes := #[]
  resolved := Array.replicate 131 none
  statics := none }

def pool5 : Array CpInfo := pool [(1, .class_ 2), (0, u "java/lang/constant/Constable"), (0, .class_ 4), (0, u "java/lang/Object")] 6

/-- java/lang/constant/Constable -/
def k5 : Class := { plain "java/lang/constant/Constable" (some 0) with
  accessFlags := 1537
  interfaces := #[]
  cf := some (fileOf pool5 1 #[] #[] 1537 3 #[] #[])
  fields := #[]
  methods := #[]
  instanceTypes := #[]
  staticTypes := #[]
  resolved := Array.replicate 11 none
  statics := none }

def pool6 : Array CpInfo := pool [(1, .class_ 2), (0, u "java/lang/constant/ConstantDesc"), (0, .class_ 4), (0, u "java/lang/Object")] 32

/-- java/lang/constant/ConstantDesc -/
def k6 : Class := { plain "java/lang/constant/ConstantDesc" (some 0) with
  accessFlags := 1537
  interfaces := #[]
  cf := some (fileOf pool6 1 #[] #[] 1537 3 #[] #[])
  fields := #[]
  methods := #[]
  instanceTypes := #[]
  staticTypes := #[]
  resolved := Array.replicate 37 none
  statics := none }

def pool7 : Array CpInfo := pool [(1, .methodref 2 3), (0, .class_ 4), (0, .nameAndType 5 6), (0, u "java/lang/Object"), (0, u "<init>"), (0, u "()V"), (2, .fieldref 10 11), (0, .class_ 12), (0, .nameAndType 13 14), (0, u "java/lang/String"), (0, u "value"), (0, u "[B"), (0, .fieldref 10 16), (0, .nameAndType 17 18), (0, u "coder"), (0, u "B"), (2, u "hash"), (0, u "I"), (2, u "hashIsZero"), (0, u "Z"), (0, .methodref 10 28), (0, .nameAndType 5 29), (0, u "([CIILjava/lang/Void;)V"), (8, .fieldref 10 39), (0, .nameAndType 40 26), (0, u "COMPACT_STRINGS"), (1, .class_ 44), (1, u "java/lang/StringUTF16"), (0, u "compress"), (1, .methodref 42 48), (0, .nameAndType 49 50), (0, u "coderFromArrayLen"), (0, u "([BI)B"), (56, .class_ 109), (1, u "java/lang/StringLatin1"), (32, u "()Z"), (34, .methodref 42 178), (0, .nameAndType 45 179), (0, u "([CII)[B"), (31, u "([BB)V"), (122, u "()I"), (0, .methodref 10 336), (0, .nameAndType 17 337), (0, u "()B"), (25, u "([BI)C"), (27, u "(II)V"), (35, u "(I)C"), (64, .methodref 10 493), (0, .nameAndType 494 142), (0, u "isLatin1"), (0, .methodref 107 496), (0, .nameAndType 497 363), (0, u "charAt"), (3, u "checkIndex"), (3, .methodref 10 506), (0, .nameAndType 507 334), (0, u "length"), (5, u "checkFromToIndex"), (7, .methodref 10 522), (0, .nameAndType 523 524), (0, u "checkBoundsBeginEnd"), (0, u "(III)V"), (50, .class_ 576), (0, u "java/lang/CharSequence"), (22, u "CASE_INSENSITIVE_ORDER"), (0, u "Ljava/util/Comparator;"), (82, u "substring"), (0, u "(II)Ljava/lang/String;"), (0, .methodref 107 686), (0, .nameAndType 687 688), (0, u "newString"), (0, u "([BII)Ljava/lang/String;"), (321, u "([C)V"), (42, .fieldref 1054 1055), (0, .class_ 1056), (0, .nameAndType 1057 1058), (0, u "jdk/internal/util/Preconditions"), (0, u "SIOOBE_FORMATTER"), (0, u "Ljava/util/function/BiFunction;"), (0, .methodref 1054 1060), (0, .nameAndType 501 1061), (0, u "(IILjava/util/function/BiFunction;)I"), (0, .methodref 1054 1063), (0, .nameAndType 513 1064), (0, u "(IIILjava/util/function/BiFunction;)I"), (36, u "serialPersistentFields"), (0, u "[Ljava/io/ObjectStreamField;"), (0, .class_ 1104), (0, u "java/lang/String$CaseInsensitiveComparator"), (1, .class_ 1107), (0, u "java/io/Serializable"), (0, .class_ 1109), (0, u "java/lang/Comparable"), (0, .class_ 1111), (0, u "java/lang/constant/Constable"), (0, .class_ 1113), (0, u "java/lang/constant/ConstantDesc"), (2, u "serialVersionUID"), (0, u "J"), (3, u "REPL"), (0, u "C"), (2, u "LATIN1"), (1, u "UTF16")] 323

def k7m0 : Method := { name := "<init>", desc := "()V", sig := { parameters := [], returnType := none }, accessFlags := 1, code := none }
def k7c1 : Code := { maxStack := 5, maxLocals := 2, code := jdk_42_method_3_code, exceptionTable := #[], attributes := #[] }
def k7m1 : Method := { name := "<init>", desc := "([C)V", sig := { parameters := [(.array .char)], returnType := none }, accessFlags := 1, code := some k7c1 }
def k7c2 : Code := { maxStack := 2, maxLocals := 1, code := jdk_42_method_54_code, exceptionTable := #[], attributes := #[] }
def k7m2 : Method := { name := "length", desc := "()I", sig := { parameters := [], returnType := some .int }, accessFlags := 1, code := some k7c2 }
def k7c3 : Code := { maxStack := 2, maxLocals := 2, code := jdk_42_method_56_code, exceptionTable := #[], attributes := #[] }
def k7m3 : Method := { name := "charAt", desc := "(I)C", sig := { parameters := [.int], returnType := some .char }, accessFlags := 1, code := some k7c3 }
def k7c4 : Code := { maxStack := 3, maxLocals := 5, code := jdk_42_method_92_code, exceptionTable := #[], attributes := #[] }
def k7m4 : Method := { name := "substring", desc := "(II)Ljava/lang/String;", sig := { parameters := [.int, .int], returnType := some (.object "java/lang/String") }, accessFlags := 1, code := some k7c4 }
def k7c5 : Code := { maxStack := 4, maxLocals := 6, code := jdk_42_method_149_code, exceptionTable := #[], attributes := #[] }
def k7m5 : Method := { name := "<init>", desc := "([CIILjava/lang/Void;)V", sig := { parameters := [(.array .char), .int, .int, (.object "java/lang/Void")], returnType := none }, accessFlags := 2, code := some k7c5 }
def k7c6 : Code := { maxStack := 2, maxLocals := 3, code := jdk_42_method_151_code, exceptionTable := #[], attributes := #[] }
def k7m6 : Method := { name := "<init>", desc := "([BB)V", sig := { parameters := [(.array .byte), .byte], returnType := none }, accessFlags := 0, code := some k7c6 }
def k7c7 : Code := { maxStack := 1, maxLocals := 1, code := jdk_42_method_152_code, exceptionTable := #[], attributes := #[] }
def k7m7 : Method := { name := "coder", desc := "()B", sig := { parameters := [], returnType := some .byte }, accessFlags := 0, code := some k7c7 }
def k7c8 : Code := { maxStack := 1, maxLocals := 1, code := jdk_42_method_154_code, exceptionTable := #[], attributes := #[] }
def k7m8 : Method := { name := "isLatin1", desc := "()Z", sig := { parameters := [], returnType := some .boolean }, accessFlags := 0, code := some k7c8 }
def k7c9 : Code := { maxStack := 3, maxLocals := 2, code := jdk_42_method_155_code, exceptionTable := #[], attributes := #[] }
def k7m9 : Method := { name := "checkIndex", desc := "(II)V", sig := { parameters := [.int, .int], returnType := none }, accessFlags := 8, code := some k7c9 }
def k7c10 : Code := { maxStack := 4, maxLocals := 3, code := jdk_42_method_158_code, exceptionTable := #[], attributes := #[] }
def k7m10 : Method := { name := "checkBoundsBeginEnd", desc := "(III)V", sig := { parameters := [.int, .int, .int], returnType := none }, accessFlags := 8, code := some k7c10 }
/-- java/lang/String -/
def k7 : Class := { plain "java/lang/String" (some 0) with
  accessFlags := 49
  interfaces := #[2, 3, 4, 5, 6]
  cf := some (fileOf pool7 10 #[.nestMembers #[1103]] #[{ accessFlags := 1, nameIndex := 5, descriptorIndex := 6, attributes := #[] }, { accessFlags := 1, nameIndex := 5, descriptorIndex := 1010, attributes := #[] }, { accessFlags := 1, nameIndex := 507, descriptorIndex := 334, attributes := #[] }, { accessFlags := 1, nameIndex := 497, descriptorIndex := 427, attributes := #[] }, { accessFlags := 1, nameIndex := 683, descriptorIndex := 684, attributes := #[] }, { accessFlags := 2, nameIndex := 5, descriptorIndex := 29, attributes := #[] }, { accessFlags := 0, nameIndex := 5, descriptorIndex := 211, attributes := #[] }, { accessFlags := 0, nameIndex := 17, descriptorIndex := 337, attributes := #[] }, { accessFlags := 0, nameIndex := 494, descriptorIndex := 142, attributes := #[] }, { accessFlags := 8, nameIndex := 501, descriptorIndex := 391, attributes := #[] }, { accessFlags := 8, nameIndex := 523, descriptorIndex := 524, attributes := #[] }] 49 2 #[1106, 1108, 575, 1110, 1112] #[{ accessFlags := 18, nameIndex := 13, descriptorIndex := 14, attributes := #[] }, { accessFlags := 18, nameIndex := 17, descriptorIndex := 18, attributes := #[] }, { accessFlags := 2, nameIndex := 21, descriptorIndex := 22, attributes := #[] }, { accessFlags := 2, nameIndex := 25, descriptorIndex := 26, attributes := #[] }, { accessFlags := 26, nameIndex := 1116, descriptorIndex := 1117, attributes := #[] }, { accessFlags := 24, nameIndex := 40, descriptorIndex := 26, attributes := #[] }, { accessFlags := 26, nameIndex := 1101, descriptorIndex := 1102, attributes := #[] }, { accessFlags := 26, nameIndex := 1121, descriptorIndex := 1122, attributes := #[] }, { accessFlags := 25, nameIndex := 599, descriptorIndex := 600, attributes := #[] }, { accessFlags := 24, nameIndex := 1125, descriptorIndex := 18, attributes := #[] }, { accessFlags := 24, nameIndex := 1127, descriptorIndex := 18, attributes := #[] }])
  fields := #[{ name := "value", type := (.array .byte), accessFlags := 18, slot := 0, constantValue := 0 }, { name := "coder", type := .byte, accessFlags := 18, slot := 1, constantValue := 0 }, { name := "hash", type := .int, accessFlags := 2, slot := 2, constantValue := 0 }, { name := "hashIsZero", type := .boolean, accessFlags := 2, slot := 3, constantValue := 0 }, { name := "serialVersionUID", type := .long, accessFlags := 26, slot := 0, constantValue := 0 }, { name := "COMPACT_STRINGS", type := .boolean, accessFlags := 24, slot := 1, constantValue := 0 }, { name := "serialPersistentFields", type := (.array (.object "java/io/ObjectStreamField")), accessFlags := 26, slot := 2, constantValue := 0 }, { name := "REPL", type := .char, accessFlags := 26, slot := 3, constantValue := 0 }, { name := "CASE_INSENSITIVE_ORDER", type := (.object "java/util/Comparator"), accessFlags := 25, slot := 4, constantValue := 0 }, { name := "LATIN1", type := .byte, accessFlags := 24, slot := 5, constantValue := 0 }, { name := "UTF16", type := .byte, accessFlags := 24, slot := 6, constantValue := 0 }]
  methods := #[k7m0, k7m1, k7m2, k7m3, k7m4, k7m5, k7m6, k7m7, k7m8, k7m9, k7m10]
  instanceTypes := #[(.array .byte), .byte, .int, .boolean]
  staticTypes := #[.long, .boolean, (.array (.object "java/io/ObjectStreamField")), .char, (.object "java/util/Comparator"), .byte, .byte]
  resolved := Array.replicate 1451 none
  statics := some 0 }

def pool8 : Array CpInfo := pool [(6, .class_ 8), (1, u "java/lang/Object"), (0, u "<init>"), (0, u "()V"), (1, .class_ 14), (1, u "java/lang/StringUTF16"), (31, u "$assertionsDisabled"), (0, u "Z"), (13, u "HI_BYTE_SHIFT"), (0, u "I"), (2, u "LO_BYTE_SHIFT"), (49, .methodref 12 116), (0, .nameAndType 117 118), (0, u "compress"), (0, u "([CI[BII)I"), (3, u "([CII)[B"), (138, u "coderFromArrayLen"), (0, u "([BI)B"), (106, .class_ 371), (1, u "java/lang/StringUTF16$LinesSpliterator"), (58, u "MAX_LENGTH"), (196, .class_ 628), (0, u "java/lang/StringUTF16$CodePointsSpliterator"), (0, .class_ 630), (0, u "java/lang/StringUTF16$CharsSpliterator")] 4

def k8m0 : Method := { name := "<init>", desc := "()V", sig := { parameters := [], returnType := none }, accessFlags := 0, code := none }
def k8c1 : Code := { maxStack := 2, maxLocals := 2, code := jdk_52_method_15_code, exceptionTable := #[], attributes := #[] }
def k8m1 : Method := { name := "coderFromArrayLen", desc := "([BI)B", sig := { parameters := [(.array .byte), .int], returnType := some .byte }, accessFlags := 8, code := some k8c1 }
def k8c2 : Code := { maxStack := 5, maxLocals := 6, code := jdk_52_method_16_code, exceptionTable := #[], attributes := #[] }
def k8m2 : Method := { name := "compress", desc := "([CII)[B", sig := { parameters := [(.array .char), .int, .int], returnType := some (.array .byte) }, accessFlags := 9, code := some k8c2 }
def k8c3 : Code := { maxStack := 3, maxLocals := 7, code := jdk_52_method_21_code, exceptionTable := #[], attributes := #[] }
def k8m3 : Method := { name := "compress", desc := "([CI[BII)I", sig := { parameters := [(.array .char), .int, (.array .byte), .int, .int], returnType := some .int }, accessFlags := 9, code := some k8c3 }
/-- java/lang/StringUTF16 -/
def k8 : Class := { plain "java/lang/StringUTF16" (some 0) with
  accessFlags := 48
  interfaces := #[]
  cf := some (fileOf pool8 12 #[.nestMembers #[627, 629, 369]] #[{ accessFlags := 0, nameIndex := 9, descriptorIndex := 10, attributes := #[] }, { accessFlags := 8, nameIndex := 261, descriptorIndex := 262, attributes := #[] }, { accessFlags := 9, nameIndex := 117, descriptorIndex := 122, attributes := #[] }, { accessFlags := 9, nameIndex := 117, descriptorIndex := 118, attributes := #[] }] 48 6 #[] #[{ accessFlags := 26, nameIndex := 61, descriptorIndex := 62, attributes := #[] }, { accessFlags := 26, nameIndex := 65, descriptorIndex := 62, attributes := #[] }, { accessFlags := 24, nameIndex := 430, descriptorIndex := 62, attributes := #[] }, { accessFlags := 4120, nameIndex := 46, descriptorIndex := 47, attributes := #[] }])
  fields := #[{ name := "HI_BYTE_SHIFT", type := .int, accessFlags := 26, slot := 0, constantValue := 0 }, { name := "LO_BYTE_SHIFT", type := .int, accessFlags := 26, slot := 1, constantValue := 0 }, { name := "MAX_LENGTH", type := .int, accessFlags := 24, slot := 2, constantValue := 0 }, { name := "$assertionsDisabled", type := .boolean, accessFlags := 4120, slot := 3, constantValue := 0 }]
  methods := #[k8m0, k8m1, k8m2, k8m3]
  instanceTypes := #[]
  staticTypes := #[.int, .int, .int, .boolean]
  resolved := Array.replicate 635 none
  statics := none }

def pool9 : Array CpInfo := pool [(1, .methodref 2 3), (0, .class_ 4), (0, .nameAndType 5 6), (0, u "java/lang/Object"), (0, u "<init>"), (0, u "()V"), (0, .class_ 8), (0, u "java/lang/Record")] 13

def k9c0 : Code := { maxStack := 1, maxLocals := 1, code := jdk_30_method_1_code, exceptionTable := #[], attributes := #[] }
def k9m0 : Method := { name := "<init>", desc := "()V", sig := { parameters := [], returnType := none }, accessFlags := 4, code := some k9c0 }
/-- java/lang/Record -/
def k9 : Class := { plain "java/lang/Record" (some 0) with
  accessFlags := 1057
  interfaces := #[]
  cf := some (fileOf pool9 7 #[] #[{ accessFlags := 4, nameIndex := 5, descriptorIndex := 6, attributes := #[] }] 1057 2 #[] #[])
  fields := #[]
  methods := #[k9m0]
  instanceTypes := #[]
  staticTypes := #[]
  resolved := Array.replicate 22 none
  statics := none }

def pool10 : Array CpInfo := pool [(1, .methodref 2 3), (0, .class_ 4), (0, .nameAndType 5 6), (0, u "java/lang/Record"), (0, u "<init>"), (0, u "()V"), (0, .fieldref 8 9), (0, .class_ 10), (0, .nameAndType 11 12), (0, u "com/example/staffetta/staffetta/ArchiveLayout$Field"), (0, u "number"), (0, u "I"), (0, .fieldref 8 14), (0, .nameAndType 15 12), (0, u "first"), (0, .fieldref 8 17), (0, .nameAndType 18 12), (0, u "last"), (0, .methodref 20 21), (0, .class_ 22), (0, .nameAndType 23 24), (0, u "java/lang/String"), (0, u "substring"), (0, u "(II)Ljava/lang/String;"), (12, u "(III)V"), (3, u "in"), (0, u "(Ljava/lang/String;)Ljava/lang/String;"), (6, .class_ 50), (0, u "com/example/staffetta/staffetta/ArchiveLayout")] 21

def k10c0 : Code := { maxStack := 2, maxLocals := 4, code := prog_9_method_1_code, exceptionTable := #[], attributes := #[] }
def k10m0 : Method := { name := "<init>", desc := "(III)V", sig := { parameters := [.int, .int, .int], returnType := none }, accessFlags := 0, code := some k10c0 }
def k10c1 : Code := { maxStack := 3, maxLocals := 2, code := prog_9_method_2_code, exceptionTable := #[], attributes := #[] }
def k10m1 : Method := { name := "in", desc := "(Ljava/lang/String;)Ljava/lang/String;", sig := { parameters := [(.object "java/lang/String")], returnType := some (.object "java/lang/String") }, accessFlags := 0, code := some k10c1 }
/-- com/example/staffetta/staffetta/ArchiveLayout$Field -/
def k10 : Class := { plain "com/example/staffetta/staffetta/ArchiveLayout$Field" (some 9) with
  accessFlags := 48
  interfaces := #[]
  cf := some (fileOf pool10 8 #[.nestHost 49] #[{ accessFlags := 0, nameIndex := 5, descriptorIndex := 37, attributes := #[] }, { accessFlags := 0, nameIndex := 41, descriptorIndex := 42, attributes := #[] }] 48 2 #[] #[{ accessFlags := 18, nameIndex := 11, descriptorIndex := 12, attributes := #[] }, { accessFlags := 18, nameIndex := 15, descriptorIndex := 12, attributes := #[] }, { accessFlags := 18, nameIndex := 18, descriptorIndex := 12, attributes := #[] }])
  fields := #[{ name := "number", type := .int, accessFlags := 18, slot := 0, constantValue := 0 }, { name := "first", type := .int, accessFlags := 18, slot := 1, constantValue := 0 }, { name := "last", type := .int, accessFlags := 18, slot := 2, constantValue := 0 }]
  methods := #[k10m0, k10m1]
  instanceTypes := #[.int, .int, .int]
  staticTypes := #[]
  resolved := Array.replicate 72 none
  statics := none }

def pool11 : Array CpInfo := pool [(2, .class_ 4), (1, u "java/lang/Object"), (0, u "<init>"), (0, u "()V"), (17, .class_ 26), (1, u "jdk/internal/util/Preconditions"), (6, u "checkIndex"), (13, u "checkFromToIndex"), (7, .class_ 56), (0, u "jdk/internal/util/Preconditions$4"), (57, .class_ 115), (0, u "jdk/internal/util/Preconditions$1"), (7, u "SIOOBE_FORMATTER"), (0, u "Ljava/util/function/BiFunction;"), (0, .class_ 126), (0, u "jdk/internal/util/Preconditions$2"), (3, u "AIOOBE_FORMATTER"), (0, .class_ 132), (0, u "jdk/internal/util/Preconditions$3"), (3, u "IOOBE_FORMATTER"), (41, u "(IILjava/util/function/BiFunction;)I"), (4, u "(IIILjava/util/function/BiFunction;)I")] 10

def k11m0 : Method := { name := "<init>", desc := "()V", sig := { parameters := [], returnType := none }, accessFlags := 1, code := none }
def k11c1 : Code := { maxStack := 3, maxLocals := 3, code := jdk_41_method_11_code, exceptionTable := #[], attributes := #[] }
def k11m1 : Method := { name := "checkIndex", desc := "(IILjava/util/function/BiFunction;)I", sig := { parameters := [.int, .int, (.object "java/util/function/BiFunction")], returnType := some .int }, accessFlags := 9, code := some k11c1 }
def k11c2 : Code := { maxStack := 4, maxLocals := 4, code := jdk_41_method_12_code, exceptionTable := #[], attributes := #[] }
def k11m2 : Method := { name := "checkFromToIndex", desc := "(IIILjava/util/function/BiFunction;)I", sig := { parameters := [.int, .int, .int, (.object "java/util/function/BiFunction")], returnType := some .int }, accessFlags := 9, code := some k11c2 }
/-- jdk/internal/util/Preconditions -/
def k11 : Class := { plain "jdk/internal/util/Preconditions" (some 0) with
  accessFlags := 33
  interfaces := #[]
  cf := some (fileOf pool11 24 #[.nestMembers #[55, 131, 125, 114]] #[{ accessFlags := 1, nameIndex := 5, descriptorIndex := 6, attributes := #[] }, { accessFlags := 9, nameIndex := 33, descriptorIndex := 178, attributes := #[] }, { accessFlags := 9, nameIndex := 47, descriptorIndex := 183, attributes := #[] }] 33 2 #[] #[{ accessFlags := 25, nameIndex := 123, descriptorIndex := 124, attributes := #[] }, { accessFlags := 25, nameIndex := 130, descriptorIndex := 124, attributes := #[] }, { accessFlags := 25, nameIndex := 136, descriptorIndex := 124, attributes := #[] }])
  fields := #[{ name := "SIOOBE_FORMATTER", type := (.object "java/util/function/BiFunction"), accessFlags := 25, slot := 0, constantValue := 0 }, { name := "AIOOBE_FORMATTER", type := (.object "java/util/function/BiFunction"), accessFlags := 25, slot := 1, constantValue := 0 }, { name := "IOOBE_FORMATTER", type := (.object "java/util/function/BiFunction"), accessFlags := 25, slot := 2, constantValue := 0 }]
  methods := #[k11m0, k11m1, k11m2]
  instanceTypes := #[]
  staticTypes := #[(.object "java/util/function/BiFunction"), (.object "java/util/function/BiFunction"), (.object "java/util/function/BiFunction")]
  resolved := Array.replicate 194 none
  statics := some 1 }

def pool12 : Array CpInfo := pool [(1, .class_ 2), (0, u "java/lang/String"), (1, .class_ 6), (1, u "java/lang/Object"), (0, u "<init>"), (0, u "()V"), (0, .methodref 1 10), (0, .nameAndType 11 12), (0, u "checkIndex"), (0, u "(II)V"), (1, .class_ 16), (1, u "java/lang/StringLatin1"), (36, u "([BI)C"), (58, .methodref 1 113), (0, .nameAndType 7 114), (0, u "([BB)V"), (6, u "$assertionsDisabled"), (0, u "Z"), (8, .class_ 133), (1, u "java/util/Arrays"), (62, u "newString"), (0, u "([BII)Ljava/lang/String;"), (23, .class_ 223), (1, u "java/lang/StringLatin1$LinesSpliterator"), (8, .methodref 131 233), (0, .nameAndType 234 235), (0, u "copyOfRange"), (0, u "([BII)[B"), (16, u "charAt"), (137, .class_ 391), (0, u "java/lang/StringLatin1$CharsSpliterator")] 3

def k12m0 : Method := { name := "<init>", desc := "()V", sig := { parameters := [], returnType := none }, accessFlags := 0, code := none }
def k12c1 : Code := { maxStack := 2, maxLocals := 2, code := jdk_43_method_2_code, exceptionTable := #[], attributes := #[] }
def k12m1 : Method := { name := "charAt", desc := "([BI)C", sig := { parameters := [(.array .byte), .int], returnType := some .char }, accessFlags := 9, code := some k12c1 }
def k12c2 : Code := { maxStack := 6, maxLocals := 3, code := jdk_43_method_47_code, exceptionTable := #[], attributes := #[] }
def k12m2 : Method := { name := "newString", desc := "([BII)Ljava/lang/String;", sig := { parameters := [(.array .byte), .int, .int], returnType := some (.object "java/lang/String") }, accessFlags := 9, code := some k12c2 }
/-- java/lang/StringLatin1 -/
def k12 : Class := { plain "java/lang/StringLatin1" (some 0) with
  accessFlags := 48
  interfaces := #[]
  cf := some (fileOf pool12 14 #[.nestMembers #[390, 221]] #[{ accessFlags := 0, nameIndex := 7, descriptorIndex := 8, attributes := #[] }, { accessFlags := 9, nameIndex := 252, descriptorIndex := 53, attributes := #[] }, { accessFlags := 9, nameIndex := 196, descriptorIndex := 197, attributes := #[] }] 48 4 #[] #[{ accessFlags := 4120, nameIndex := 121, descriptorIndex := 122, attributes := #[] }])
  fields := #[{ name := "$assertionsDisabled", type := .boolean, accessFlags := 4120, slot := 0, constantValue := 0 }]
  methods := #[k12m0, k12m1, k12m2]
  instanceTypes := #[]
  staticTypes := #[.boolean]
  resolved := Array.replicate 395 none
  statics := none }

def pool13 : Array CpInfo := pool [(2, .class_ 4), (1, u "java/lang/Object"), (0, u "<init>"), (0, u "()V"), (7, .class_ 16), (1, u "java/util/Arrays"), (57, .class_ 76), (1, u "java/util/Arrays$NaturalOrder"), (36, .class_ 115), (1, u "java/util/Arrays$LegacyMergeSort"), (1, u "Z"), (21, u "copyOfRange"), (10, .methodref 151 152), (0, .class_ 153), (0, .nameAndType 154 155), (0, u "java/lang/System"), (0, u "arraycopy"), (0, u "(Ljava/lang/Object;ILjava/lang/Object;II)V"), (148, .methodref 305 306), (0, .class_ 307), (0, .nameAndType 308 309), (0, u "java/lang/Math"), (0, u "min"), (0, u "(II)I"), (29, .methodref 14 340), (0, .nameAndType 341 342), (0, u "copyOfRangeByte"), (0, u "([BII)[B"), (0, .methodref 14 344), (0, .nameAndType 345 346), (0, u "checkLength"), (0, u "(II)V"), (28, .class_ 376), (0, u "java/util/Arrays$ArrayList"), (68, u "$assertionsDisabled"), (269, u "MIN_ARRAY_SORT_GRAN"), (0, u "I"), (2, u "INSERTIONSORT_THRESHOLD"), (255, .class_ 976), (0, u "java/util/Arrays$ArrayItr")] 52

def k13m0 : Method := { name := "<init>", desc := "()V", sig := { parameters := [], returnType := none }, accessFlags := 2, code := none }
def k13c1 : Code := { maxStack := 4, maxLocals := 2, code := jdk_65_method_131_code, exceptionTable := #[], attributes := #[] }
def k13m1 : Method := { name := "checkLength", desc := "(II)V", sig := { parameters := [.int, .int], returnType := none }, accessFlags := 10, code := some k13c1 }
def k13c2 : Code := { maxStack := 3, maxLocals := 3, code := jdk_65_method_132_code, exceptionTable := #[], attributes := #[] }
def k13m2 : Method := { name := "copyOfRange", desc := "([BII)[B", sig := { parameters := [(.array .byte), .int, .int], returnType := some (.array .byte) }, accessFlags := 9, code := some k13c2 }
def k13c3 : Code := { maxStack := 6, maxLocals := 5, code := jdk_65_method_133_code, exceptionTable := #[], attributes := #[] }
def k13m3 : Method := { name := "copyOfRangeByte", desc := "([BII)[B", sig := { parameters := [(.array .byte), .int, .int], returnType := some (.array .byte) }, accessFlags := 10, code := some k13c3 }
/-- java/util/Arrays -/
def k13 : Class := { plain "java/util/Arrays" (some 0) with
  accessFlags := 49
  interfaces := #[]
  cf := some (fileOf pool13 14 #[.nestMembers #[975, 375, 113, 74]] #[{ accessFlags := 2, nameIndex := 5, descriptorIndex := 6, attributes := #[] }, { accessFlags := 10, nameIndex := 345, descriptorIndex := 346, attributes := #[] }, { accessFlags := 9, nameIndex := 139, descriptorIndex := 342, attributes := #[] }, { accessFlags := 10, nameIndex := 341, descriptorIndex := 342, attributes := #[] }] 49 2 #[] #[{ accessFlags := 26, nameIndex := 715, descriptorIndex := 716, attributes := #[] }, { accessFlags := 26, nameIndex := 719, descriptorIndex := 716, attributes := #[] }, { accessFlags := 4120, nameIndex := 445, descriptorIndex := 117, attributes := #[] }])
  fields := #[{ name := "MIN_ARRAY_SORT_GRAN", type := .int, accessFlags := 26, slot := 0, constantValue := 0 }, { name := "INSERTIONSORT_THRESHOLD", type := .int, accessFlags := 26, slot := 1, constantValue := 0 }, { name := "$assertionsDisabled", type := .boolean, accessFlags := 4120, slot := 2, constantValue := 0 }]
  methods := #[k13m0, k13m1, k13m2, k13m3]
  instanceTypes := #[]
  staticTypes := #[.int, .int, .boolean]
  resolved := Array.replicate 1029 none
  statics := none }

def pool14 : Array CpInfo := pool [(1, .class_ 2), (0, u "java/lang/Math"), (1, .class_ 6), (1, u "java/lang/Object"), (0, u "<init>"), (0, u "()V"), (89, .class_ 100), (1, u "java/lang/Math$RandomNumberGeneratorHolder"), (71, u "negativeZeroFloatBits"), (0, u "J"), (2, u "negativeZeroDoubleBits"), (24, u "min"), (43, u "$assertionsDisabled"), (0, u "Z"), (88, u "(II)I"), (2, u "twoToTheDoubleScaleDown"), (0, u "D"), (4, u "twoToTheDoubleScaleUp"), (9, u "E"), (3, u "PI"), (2, u "TAU"), (2, u "DEGREES_TO_RADIANS"), (0, u "RADIANS_TO_DEGREES")] 94

def k14m0 : Method := { name := "<init>", desc := "()V", sig := { parameters := [], returnType := none }, accessFlags := 2, code := none }
def k14c1 : Code := { maxStack := 2, maxLocals := 2, code := jdk_29_method_69_code, exceptionTable := #[], attributes := #[] }
def k14m1 : Method := { name := "min", desc := "(II)I", sig := { parameters := [.int, .int], returnType := some .int }, accessFlags := 9, code := some k14c1 }
/-- java/lang/Math -/
def k14 : Class := { plain "java/lang/Math" (some 0) with
  accessFlags := 49
  interfaces := #[]
  cf := some (fileOf pool14 1 #[.nestMembers #[98]] #[{ accessFlags := 2, nameIndex := 7, descriptorIndex := 8, attributes := #[] }, { accessFlags := 9, nameIndex := 201, descriptorIndex := 335, attributes := #[] }] 49 4 #[] #[{ accessFlags := 25, nameIndex := 354, descriptorIndex := 339, attributes := #[] }, { accessFlags := 25, nameIndex := 358, descriptorIndex := 339, attributes := #[] }, { accessFlags := 25, nameIndex := 361, descriptorIndex := 339, attributes := #[] }, { accessFlags := 26, nameIndex := 364, descriptorIndex := 339, attributes := #[] }, { accessFlags := 26, nameIndex := 365, descriptorIndex := 339, attributes := #[] }, { accessFlags := 26, nameIndex := 172, descriptorIndex := 173, attributes := #[] }, { accessFlags := 26, nameIndex := 176, descriptorIndex := 173, attributes := #[] }, { accessFlags := 8, nameIndex := 344, descriptorIndex := 339, attributes := #[] }, { accessFlags := 8, nameIndex := 338, descriptorIndex := 339, attributes := #[] }, { accessFlags := 4120, nameIndex := 245, descriptorIndex := 246, attributes := #[] }])
  fields := #[{ name := "E", type := .double, accessFlags := 25, slot := 0, constantValue := 0 }, { name := "PI", type := .double, accessFlags := 25, slot := 1, constantValue := 0 }, { name := "TAU", type := .double, accessFlags := 25, slot := 2, constantValue := 0 }, { name := "DEGREES_TO_RADIANS", type := .double, accessFlags := 26, slot := 3, constantValue := 0 }, { name := "RADIANS_TO_DEGREES", type := .double, accessFlags := 26, slot := 4, constantValue := 0 }, { name := "negativeZeroFloatBits", type := .long, accessFlags := 26, slot := 5, constantValue := 0 }, { name := "negativeZeroDoubleBits", type := .long, accessFlags := 26, slot := 6, constantValue := 0 }, { name := "twoToTheDoubleScaleUp", type := .double, accessFlags := 8, slot := 7, constantValue := 0 }, { name := "twoToTheDoubleScaleDown", type := .double, accessFlags := 8, slot := 8, constantValue := 0 }, { name := "$assertionsDisabled", type := .boolean, accessFlags := 4120, slot := 9, constantValue := 0 }]
  methods := #[k14m0, k14m1]
  instanceTypes := #[]
  staticTypes := #[.double, .double, .double, .double, .double, .long, .long, .double, .double, .boolean]
  resolved := Array.replicate 460 none
  statics := none }

def pool15 : Array CpInfo := pool [(2, .class_ 4), (1, u "java/lang/Object"), (0, u "<init>"), (0, u "()V"), (1, .class_ 10), (1, u "java/lang/System"), (0, u "allowSecurityManager"), (0, u "I"), (16, u "cons"), (0, u "Ljava/io/Console;"), (77, .class_ 110), (1, u "java/lang/System$CallersHolder"), (43, u "initialErrStream"), (0, u "Ljava/io/PrintStream;"), (19, u "security"), (0, u "Ljava/lang/SecurityManager;"), (31, .class_ 209), (0, u "java/lang/System$1"), (7, u "props"), (0, u "Ljava/util/Properties;"), (2, u "lineSeparator"), (0, u "Ljava/lang/String;"), (96, .class_ 321), (1, u "java/lang/System$LoggerFinder"), (5, .class_ 328), (0, u "java/lang/System$Logger"), (67, u "err"), (2, u "out"), (91, u "notSupportedJnuEncoding"), (15, u "in"), (17, u "initialIn"), (0, u "Ljava/io/InputStream;"), (35, u "bootLayer"), (0, u "Ljava/lang/ModuleLayer;"), (99, .class_ 664), (0, u "java/lang/System$2"), (9, u "NEVER"), (2, u "MAYBE"), (49, u "arraycopy"), (0, u "(Ljava/lang/Object;ILjava/lang/Object;II)V"), (72, .class_ 802), (0, u "java/lang/System$Logger$Level")] 31

def k15m0 : Method := { name := "<init>", desc := "()V", sig := { parameters := [], returnType := none }, accessFlags := 2, code := none }
def k15m1 : Method := { name := "arraycopy", desc := "(Ljava/lang/Object;ILjava/lang/Object;II)V", sig := { parameters := [(.object "java/lang/Object"), .int, (.object "java/lang/Object"), .int, .int], returnType := none }, accessFlags := 265, code := none }
/-- java/lang/System -/
def k15 : Class := { plain "java/lang/System" (some 0) with
  accessFlags := 49
  interfaces := #[]
  cf := some (fileOf pool15 8 #[.nestMembers #[319, 327, 801, 108, 663, 208]] #[{ accessFlags := 2, nameIndex := 5, descriptorIndex := 6, attributes := #[] }, { accessFlags := 265, nameIndex := 727, descriptorIndex := 728, attributes := #[] }] 49 2 #[] #[{ accessFlags := 25, nameIndex := 507, descriptorIndex := 526, attributes := #[] }, { accessFlags := 25, nameIndex := 399, descriptorIndex := 155, attributes := #[] }, { accessFlags := 25, nameIndex := 396, descriptorIndex := 155, attributes := #[] }, { accessFlags := 10, nameIndex := 525, descriptorIndex := 526, attributes := #[] }, { accessFlags := 26, nameIndex := 674, descriptorIndex := 12, attributes := #[] }, { accessFlags := 26, nameIndex := 677, descriptorIndex := 12, attributes := #[] }, { accessFlags := 10, nameIndex := 11, descriptorIndex := 12, attributes := #[] }, { accessFlags := 74, nameIndex := 175, descriptorIndex := 176, attributes := #[] }, { accessFlags := 10, nameIndex := 491, descriptorIndex := 222, attributes := #[] }, { accessFlags := 74, nameIndex := 29, descriptorIndex := 30, attributes := #[] }, { accessFlags := 74, nameIndex := 154, descriptorIndex := 155, attributes := #[] }, { accessFlags := 10, nameIndex := 217, descriptorIndex := 218, attributes := #[] }, { accessFlags := 10, nameIndex := 221, descriptorIndex := 222, attributes := #[] }, { accessFlags := 8, nameIndex := 562, descriptorIndex := 563, attributes := #[] }])
  fields := #[{ name := "in", type := (.object "java/io/InputStream"), accessFlags := 25, slot := 0, constantValue := 0 }, { name := "out", type := (.object "java/io/PrintStream"), accessFlags := 25, slot := 1, constantValue := 0 }, { name := "err", type := (.object "java/io/PrintStream"), accessFlags := 25, slot := 2, constantValue := 0 }, { name := "initialIn", type := (.object "java/io/InputStream"), accessFlags := 10, slot := 3, constantValue := 0 }, { name := "NEVER", type := .int, accessFlags := 26, slot := 4, constantValue := 0 }, { name := "MAYBE", type := .int, accessFlags := 26, slot := 5, constantValue := 0 }, { name := "allowSecurityManager", type := .int, accessFlags := 10, slot := 6, constantValue := 0 }, { name := "security", type := (.object "java/lang/SecurityManager"), accessFlags := 74, slot := 7, constantValue := 0 }, { name := "notSupportedJnuEncoding", type := (.object "java/lang/String"), accessFlags := 10, slot := 8, constantValue := 0 }, { name := "cons", type := (.object "java/io/Console"), accessFlags := 74, slot := 9, constantValue := 0 }, { name := "initialErrStream", type := (.object "java/io/PrintStream"), accessFlags := 74, slot := 10, constantValue := 0 }, { name := "props", type := (.object "java/util/Properties"), accessFlags := 10, slot := 11, constantValue := 0 }, { name := "lineSeparator", type := (.object "java/lang/String"), accessFlags := 10, slot := 12, constantValue := 0 }, { name := "bootLayer", type := (.object "java/lang/ModuleLayer"), accessFlags := 8, slot := 13, constantValue := 0 }]
  methods := #[k15m0, k15m1]
  instanceTypes := #[]
  staticTypes := #[(.object "java/io/InputStream"), (.object "java/io/PrintStream"), (.object "java/io/PrintStream"), (.object "java/io/InputStream"), .int, .int, .int, (.object "java/lang/SecurityManager"), (.object "java/lang/String"), (.object "java/io/Console"), (.object "java/io/PrintStream"), (.object "java/util/Properties"), (.object "java/lang/String"), (.object "java/lang/ModuleLayer")]
  resolved := Array.replicate 834 none
  statics := none }

def pool16 : Array CpInfo := pool [(9, u "<init>"), (6, .class_ 18), (1, u "java/lang/Object"), (0, u "()V"), (1, .class_ 23), (1, u "jdk/internal/util/ArraysSupport"), (0, u "LOG2_ARRAY_LONG_INDEX_SCALE"), (0, u "I"), (2, u "U"), (0, u "Ljdk/internal/misc/Unsafe;"), (8, u "BIG_ENDIAN"), (0, u "Z"), (8, u "LOG2_BYTE_BIT_SIZE"), (4, u "LOG2_ARRAY_INT_INDEX_SCALE"), (54, u "JLA"), (0, u "Ljdk/internal/access/JavaLangAccess;"), (11, u "LOG2_ARRAY_BOOLEAN_INDEX_SCALE"), (9, u "LOG2_ARRAY_BYTE_INDEX_SCALE"), (5, u "LOG2_ARRAY_CHAR_INDEX_SCALE"), (5, u "LOG2_ARRAY_SHORT_INDEX_SCALE"), (18, u "LOG2_ARRAY_FLOAT_INDEX_SCALE"), (24, u "LOG2_ARRAY_DOUBLE_INDEX_SCALE"), (89, u "T_BOOLEAN"), (2, u "T_CHAR"), (1, u "T_FLOAT"), (1, u "T_DOUBLE"), (1, u "T_BYTE"), (1, u "T_SHORT"), (1, u "T_INT"), (1, u "T_LONG"), (1, u "SOFT_MAX_ARRAY_LENGTH")] 83

def k16m0 : Method := { name := "<init>", desc := "()V", sig := { parameters := [], returnType := none }, accessFlags := 2, code := none }
/-- jdk/internal/util/ArraysSupport -/
def k16 : Class := { plain "jdk/internal/util/ArraysSupport" (some 0) with
  accessFlags := 33
  interfaces := #[]
  cf := some (fileOf pool16 21 #[] #[{ accessFlags := 2, nameIndex := 9, descriptorIndex := 19, attributes := #[] }] 33 16 #[] #[{ accessFlags := 24, nameIndex := 28, descriptorIndex := 29, attributes := #[] }, { accessFlags := 26, nameIndex := 38, descriptorIndex := 39, attributes := #[] }, { accessFlags := 25, nameIndex := 121, descriptorIndex := 25, attributes := #[] }, { accessFlags := 25, nameIndex := 131, descriptorIndex := 25, attributes := #[] }, { accessFlags := 25, nameIndex := 137, descriptorIndex := 25, attributes := #[] }, { accessFlags := 25, nameIndex := 143, descriptorIndex := 25, attributes := #[] }, { accessFlags := 25, nameIndex := 53, descriptorIndex := 25, attributes := #[] }, { accessFlags := 25, nameIndex := 24, descriptorIndex := 25, attributes := #[] }, { accessFlags := 25, nameIndex := 162, descriptorIndex := 25, attributes := #[] }, { accessFlags := 25, nameIndex := 187, descriptorIndex := 25, attributes := #[] }, { accessFlags := 26, nameIndex := 48, descriptorIndex := 25, attributes := #[] }, { accessFlags := 25, nameIndex := 277, descriptorIndex := 25, attributes := #[] }, { accessFlags := 25, nameIndex := 280, descriptorIndex := 25, attributes := #[] }, { accessFlags := 25, nameIndex := 282, descriptorIndex := 25, attributes := #[] }, { accessFlags := 25, nameIndex := 284, descriptorIndex := 25, attributes := #[] }, { accessFlags := 25, nameIndex := 286, descriptorIndex := 25, attributes := #[] }, { accessFlags := 25, nameIndex := 288, descriptorIndex := 25, attributes := #[] }, { accessFlags := 25, nameIndex := 290, descriptorIndex := 25, attributes := #[] }, { accessFlags := 25, nameIndex := 292, descriptorIndex := 25, attributes := #[] }, { accessFlags := 26, nameIndex := 108, descriptorIndex := 109, attributes := #[] }, { accessFlags := 25, nameIndex := 294, descriptorIndex := 25, attributes := #[] }])
  fields := #[{ name := "U", type := (.object "jdk/internal/misc/Unsafe"), accessFlags := 24, slot := 0, constantValue := 0 }, { name := "BIG_ENDIAN", type := .boolean, accessFlags := 26, slot := 1, constantValue := 0 }, { name := "LOG2_ARRAY_BOOLEAN_INDEX_SCALE", type := .int, accessFlags := 25, slot := 2, constantValue := 0 }, { name := "LOG2_ARRAY_BYTE_INDEX_SCALE", type := .int, accessFlags := 25, slot := 3, constantValue := 0 }, { name := "LOG2_ARRAY_CHAR_INDEX_SCALE", type := .int, accessFlags := 25, slot := 4, constantValue := 0 }, { name := "LOG2_ARRAY_SHORT_INDEX_SCALE", type := .int, accessFlags := 25, slot := 5, constantValue := 0 }, { name := "LOG2_ARRAY_INT_INDEX_SCALE", type := .int, accessFlags := 25, slot := 6, constantValue := 0 }, { name := "LOG2_ARRAY_LONG_INDEX_SCALE", type := .int, accessFlags := 25, slot := 7, constantValue := 0 }, { name := "LOG2_ARRAY_FLOAT_INDEX_SCALE", type := .int, accessFlags := 25, slot := 8, constantValue := 0 }, { name := "LOG2_ARRAY_DOUBLE_INDEX_SCALE", type := .int, accessFlags := 25, slot := 9, constantValue := 0 }, { name := "LOG2_BYTE_BIT_SIZE", type := .int, accessFlags := 26, slot := 10, constantValue := 0 }, { name := "T_BOOLEAN", type := .int, accessFlags := 25, slot := 11, constantValue := 0 }, { name := "T_CHAR", type := .int, accessFlags := 25, slot := 12, constantValue := 0 }, { name := "T_FLOAT", type := .int, accessFlags := 25, slot := 13, constantValue := 0 }, { name := "T_DOUBLE", type := .int, accessFlags := 25, slot := 14, constantValue := 0 }, { name := "T_BYTE", type := .int, accessFlags := 25, slot := 15, constantValue := 0 }, { name := "T_SHORT", type := .int, accessFlags := 25, slot := 16, constantValue := 0 }, { name := "T_INT", type := .int, accessFlags := 25, slot := 17, constantValue := 0 }, { name := "T_LONG", type := .int, accessFlags := 25, slot := 18, constantValue := 0 }, { name := "JLA", type := (.object "jdk/internal/access/JavaLangAccess"), accessFlags := 26, slot := 19, constantValue := 0 }, { name := "SOFT_MAX_ARRAY_LENGTH", type := .int, accessFlags := 25, slot := 20, constantValue := 0 }]
  methods := #[k16m0]
  instanceTypes := #[]
  staticTypes := #[(.object "jdk/internal/misc/Unsafe"), .boolean, .int, .int, .int, .int, .int, .int, .int, .int, .int, .int, .int, .int, .int, .int, .int, .int, .int, (.object "jdk/internal/access/JavaLangAccess"), .int]
  resolved := Array.replicate 378 none
  statics := none }

def pool17 : Array CpInfo := pool [(1, u "java/lang/Cloneable"), (0, .class_ 1), (0, u "java/lang/Object"), (0, .class_ 3)] 3

/-- java/lang/Cloneable -/
def k17 : Class := { plain "java/lang/Cloneable" (some 0) with
  accessFlags := 1537
  interfaces := #[]
  cf := some (fileOf pool17 2 #[] #[] 1537 4 #[] #[])
  fields := #[]
  methods := #[]
  instanceTypes := #[]
  staticTypes := #[]
  resolved := Array.replicate 8 none
  statics := none }

/-- the primitive byte -/
def k18 : Class := { plain "byte" none with kind := .primitive 'B', accessFlags := 0x411 }
/-- [B -/
def k19 : Class := { plain "[B" (some 0) with kind := .array 18 .byte, interfaces := #[17, 2], accessFlags := 1041 }

/-- the primitive char -/
def k20 : Class := { plain "char" none with kind := .primitive 'C', accessFlags := 0x411 }
/-- [C -/
def k21 : Class := { plain "[C" (some 0) with kind := .array 20 .char, interfaces := #[17, 2], accessFlags := 1041 }

/-- the primitive int -/
def k22 : Class := { plain "int" none with kind := .primitive 'I', accessFlags := 0x411 }
/-- [I -/
def k23 : Class := { plain "[I" (some 0) with kind := .array 22 .int, interfaces := #[17, 2], accessFlags := 1041 }

def heap : Heap := #[{ cls := 7, slots := #[.long 0, .int 1, .null, .int 0, .null, .int 0, .int 0], vm := .statics 7 },
  { cls := 11, slots := #[.null, .null, .null], vm := .statics 11 }]
def classes : Array Class := #[k0, k1, k2, k3, k4, k5, k6, k7, k8, k9, k10, k11, k12, k13, k14, k15, k16, k17, k18, k19, k20, k21, k22, k23]
def interned : List (Array UInt16 × Addr) := []
def slotsUsed : Nat := 10
def theMethod : MethodId := ⟨1, 3⟩
def args0 : Array Value := #[.long 5, .int 7, .int 9, .int 1000]
def aboutOver (below : List Frame) : State where
  vm := { classes := classes, interned := interned.toArray }
  heap := heap
  slotsUsed := slotsUsed
  threads := #[{ frames := .invoking theMethod args0 :: below }]
def below0 : List Frame := [.native { method := ⟨0, 0⟩, args := #[] }]
def about1 : State := aboutOver below0
def p0 : Program := .bare "" "" ""
def e0 : Env := launch0.env 0 0 0
theorem w_frames : about1.frames = Frame.invoking theMethod args0 :: below0 := rfl
set_option maxRecDepth 65536 in
theorem w_args : argsFit about1.vm theMethod args0 = true := by decide +kernel
set_option maxRecDepth 65536 in
theorem w_heap : heapFits about1 = true := by decide +kernel
set_option maxRecDepth 65536 in
theorem w_runnable : about1.curStatus? = some .runnable := by decide +kernel
set_option maxRecDepth 65536 in
theorem w_alone : about1.alone = true := by decide +kernel
set_option maxRecDepth 65536 in
theorem w_named : about1.methodNamed? x = some theMethod := by decide +kernel
set_option maxRecDepth 65536 in
theorem w_hears : about1.hears theMethod below0 = true := by decide +kernel
set_option maxRecDepth 65536 in
theorem w_ripe : about1.ripe theMethod args0 below0 = true := by decide +kernel
theorem w_running : about1.status = .running := rfl
set_option maxRecDepth 65536 in
theorem w_room : about1.hasRoom e0.platform room_1 = true :=
  launch0.hasRoom_least _ room_1 (by decide +kernel) (by decide +kernel) (by decide +kernel) (by decide +kernel) (by decide +kernel) (by decide +kernel)
theorem allAtoms_all (ts : List Jvm.Cond) (a : Array Jvm.Value) (st : Jvm.State) : (allAtoms ts).before a st = ts.all (fun c => c.before a st) := by
  induction ts with
  | nil => rfl
  | cons c t ih =>
    show (Jvm.Cond.and c (allAtoms t)).before a st = _
    rw [Jvm.Cond.before_and, ih, List.all_cons]
def words1 : List Jvm.Cond := Jvm.Cond.code x code maxLocals ret :: tables_1
/-- a 'code' word, met by the world's own term for the bytes: nothing is compared byte by byte -/
theorem code_word {y : MethodName} {bytes : ByteArray} {mx : Nat} {rt : Option FieldType} {a : Array Value} {s : State} {m : MethodId} {meth : Method} {c : Code} (h1 : s.methodNamed? y = some m) (h2 : s.vm.method? m = some meth) (h3 : meth.code = some c) (h4 : c.code = bytes)
    (h5 : (c.maxLocals == mx && c.exceptionTable.isEmpty && decide (c.maxStack ≤ mostOperands) && decide (meth.sig.returnType = rt) && !meth.locks && decide (parseMethodDescriptor y.desc = some meth.sig)) = true) : (Jvm.Cond.code y bytes mx rt).before a s = true := by
  simp only [Bool.and_eq_true, beq_iff_eq, Bool.not_eq_true', decide_eq_true_eq] at h5
  obtain ⟨⟨⟨⟨⟨g1, g2⟩, g3⟩, g4⟩, g5⟩, g6⟩ := h5
  simp [Cond.before, Cond.holds, Cond.value, h1, h2, h3, h4, g1, g2, g3, g4, g5, g6]
def isCode : Jvm.Cond → Bool
  | .code _ _ _ _ => true
  | _ => false
theorem all_split {L : List Jvm.Cond} {P : Jvm.Cond → Bool} (h1 : L.all (fun c => isCode c || P c) = true) (h2 : ∀ c ∈ L.filter isCode, P c = true) : L.all P = true := by
  refine List.all_eq_true.mpr fun c hc => ?_
  have h := List.all_eq_true.mp h1 c hc
  rcases Bool.eq_false_or_eq_true (isCode c) with hi | hi
  · exact h2 c (List.mem_filter.mpr ⟨hc, hi⟩)
  · simpa [hi] using h
set_option maxRecDepth 65536 in
theorem w_c0 : (Jvm.Cond.code x code maxLocals ret).before args0 about1 = true := code_word (m := ⟨1, 3⟩) (meth := k1m3) (c := k1c3) (by decide +kernel) rfl rfl rfl (by decide +kernel)
set_option maxRecDepth 65536 in
theorem w_c1 : (Jvm.Cond.code ({ cls := "com/example/staffetta/staffetta/FieldInPinLaw", name := "ch", desc := "(JI)C" } : Jvm.MethodName) method_2_code (3 : Nat) (Option.some Jvm.ClassFile.FieldType.char)).before args0 about1 = true := code_word (m := ⟨1, 1⟩) (meth := k1m1) (c := k1c1) (by decide +kernel) rfl rfl rfl (by decide +kernel)
set_option maxRecDepth 65536 in
theorem w_c2 : (Jvm.Cond.code ({ cls := "java/lang/String", name := "<init>", desc := "([C)V" } : Jvm.MethodName) jdk_42_method_3_code (2 : Nat) (Option.none : Option Jvm.ClassFile.FieldType)).before args0 about1 = true := code_word (m := ⟨7, 1⟩) (meth := k7m1) (c := k7c1) (by decide +kernel) rfl rfl rfl (by decide +kernel)
set_option maxRecDepth 65536 in
theorem w_c3 : (Jvm.Cond.code ({ cls := "java/lang/String", name := "<init>", desc := "([CIILjava/lang/Void;)V" } : Jvm.MethodName) jdk_42_method_149_code (6 : Nat) (Option.none : Option Jvm.ClassFile.FieldType)).before args0 about1 = true := code_word (m := ⟨7, 5⟩) (meth := k7m5) (c := k7c5) (by decide +kernel) rfl rfl rfl (by decide +kernel)
set_option maxRecDepth 65536 in
theorem w_c4 : (Jvm.Cond.code ({ cls := "java/lang/Object", name := "<init>", desc := "()V" } : Jvm.MethodName) object_method_1_code (1 : Nat) (Option.none : Option Jvm.ClassFile.FieldType)).before args0 about1 = true := code_word (m := ⟨0, 0⟩) (meth := k0m0) (c := k0c0) (by decide +kernel) rfl rfl rfl (by decide +kernel)
set_option maxRecDepth 65536 in
theorem w_c5 : (Jvm.Cond.code ({ cls := "java/lang/StringUTF16", name := "compress", desc := "([CII)[B" } : Jvm.MethodName) jdk_52_method_16_code (6 : Nat) (Option.some (Jvm.ClassFile.FieldType.array Jvm.ClassFile.FieldType.byte))).before args0 about1 = true := code_word (m := ⟨8, 2⟩) (meth := k8m2) (c := k8c2) (by decide +kernel) rfl rfl rfl (by decide +kernel)
set_option maxRecDepth 65536 in
theorem w_c6 : (Jvm.Cond.code ({ cls := "java/lang/StringUTF16", name := "compress", desc := "([CI[BII)I" } : Jvm.MethodName) jdk_52_method_21_code (7 : Nat) (Option.some Jvm.ClassFile.FieldType.int)).before args0 about1 = true := code_word (m := ⟨8, 3⟩) (meth := k8m3) (c := k8c3) (by decide +kernel) rfl rfl rfl (by decide +kernel)
set_option maxRecDepth 65536 in
theorem w_c7 : (Jvm.Cond.code ({ cls := "java/lang/StringUTF16", name := "coderFromArrayLen", desc := "([BI)B" } : Jvm.MethodName) jdk_52_method_15_code (2 : Nat) (Option.some Jvm.ClassFile.FieldType.byte)).before args0 about1 = true := code_word (m := ⟨8, 1⟩) (meth := k8m1) (c := k8c1) (by decide +kernel) rfl rfl rfl (by decide +kernel)
set_option maxRecDepth 65536 in
theorem w_c8 : (Jvm.Cond.code ({ cls := "com/example/staffetta/staffetta/ArchiveLayout$Field", name := "<init>", desc := "(III)V" } : Jvm.MethodName) prog_9_method_1_code (4 : Nat) (Option.none : Option Jvm.ClassFile.FieldType)).before args0 about1 = true := code_word (m := ⟨10, 0⟩) (meth := k10m0) (c := k10c0) (by decide +kernel) rfl rfl rfl (by decide +kernel)
set_option maxRecDepth 65536 in
theorem w_c9 : (Jvm.Cond.code ({ cls := "java/lang/Record", name := "<init>", desc := "()V" } : Jvm.MethodName) jdk_30_method_1_code (1 : Nat) (Option.none : Option Jvm.ClassFile.FieldType)).before args0 about1 = true := code_word (m := ⟨9, 0⟩) (meth := k9m0) (c := k9c0) (by decide +kernel) rfl rfl rfl (by decide +kernel)
set_option maxRecDepth 65536 in
theorem w_c10 : (Jvm.Cond.code ({ cls := "com/example/staffetta/staffetta/ArchiveLayout$Field", name := "in", desc := "(Ljava/lang/String;)Ljava/lang/String;" } : Jvm.MethodName) prog_9_method_2_code (2 : Nat) (Option.some (Jvm.ClassFile.FieldType.object "java/lang/String"))).before args0 about1 = true := code_word (m := ⟨10, 1⟩) (meth := k10m1) (c := k10c1) (by decide +kernel) rfl rfl rfl (by decide +kernel)
set_option maxRecDepth 65536 in
theorem w_c11 : (Jvm.Cond.code ({ cls := "java/lang/String", name := "substring", desc := "(II)Ljava/lang/String;" } : Jvm.MethodName) jdk_42_method_92_code (5 : Nat) (Option.some (Jvm.ClassFile.FieldType.object "java/lang/String"))).before args0 about1 = true := code_word (m := ⟨7, 4⟩) (meth := k7m4) (c := k7c4) (by decide +kernel) rfl rfl rfl (by decide +kernel)
set_option maxRecDepth 65536 in
theorem w_c12 : (Jvm.Cond.code ({ cls := "java/lang/String", name := "length", desc := "()I" } : Jvm.MethodName) jdk_42_method_54_code (1 : Nat) (Option.some Jvm.ClassFile.FieldType.int)).before args0 about1 = true := code_word (m := ⟨7, 2⟩) (meth := k7m2) (c := k7c2) (by decide +kernel) rfl rfl rfl (by decide +kernel)
set_option maxRecDepth 65536 in
theorem w_c13 : (Jvm.Cond.code ({ cls := "java/lang/String", name := "coder", desc := "()B" } : Jvm.MethodName) jdk_42_method_152_code (1 : Nat) (Option.some Jvm.ClassFile.FieldType.byte)).before args0 about1 = true := code_word (m := ⟨7, 7⟩) (meth := k7m7) (c := k7c7) (by decide +kernel) rfl rfl rfl (by decide +kernel)
set_option maxRecDepth 65536 in
theorem w_c14 : (Jvm.Cond.code ({ cls := "java/lang/String", name := "checkBoundsBeginEnd", desc := "(III)V" } : Jvm.MethodName) jdk_42_method_158_code (3 : Nat) (Option.none : Option Jvm.ClassFile.FieldType)).before args0 about1 = true := code_word (m := ⟨7, 10⟩) (meth := k7m10) (c := k7c10) (by decide +kernel) rfl rfl rfl (by decide +kernel)
set_option maxRecDepth 65536 in
theorem w_c15 : (Jvm.Cond.code ({ cls := "jdk/internal/util/Preconditions", name := "checkFromToIndex", desc := "(IIILjava/util/function/BiFunction;)I" } : Jvm.MethodName) jdk_41_method_12_code (4 : Nat) (Option.some Jvm.ClassFile.FieldType.int)).before args0 about1 = true := code_word (m := ⟨11, 2⟩) (meth := k11m2) (c := k11c2) (by decide +kernel) rfl rfl rfl (by decide +kernel)
set_option maxRecDepth 65536 in
theorem w_c16 : (Jvm.Cond.code ({ cls := "java/lang/String", name := "isLatin1", desc := "()Z" } : Jvm.MethodName) jdk_42_method_154_code (1 : Nat) (Option.some Jvm.ClassFile.FieldType.boolean)).before args0 about1 = true := code_word (m := ⟨7, 8⟩) (meth := k7m8) (c := k7c8) (by decide +kernel) rfl rfl rfl (by decide +kernel)
set_option maxRecDepth 65536 in
theorem w_c17 : (Jvm.Cond.code ({ cls := "java/lang/StringLatin1", name := "newString", desc := "([BII)Ljava/lang/String;" } : Jvm.MethodName) jdk_43_method_47_code (3 : Nat) (Option.some (Jvm.ClassFile.FieldType.object "java/lang/String"))).before args0 about1 = true := code_word (m := ⟨12, 2⟩) (meth := k12m2) (c := k12c2) (by decide +kernel) rfl rfl rfl (by decide +kernel)
set_option maxRecDepth 65536 in
theorem w_c18 : (Jvm.Cond.code ({ cls := "java/util/Arrays", name := "copyOfRange", desc := "([BII)[B" } : Jvm.MethodName) jdk_65_method_132_code (3 : Nat) (Option.some (Jvm.ClassFile.FieldType.array Jvm.ClassFile.FieldType.byte))).before args0 about1 = true := code_word (m := ⟨13, 2⟩) (meth := k13m2) (c := k13c2) (by decide +kernel) rfl rfl rfl (by decide +kernel)
set_option maxRecDepth 65536 in
theorem w_c19 : (Jvm.Cond.code ({ cls := "java/util/Arrays", name := "copyOfRangeByte", desc := "([BII)[B" } : Jvm.MethodName) jdk_65_method_133_code (5 : Nat) (Option.some (Jvm.ClassFile.FieldType.array Jvm.ClassFile.FieldType.byte))).before args0 about1 = true := code_word (m := ⟨13, 3⟩) (meth := k13m3) (c := k13c3) (by decide +kernel) rfl rfl rfl (by decide +kernel)
set_option maxRecDepth 65536 in
theorem w_c20 : (Jvm.Cond.code ({ cls := "java/util/Arrays", name := "checkLength", desc := "(II)V" } : Jvm.MethodName) jdk_65_method_131_code (2 : Nat) (Option.none : Option Jvm.ClassFile.FieldType)).before args0 about1 = true := code_word (m := ⟨13, 1⟩) (meth := k13m1) (c := k13c1) (by decide +kernel) rfl rfl rfl (by decide +kernel)
set_option maxRecDepth 65536 in
theorem w_c21 : (Jvm.Cond.code ({ cls := "java/lang/Math", name := "min", desc := "(II)I" } : Jvm.MethodName) jdk_29_method_69_code (2 : Nat) (Option.some Jvm.ClassFile.FieldType.int)).before args0 about1 = true := code_word (m := ⟨14, 1⟩) (meth := k14m1) (c := k14c1) (by decide +kernel) rfl rfl rfl (by decide +kernel)
set_option maxRecDepth 65536 in
theorem w_c22 : (Jvm.Cond.code ({ cls := "java/lang/String", name := "<init>", desc := "([BB)V" } : Jvm.MethodName) jdk_42_method_151_code (3 : Nat) (Option.none : Option Jvm.ClassFile.FieldType)).before args0 about1 = true := code_word (m := ⟨7, 6⟩) (meth := k7m6) (c := k7c6) (by decide +kernel) rfl rfl rfl (by decide +kernel)
set_option maxRecDepth 65536 in
theorem w_c23 : (Jvm.Cond.code ({ cls := "com/example/staffetta/staffetta/FieldInPinLaw", name := "at", desc := "(Ljava/lang/String;Ljava/lang/String;III)Z" } : Jvm.MethodName) method_3_code (5 : Nat) (Option.some Jvm.ClassFile.FieldType.boolean)).before args0 about1 = true := code_word (m := ⟨1, 2⟩) (meth := k1m2) (c := k1c2) (by decide +kernel) rfl rfl rfl (by decide +kernel)
set_option maxRecDepth 65536 in
theorem w_c24 : (Jvm.Cond.code ({ cls := "java/lang/String", name := "charAt", desc := "(I)C" } : Jvm.MethodName) jdk_42_method_56_code (2 : Nat) (Option.some Jvm.ClassFile.FieldType.char)).before args0 about1 = true := code_word (m := ⟨7, 3⟩) (meth := k7m3) (c := k7c3) (by decide +kernel) rfl rfl rfl (by decide +kernel)
set_option maxRecDepth 65536 in
theorem w_c25 : (Jvm.Cond.code ({ cls := "java/lang/StringLatin1", name := "charAt", desc := "([BI)C" } : Jvm.MethodName) jdk_43_method_2_code (2 : Nat) (Option.some Jvm.ClassFile.FieldType.char)).before args0 about1 = true := code_word (m := ⟨12, 1⟩) (meth := k12m1) (c := k12c1) (by decide +kernel) rfl rfl rfl (by decide +kernel)
set_option maxRecDepth 65536 in
theorem w_c26 : (Jvm.Cond.code ({ cls := "java/lang/String", name := "checkIndex", desc := "(II)V" } : Jvm.MethodName) jdk_42_method_155_code (2 : Nat) (Option.none : Option Jvm.ClassFile.FieldType)).before args0 about1 = true := code_word (m := ⟨7, 9⟩) (meth := k7m9) (c := k7c9) (by decide +kernel) rfl rfl rfl (by decide +kernel)
set_option maxRecDepth 65536 in
theorem w_c27 : (Jvm.Cond.code ({ cls := "jdk/internal/util/Preconditions", name := "checkIndex", desc := "(IILjava/util/function/BiFunction;)I" } : Jvm.MethodName) jdk_41_method_11_code (3 : Nat) (Option.some Jvm.ClassFile.FieldType.int)).before args0 about1 = true := code_word (m := ⟨11, 1⟩) (meth := k11m1) (c := k11c1) (by decide +kernel) rfl rfl rfl (by decide +kernel)
def codes1 : List Jvm.Cond := [Jvm.Cond.code x code maxLocals ret, Jvm.Cond.code ({ cls := "com/example/staffetta/staffetta/FieldInPinLaw", name := "ch", desc := "(JI)C" } : Jvm.MethodName) method_2_code (3 : Nat) (Option.some Jvm.ClassFile.FieldType.char), Jvm.Cond.code ({ cls := "java/lang/String", name := "<init>", desc := "([C)V" } : Jvm.MethodName) jdk_42_method_3_code (2 : Nat) (Option.none : Option Jvm.ClassFile.FieldType), Jvm.Cond.code ({ cls := "java/lang/String", name := "<init>", desc := "([CIILjava/lang/Void;)V" } : Jvm.MethodName) jdk_42_method_149_code (6 : Nat) (Option.none : Option Jvm.ClassFile.FieldType), Jvm.Cond.code ({ cls := "java/lang/Object", name := "<init>", desc := "()V" } : Jvm.MethodName) object_method_1_code (1 : Nat) (Option.none : Option Jvm.ClassFile.FieldType), Jvm.Cond.code ({ cls := "java/lang/StringUTF16", name := "compress", desc := "([CII)[B" } : Jvm.MethodName) jdk_52_method_16_code (6 : Nat) (Option.some (Jvm.ClassFile.FieldType.array Jvm.ClassFile.FieldType.byte)), Jvm.Cond.code ({ cls := "java/lang/StringUTF16", name := "compress", desc := "([CI[BII)I" } : Jvm.MethodName) jdk_52_method_21_code (7 : Nat) (Option.some Jvm.ClassFile.FieldType.int), Jvm.Cond.code ({ cls := "java/lang/StringUTF16", name := "coderFromArrayLen", desc := "([BI)B" } : Jvm.MethodName) jdk_52_method_15_code (2 : Nat) (Option.some Jvm.ClassFile.FieldType.byte), Jvm.Cond.code ({ cls := "com/example/staffetta/staffetta/ArchiveLayout$Field", name := "<init>", desc := "(III)V" } : Jvm.MethodName) prog_9_method_1_code (4 : Nat) (Option.none : Option Jvm.ClassFile.FieldType), Jvm.Cond.code ({ cls := "java/lang/Record", name := "<init>", desc := "()V" } : Jvm.MethodName) jdk_30_method_1_code (1 : Nat) (Option.none : Option Jvm.ClassFile.FieldType), Jvm.Cond.code ({ cls := "com/example/staffetta/staffetta/ArchiveLayout$Field", name := "in", desc := "(Ljava/lang/String;)Ljava/lang/String;" } : Jvm.MethodName) prog_9_method_2_code (2 : Nat) (Option.some (Jvm.ClassFile.FieldType.object "java/lang/String")), Jvm.Cond.code ({ cls := "java/lang/String", name := "substring", desc := "(II)Ljava/lang/String;" } : Jvm.MethodName) jdk_42_method_92_code (5 : Nat) (Option.some (Jvm.ClassFile.FieldType.object "java/lang/String")), Jvm.Cond.code ({ cls := "java/lang/String", name := "length", desc := "()I" } : Jvm.MethodName) jdk_42_method_54_code (1 : Nat) (Option.some Jvm.ClassFile.FieldType.int), Jvm.Cond.code ({ cls := "java/lang/String", name := "coder", desc := "()B" } : Jvm.MethodName) jdk_42_method_152_code (1 : Nat) (Option.some Jvm.ClassFile.FieldType.byte), Jvm.Cond.code ({ cls := "java/lang/String", name := "checkBoundsBeginEnd", desc := "(III)V" } : Jvm.MethodName) jdk_42_method_158_code (3 : Nat) (Option.none : Option Jvm.ClassFile.FieldType), Jvm.Cond.code ({ cls := "jdk/internal/util/Preconditions", name := "checkFromToIndex", desc := "(IIILjava/util/function/BiFunction;)I" } : Jvm.MethodName) jdk_41_method_12_code (4 : Nat) (Option.some Jvm.ClassFile.FieldType.int), Jvm.Cond.code ({ cls := "java/lang/String", name := "isLatin1", desc := "()Z" } : Jvm.MethodName) jdk_42_method_154_code (1 : Nat) (Option.some Jvm.ClassFile.FieldType.boolean), Jvm.Cond.code ({ cls := "java/lang/StringLatin1", name := "newString", desc := "([BII)Ljava/lang/String;" } : Jvm.MethodName) jdk_43_method_47_code (3 : Nat) (Option.some (Jvm.ClassFile.FieldType.object "java/lang/String")), Jvm.Cond.code ({ cls := "java/util/Arrays", name := "copyOfRange", desc := "([BII)[B" } : Jvm.MethodName) jdk_65_method_132_code (3 : Nat) (Option.some (Jvm.ClassFile.FieldType.array Jvm.ClassFile.FieldType.byte)), Jvm.Cond.code ({ cls := "java/util/Arrays", name := "copyOfRangeByte", desc := "([BII)[B" } : Jvm.MethodName) jdk_65_method_133_code (5 : Nat) (Option.some (Jvm.ClassFile.FieldType.array Jvm.ClassFile.FieldType.byte)), Jvm.Cond.code ({ cls := "java/util/Arrays", name := "checkLength", desc := "(II)V" } : Jvm.MethodName) jdk_65_method_131_code (2 : Nat) (Option.none : Option Jvm.ClassFile.FieldType), Jvm.Cond.code ({ cls := "java/lang/Math", name := "min", desc := "(II)I" } : Jvm.MethodName) jdk_29_method_69_code (2 : Nat) (Option.some Jvm.ClassFile.FieldType.int), Jvm.Cond.code ({ cls := "java/lang/String", name := "<init>", desc := "([BB)V" } : Jvm.MethodName) jdk_42_method_151_code (3 : Nat) (Option.none : Option Jvm.ClassFile.FieldType), Jvm.Cond.code ({ cls := "com/example/staffetta/staffetta/FieldInPinLaw", name := "at", desc := "(Ljava/lang/String;Ljava/lang/String;III)Z" } : Jvm.MethodName) method_3_code (5 : Nat) (Option.some Jvm.ClassFile.FieldType.boolean), Jvm.Cond.code ({ cls := "java/lang/String", name := "charAt", desc := "(I)C" } : Jvm.MethodName) jdk_42_method_56_code (2 : Nat) (Option.some Jvm.ClassFile.FieldType.char), Jvm.Cond.code ({ cls := "java/lang/StringLatin1", name := "charAt", desc := "([BI)C" } : Jvm.MethodName) jdk_43_method_2_code (2 : Nat) (Option.some Jvm.ClassFile.FieldType.char), Jvm.Cond.code ({ cls := "java/lang/String", name := "checkIndex", desc := "(II)V" } : Jvm.MethodName) jdk_42_method_155_code (2 : Nat) (Option.none : Option Jvm.ClassFile.FieldType), Jvm.Cond.code ({ cls := "jdk/internal/util/Preconditions", name := "checkIndex", desc := "(IILjava/util/function/BiFunction;)I" } : Jvm.MethodName) jdk_41_method_11_code (3 : Nat) (Option.some Jvm.ClassFile.FieldType.int)]
set_option maxRecDepth 65536 in
theorem codes_eq : words1.filter isCode = codes1 := rfl
theorem w_codes : ∀ c ∈ words1.filter isCode, c.before args0 about1 = true := by
  rw [codes_eq]
  intro c hc
  simp only [codes1, List.mem_cons, List.not_mem_nil, or_false] at hc
  rcases hc with rfl | rfl | rfl | rfl | rfl | rfl | rfl | rfl | rfl | rfl | rfl | rfl | rfl | rfl | rfl | rfl | rfl | rfl | rfl | rfl | rfl | rfl | rfl | rfl | rfl | rfl | rfl | rfl
  · exact w_c0
  · exact w_c1
  · exact w_c2
  · exact w_c3
  · exact w_c4
  · exact w_c5
  · exact w_c6
  · exact w_c7
  · exact w_c8
  · exact w_c9
  · exact w_c10
  · exact w_c11
  · exact w_c12
  · exact w_c13
  · exact w_c14
  · exact w_c15
  · exact w_c16
  · exact w_c17
  · exact w_c18
  · exact w_c19
  · exact w_c20
  · exact w_c21
  · exact w_c22
  · exact w_c23
  · exact w_c24
  · exact w_c25
  · exact w_c26
  · exact w_c27
set_option maxRecDepth 65536 in
theorem w_t1 : (words1.take 24).all (fun c => isCode c || c.before args0 about1) = true := by decide +kernel
set_option maxRecDepth 65536 in
theorem w_t2 : ((words1.drop 24).take 24).all (fun c => isCode c || c.before args0 about1) = true := by decide +kernel
set_option maxRecDepth 65536 in
theorem w_t3 : (((words1.drop 24).drop 24).take 24).all (fun c => isCode c || c.before args0 about1) = true := by decide +kernel
set_option maxRecDepth 65536 in
theorem w_t4 : ((((words1.drop 24).drop 24).drop 24).take 24).all (fun c => isCode c || c.before args0 about1) = true := by decide +kernel
set_option maxRecDepth 65536 in
theorem w_t5 : (((((words1.drop 24).drop 24).drop 24).drop 24).take 24).all (fun c => isCode c || c.before args0 about1) = true := by decide +kernel
set_option maxRecDepth 65536 in
theorem w_t6 : (((((words1.drop 24).drop 24).drop 24).drop 24).drop 24).all (fun c => isCode c || c.before args0 about1) = true := by decide +kernel
theorem w_tables : (allAtoms (Jvm.Cond.code x code maxLocals ret :: tables_1)).before args0 about1 = true := by
  rw [allAtoms_all]
  show words1.all (fun c => c.before args0 about1) = true
  refine all_split ?_ w_codes
  rw [← List.take_append_drop 24 words1, List.all_append, w_t1, ← List.take_append_drop 24 (words1.drop 24), List.all_append, w_t2, ← List.take_append_drop 24 ((words1.drop 24).drop 24), List.all_append, w_t3, ← List.take_append_drop 24 (((words1.drop 24).drop 24).drop 24), List.all_append, w_t4, ← List.take_append_drop 24 ((((words1.drop 24).drop 24).drop 24).drop 24), List.all_append, w_t5, w_t6]
  rfl
set_option maxRecDepth 65536 in
theorem w_rest : rest_1_c.before args0 about1 = true := by decide +kernel
set_option maxRecDepth 65536 in
theorem w_case : (Jvm.Cond.and given_1 narrow_1).before args0 about1 = true := by decide +kernel
theorem w_applies : (headSpec (Jvm.Cond.code x code maxLocals ret :: tables_1) room_1).applies x e0.platform about1 = true :=
  (Spec.applies_iff w_frames).mpr ⟨w_running, w_runnable, w_alone, w_named, w_hears, w_ripe, w_room, w_tables⟩
theorem atStart : AtStart classFile x code maxLocals ret World_1 tables_1 room_1 Calls_1 rest_1 Pre_1 launch0 p0 e0 about1 theMethod args0 below0 :=
  ⟨lists_1, trivial, launch0.admits_env _ _ _, launch0.least_env, fairChoices_fair.cas, fairChoices_fair.clock, w_frames, w_args, w_heap, w_applies, trivial, w_rest, w_case⟩
end start1
theorem witness_1 : WitnessClaimed_1 := ⟨start1.p0, start1.e0, start1.about1, start1.theMethod, start1.args0, start1.below0, start1.atStart⟩
end Jvm.Pilot.@@N@@
