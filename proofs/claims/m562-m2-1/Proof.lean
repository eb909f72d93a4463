import JvmDerived
import JvmDerived.Pilot.@@N@@Statement
import JvmDerived.Pilot.@@N@@Code
set_option linter.unusedVariables false
set_option linter.unusedSimpArgs false
/- laws to paste: Road.backV, Road.codOf, Road.lenW, Road.chN, Road.empW (cut by pick.py; bodies as the Statement names them) -/
namespace Jvm.Pilot.@@N@@
namespace StrChars
open Jvm Sem ClassFile Op Lib Jvm.Stand Jvm.Free.XT Jvm.Free.ALB Jvm.Free.JM Jvm.Free
open Jvm.Lib.Cold (StaticIs)
/-- a char array whose places are chars -/
def Ch (a : Addr) (A : Cell) (U : State) : Prop := Arr .char a A U ∧ Typed .char A
theorem Ch.mv {a : Addr} {A : Cell} {U U' : State} (h : Ch a A U) (hal : U.vm.Alike U'.vm) (hh : U'.heap = U.heap) : Ch a A U' := ⟨h.1.mv hal hh, h.2⟩
theorem Ch.keep {a : Addr} {A : Cell} {U U' : State} (h : Ch a A U) (hal : U.vm.Alike U'.vm) (hk : U'.heap[a]? = some A) : Ch a A U' := ⟨h.1.keep hal hk, h.2⟩
/-- what place i of a char[]'s cell holds -/
def cv (A : Cell) (i : Nat) : Int32 := match A.slots[i]? with | some (.int x) => x | _ => 0
theorem Ch.get {a : Addr} {A : Cell} {U : State} (h : Ch a A U) {i : Nat} (hi : i < A.slots.size) : A.slots[i]? = some (.int (cv A i)) := by
  have e := Array.getElem?_eq_getElem hi
  have f := h.2 i _ e
  unfold cv; rw [e]
  generalize A.slots[i] = v at f
  cases v <;> simp [fits] at f ⊢
/-- the byte that i2b leaves of a char -/
def lo8 (x : Int32) : Int32 := x.toInt8.toInt32
theorem fits_lo8 (y : Int32) : fits .byte (.int (lo8 y)) = true := by
  have h1 := y.toInt8.le_toInt
  have h2 := y.toInt8.toInt_lt
  simp only [lo8, fits, Bool.and_eq_true, decide_eq_true_eq, Int32.le_iff_toInt_le, Int8.toInt_toInt32, show (-128 : Int32).toInt = -128 from by decide, show (127 : Int32).toInt = 127 from by decide]
  omega
/-- A' is A but that each place j of lo .. hi - 1 holds f j -/
def Laid (A A' : Cell) (lo hi : Nat) (f : Nat → Value) : Prop := A'.cls = A.cls ∧ A'.vm = A.vm ∧ A'.slots.size = A.slots.size ∧ ∀ i, A'.slots[i]? = if lo ≤ i ∧ i < hi then some (f i) else A.slots[i]?
theorem Laid.zero (A : Cell) (lo : Nat) (f : Nat → Value) : Laid A A lo (lo + 0) f := ⟨rfl, rfl, rfl, fun i => by rw [if_neg (by omega)]⟩
theorem Laid.step {A Ak : Cell} {lo k : Nat} {f : Nat → Value} {v : Value} (h : Laid A Ak lo k f) (hlo : lo ≤ k) (hk : k < Ak.slots.size) (hv : v = f k) : Laid A (Ak.setSlot k v) lo (k + 1) f := by
  refine ⟨h.1, h.2.1, by simpa [Cell.setSlot] using h.2.2.1, fun i => ?_⟩
  by_cases e : k = i
  · subst e; rw [Cell.slots_setSlot_self v hk, if_pos (by omega), hv]
  · rw [Cell.slots_setSlot_ne v e, h.2.2.2 i]
    by_cases q : lo ≤ i ∧ i < k
    · rw [if_pos q, if_pos (by omega)]
    · rw [if_neg q, if_neg (by omega)]
def U16 : String := "java/lang/StringUTF16"
namespace Cmp5
def yN : MethodName := ⟨"java/lang/StringUTF16", "compress", "([CI[BII)I"⟩
abbrev yB : ByteArray := jdk_52_method_21_code
theorem d0 : decode yB 0 = .ok (.iconst 0, 1) := by decide +kernel
theorem d1 : decode yB 1 = .ok (.istore 5, 2) := by decide +kernel
theorem d3 : decode yB 3 = .ok (.iload 5, 2) := by decide +kernel
theorem d5 : decode yB 5 = .ok (.iload 4, 2) := by decide +kernel
theorem d7 : decode yB 7 = .ok (.if_icmp (.ge) 37, 3) := by decide +kernel
theorem d10 : decode yB 10 = .ok (.aload_n 0, 1) := by decide +kernel
theorem d11 : decode yB 11 = .ok (.iload_n 1, 1) := by decide +kernel
theorem d12 : decode yB 12 = .ok (.caload, 1) := by decide +kernel
theorem d13 : decode yB 13 = .ok (.istore 6, 2) := by decide +kernel
theorem d15 : decode yB 15 = .ok (.iload 6, 2) := by decide +kernel
theorem d17 : decode yB 17 = .ok (.sipush 255, 3) := by decide +kernel
theorem d20 : decode yB 20 = .ok (.if_icmp (.le) 6, 3) := by decide +kernel
theorem d26 : decode yB 26 = .ok (.aload_n 2, 1) := by decide +kernel
theorem d27 : decode yB 27 = .ok (.iload_n 3, 1) := by decide +kernel
theorem d28 : decode yB 28 = .ok (.iload 6, 2) := by decide +kernel
theorem d30 : decode yB 30 = .ok (.i2b, 1) := by decide +kernel
theorem d31 : decode yB 31 = .ok (.bastore, 1) := by decide +kernel
theorem d32 : decode yB 32 = .ok (.iinc 1 1, 3) := by decide +kernel
theorem d35 : decode yB 35 = .ok (.iinc 3 1, 3) := by decide +kernel
theorem d38 : decode yB 38 = .ok (.iinc 5 1, 3) := by decide +kernel
theorem d41 : decode yB 41 = .ok (.goto (-38), 3) := by decide +kernel
theorem d44 : decode yB 44 = .ok (.iload 4, 2) := by decide +kernel
theorem d46 : decode yB 46 = .ok (.ireturn, 1) := by decide +kernel
def site : List Cond := []
def tab : Cond := tabOf yN yB 7 (some .int) site
def P (b : Addr) (A : Cell) (d : Addr) (B : Cell) (o q len : Nat) (args : Array Value) (s : State) : Prop := args = #[.ref b, .int (Int32.ofNat o), .ref d, .int (Int32.ofNat q), .int (Int32.ofNat len)] ∧ Ch b A s ∧ Arr .byte d B s ∧ b ≠ d ∧ o + len ≤ A.slots.size ∧ q + len ≤ B.slots.size ∧ ∀ i, i < len → ¬ 255 < cv A (o + i)
def E (b : Addr) (A : Cell) (d : Addr) (B : Cell) (o q len : Nat) (r : Option Value) (s u : State) : Prop := r = some (.int (Int32.ofNat len)) ∧ ∃ B', Put d B' s u ∧ Laid B B' q (q + len) (fun j => Value.int (lo8 (cv A (o + (j - q)))))
/-- no char of the range above 255: len; the places written hold each char's low byte -/
theorem law (l : Launch) (b : Addr) (A : Cell) (d : Addr) (B : Cell) (o q len : Nat) : Law l yN 5 5 0 0 yB 7 (some .int) site (P b A d B o q len) (E b A d B o q len) (copyLocs d q len) 0 0 := by
  refine Law.of_walk (plainFor_of_name (by decide +kernel)) (by decide +kernel) (by decide +kernel) (by decide) (fun _ _ h => by rw [h.1]; rfl) (fun _ U U' hal hh h => ⟨h.1, h.2.1.mv hal hh, h.2.2.1.mv hal hh, h.2.2.2⟩) (fun r U U' V V' h1 hal h2 h => ⟨h.1, h.2.elim fun B' q => ⟨B', q.1.mv h1 h2, q.2⟩⟩) ?_
  intro p e s m args below meth c s₁ X0 hexec hbytes hml hret hlk hnm hown hh0 W hP
  obtain ⟨rfl, hA, hB, hne, l1, l2, hp⟩ := hP
  have c1 : Steps p.tables e below (s₁.setTop (entryFrame m #[.ref b, .int (Int32.ofNat o), .ref d, .int (Int32.ofNat q), .int (Int32.ofNat len)] 7)) (s₁.setTop (mkF m 0 #[.val (.ref b), .val (.int (Int32.ofNat o)), .val (.ref d), .val (.int (Int32.ofNat q)), .val (.int (Int32.ofNat len)), .unset, .unset] [])) := entry rfl
  have hA0 := hA.1.mv X0.warmed.alike hh0
  have hB0 := hB.mv X0.warmed.alike hh0
  have a31 := hA.1.2.2.2
  have c2 : Steps p.tables e below (s₁.setTop (entryFrame m #[.ref b, .int (Int32.ofNat o), .ref d, .int (Int32.ofNat q), .int (Int32.ofNat len)] 7)) (s₁.setTop (mkF m 3 #[.val (.ref b), .val (.int (Int32.ofNat o)), .val (.ref d), .val (.int (Int32.ofNat q)), .val (.int (Int32.ofNat len)), .val (.int 0), .unset] [])) := c1.trans (by
    refine iconstV X0.here hexec rfl 0 (hb hbytes d0) (by decide) ?_
    refine XS.istore X0.here hexec rfl (hb hbytes d1) rfl rfl ?_
    exact Steps.refl _)
  have loop : ∀ (r i : Nat), i + r = len → ∀ (z : Slot), (z = .unset ∨ ∃ w, z = .val w ∧ w.category = 1) → ∀ (Tl : State) (Bk : Cell), Stand p l e { frames := 0, locals := 0, cells := 0, slots := 0 } s m #[.ref b, .int (Int32.ofNat o), .ref d, .int (Int32.ofNat q), .int (Int32.ofNat len)] below meth c Tl ([] ++ copyLocs d q i) 0 0 → Put d Bk s₁ Tl → Laid B Bk q (q + i) (fun j => Value.int (lo8 (cv A (o + (j - q))))) →
      Steps p.tables e below (s₁.setTop (entryFrame m #[.ref b, .int (Int32.ofNat o), .ref d, .int (Int32.ofNat q), .int (Int32.ofNat len)] 7)) (Tl.setTop (mkF m 3 #[.val (.ref b), .val (.int (Int32.ofNat (o + i))), .val (.ref d), .val (.int (Int32.ofNat (q + i))), .val (.int (Int32.ofNat len)), .val (.int (Int32.ofNat i)), z] [])) → ∃ (T' : State) (B' : Cell) (z' : Slot), Stand p l e { frames := 0, locals := 0, cells := 0, slots := 0 } s m #[.ref b, .int (Int32.ofNat o), .ref d, .int (Int32.ofNat q), .int (Int32.ofNat len)] below meth c T' ([] ++ copyLocs d q len) 0 0 ∧ Put d B' s₁ T' ∧ Laid B B' q (q + len) (fun j => Value.int (lo8 (cv A (o + (j - q))))) ∧
      Steps p.tables e below (s₁.setTop (entryFrame m #[.ref b, .int (Int32.ofNat o), .ref d, .int (Int32.ofNat q), .int (Int32.ofNat len)] 7)) (T'.setTop (mkF m 3 #[.val (.ref b), .val (.int (Int32.ofNat (o + len))), .val (.ref d), .val (.int (Int32.ofNat (q + len))), .val (.int (Int32.ofNat len)), .val (.int (Int32.ofNat len)), z'] [])) := by
    intro r
    induction r with
    | zero =>
      intro i hi z hz Tl Bk Xl pl fl cl
      have hil : i = len := by omega
      rw [hil] at Xl fl cl
      exact ⟨Tl, Bk, z, Xl, pl, fl, cl⟩
    | succ r ih =>
      intro i hi z hz Tl Bk Xl pl fl cl
      have all := X0.warmed.alike.symm.trans Xl.warmed.alike
      have hAl := hA0.keep all (pl.other hne hA0.1)
      have hBk := hB0.like all pl.1 fl.1 fl.2.1 fl.2.2.1
      have hlt : q + i < Bk.slots.size := by rw [fl.2.2.1]; omega
      have c3 : Steps p.tables e below (s₁.setTop (entryFrame m #[.ref b, .int (Int32.ofNat o), .ref d, .int (Int32.ofNat q), .int (Int32.ofNat len)] 7)) (Tl.setTop (mkF m 12 #[.val (.ref b), .val (.int (Int32.ofNat (o + i))), .val (.ref d), .val (.int (Int32.ofNat (q + i))), .val (.int (Int32.ofNat len)), .val (.int (Int32.ofNat i)), z] [.int (Int32.ofNat (o + i)), .ref b])) := cl.trans (by
        refine XS.iload Xl.here hexec rfl (hb hbytes d3) rfl ?_
        refine XS.iload Xl.here hexec rfl (hb hbytes d5) rfl ?_
        refine XS.icmpNo Xl.here hexec rfl (hb hbytes d7) rfl (ii_ge_f (lt32 (by omega) (by omega))) ?_
        refine XS.aloadN Xl.here hexec rfl (hb hbytes d10) rfl rfl ?_
        refine XS.iloadN Xl.here hexec rfl (hb hbytes d11) rfl ?_
        exact Steps.refl _)
      have c4 : Steps p.tables e below (s₁.setTop (entryFrame m #[.ref b, .int (Int32.ofNat o), .ref d, .int (Int32.ofNat q), .int (Int32.ofNat len)] 7)) (Tl.setTop (mkF m 13 #[.val (.ref b), .val (.int (Int32.ofNat (o + i))), .val (.ref d), .val (.int (Int32.ofNat (q + i))), .val (.int (Int32.ofNat len)), .val (.int (Int32.ofNat i)), z] [.int (cv A (o + i))])) := c3.trans (by
        refine Xl.aget hexec hAl rfl (hA.get (i := o + i) (by omega)) rfl rfl (hb hbytes d12) ?_
        exact Steps.refl _)
      have c5 : Steps p.tables e below (s₁.setTop (entryFrame m #[.ref b, .int (Int32.ofNat o), .ref d, .int (Int32.ofNat q), .int (Int32.ofNat len)] 7)) (Tl.setTop (mkF m 15 #[.val (.ref b), .val (.int (Int32.ofNat (o + i))), .val (.ref d), .val (.int (Int32.ofNat (q + i))), .val (.int (Int32.ofNat len)), .val (.int (Int32.ofNat i)), .val (.int (cv A (o + i)))] [])) := c4.trans (by
        refine XS.istoreS Xl.here hexec rfl (hb hbytes d13) rfl rfl hz ?_
        exact Steps.refl _)
      have c6 : Steps p.tables e below (s₁.setTop (entryFrame m #[.ref b, .int (Int32.ofNat o), .ref d, .int (Int32.ofNat q), .int (Int32.ofNat len)] 7)) (Tl.setTop (mkF m 31 #[.val (.ref b), .val (.int (Int32.ofNat (o + i))), .val (.ref d), .val (.int (Int32.ofNat (q + i))), .val (.int (Int32.ofNat len)), .val (.int (Int32.ofNat i)), .val (.int (cv A (o + i)))] [.int (lo8 (cv A (o + i))), .int (Int32.ofNat (q + i)), .ref d])) := c5.trans (by
        refine XS.iload Xl.here hexec rfl (hb hbytes d15) rfl ?_
        refine sipushV Xl.here hexec rfl 255 (hb hbytes d17) (by decide) ?_
        refine XS.icmpYes Xl.here hexec rfl (pc0 := 20) rfl (hb hbytes d20) rfl (ii_le_t (hp i (by omega))) (by decide) rfl ?_
        refine XS.aloadN Xl.here hexec rfl (hb hbytes d26) rfl rfl ?_
        refine XS.iloadN Xl.here hexec rfl (hb hbytes d27) rfl ?_
        refine XS.iload Xl.here hexec rfl (hb hbytes d28) rfl ?_
        refine i2b Xl.here hexec rfl (hb hbytes d30) rfl ?_
        exact Steps.refl _)
      obtain ⟨T7, X7, p7, st7⟩ := Xl.aput hexec hBk rfl hlt rfl (fits_lo8 (cv A (o + i))) (g := (mkF m 31 #[.val (.ref b), .val (.int (Int32.ofNat (o + i))), .val (.ref d), .val (.int (Int32.ofNat (q + i))), .val (.int (Int32.ofNat len)), .val (.int (Int32.ofNat i)), .val (.int (cv A (o + i)))] [.int (lo8 (cv A (o + i))), .int (Int32.ofNat (q + i)), .ref d])) rfl (rest := []) rfl (hb hbytes d31)
      have c8 : Steps p.tables e below (s₁.setTop (entryFrame m #[.ref b, .int (Int32.ofNat o), .ref d, .int (Int32.ofNat q), .int (Int32.ofNat len)] 7)) (T7.setTop (mkF m 32 #[.val (.ref b), .val (.int (Int32.ofNat (o + i))), .val (.ref d), .val (.int (Int32.ofNat (q + i))), .val (.int (Int32.ofNat len)), .val (.int (Int32.ofNat i)), .val (.int (cv A (o + i)))] [])) := c6.trans (st7 _ (Steps.refl _))
      have c9 : Steps p.tables e below (s₁.setTop (entryFrame m #[.ref b, .int (Int32.ofNat o), .ref d, .int (Int32.ofNat q), .int (Int32.ofNat len)] 7)) (T7.setTop (mkF m 3 #[.val (.ref b), .val (.int (Int32.ofNat (o + i) + 1)), .val (.ref d), .val (.int (Int32.ofNat (q + i) + 1)), .val (.int (Int32.ofNat len)), .val (.int (Int32.ofNat i + 1)), .val (.int (cv A (o + i)))] [])) := c8.trans (by
        refine iincV X7.here hexec rfl 1 (hb hbytes d32) (by decide) rfl rfl ?_
        refine iincV X7.here hexec rfl 1 (hb hbytes d35) (by decide) rfl rfl ?_
        refine iincV X7.here hexec rfl 1 (hb hbytes d38) (by decide) rfl rfl ?_
        refine XS.goto X7.here hexec rfl (pc0 := 41) rfl (hb hbytes d41) (by decide) rfl ?_
        exact Steps.refl _)
      have c10 : Steps p.tables e below (s₁.setTop (entryFrame m #[.ref b, .int (Int32.ofNat o), .ref d, .int (Int32.ofNat q), .int (Int32.ofNat len)] 7)) (T7.setTop (mkF m 3 #[.val (.ref b), .val (.int (Int32.ofNat (o + (i + 1)))), .val (.ref d), .val (.int (Int32.ofNat (q + (i + 1)))), .val (.int (Int32.ofNat len)), .val (.int (Int32.ofNat (i + 1))), .val (.int (cv A (o + i)))] [])) := by
        have := c9
        rw [succ32, succ32, succ32] at this
        exact this
      exact ih (i + 1) (by omega) _ (Or.inr ⟨_, rfl, rfl⟩) T7 _ (by rw [copyLocs_step, ← List.append_assoc]; exact X7) (pl.trans p7) (fl.step (by omega) hlt (by simp)) c10
  obtain ⟨T9, B9, z9, X9, p9, f9, g9⟩ := loop len 0 (by omega) .unset (Or.inl rfl) s₁ B (by simpa [copyLocs] using X0) ⟨hB0.1, fun _ _ => rfl, rfl⟩ (Laid.zero _ _ _) c2
  have c11 : Steps p.tables e below (s₁.setTop (entryFrame m #[.ref b, .int (Int32.ofNat o), .ref d, .int (Int32.ofNat q), .int (Int32.ofNat len)] 7)) (T9.setTop (mkF m 46 #[.val (.ref b), .val (.int (Int32.ofNat (o + len))), .val (.ref d), .val (.int (Int32.ofNat (q + len))), .val (.int (Int32.ofNat len)), .val (.int (Int32.ofNat len)), z9] [.int (Int32.ofNat len)])) := g9.trans (by
    refine XS.iload X9.here hexec rfl (hb hbytes d3) rfl ?_
    refine XS.iload X9.here hexec rfl (hb hbytes d5) rfl ?_
    refine XS.icmpYes X9.here hexec rfl (pc0 := 7) rfl (hb hbytes d7) rfl (ii_ge_t (nlt32 (by omega) (Nat.le_refl _))) (by decide) rfl ?_
    refine XS.iload X9.here hexec rfl (hb hbytes d44) rfl ?_
    exact Steps.refl _)
  exact ⟨T9, some (.int (Int32.ofNat len)), _, _, _, X9, by simp, rfl, rfl, (fun h => by cases h), ⟨rfl, B9, p9.from hh0, f9⟩, fun fs hl => c11.trans (X9.ireturnOut hexec hret rfl (Or.inl rfl) (hb hbytes d46) hl)⟩
end Cmp5
namespace Cmp3
def yN : MethodName := ⟨"java/lang/StringUTF16", "compress", "([CII)[B"⟩
abbrev yB : ByteArray := jdk_52_method_16_code
theorem d0 : decode yB 0 = .ok (.iload_n 2, 1) := by decide +kernel
theorem d1 : decode yB 1 = .ok (.newarray .byte, 2) := by decide +kernel
theorem d3 : decode yB 3 = .ok (.astore_n 3, 1) := by decide +kernel
theorem d4 : decode yB 4 = .ok (.aload_n 0, 1) := by decide +kernel
theorem d5 : decode yB 5 = .ok (.iload_n 1, 1) := by decide +kernel
theorem d6 : decode yB 6 = .ok (.aload_n 3, 1) := by decide +kernel
theorem d7 : decode yB 7 = .ok (.iconst 0, 1) := by decide +kernel
theorem d8 : decode yB 8 = .ok (.iload_n 2, 1) := by decide +kernel
theorem d9 : decode yB 9 = .ok (.invokestatic 115, 3) := by decide +kernel
theorem d12 : decode yB 12 = .ok (.istore 4, 2) := by decide +kernel
theorem d14 : decode yB 14 = .ok (.iload 4, 2) := by decide +kernel
theorem d16 : decode yB 16 = .ok (.iload_n 2, 1) := by decide +kernel
theorem d17 : decode yB 17 = .ok (.if_icmp (.eq) 40, 3) := by decide +kernel
theorem d57 : decode yB 57 = .ok (.aload_n 3, 1) := by decide +kernel
theorem d58 : decode yB 58 = .ok (.areturn, 1) := by decide +kernel
def site : List Cond := [.arrayClass .byte, Cmp5.tab] ++ staticW U16 115 Cmp5.yN
def tab : Cond := tabOf yN yB 6 (some (.array .byte)) site
def P (b : Addr) (A : Cell) (o len : Nat) (args : Array Value) (s : State) : Prop := args = #[.ref b, .int (Int32.ofNat o), .int (Int32.ofNat len)] ∧ Ch b A s ∧ o + len ≤ A.slots.size ∧ len ≤ 536870912 ∧ ∀ i, i < len → ¬ 255 < cv A (o + i)
def E (b : Addr) (A : Cell) (o len : Nat) (r : Option Value) (s u : State) : Prop := NewArr .byte "[B" len (fun j => .int (lo8 (cv A (o + j)))) r s u ∧ u.heap.size = s.heap.size + 1
/-- no char of the range above 255: a new byte[] of their low bytes -/
theorem law (l : Launch) (b : Addr) (A : Cell) (o len : Nat) : Law l yN 3 3 1 18 yB 6 (some (.array .byte)) site (P b A o len) (E b A o len) [] 1 len := by
  refine Law.of_walk (plainFor_of_name (by decide +kernel)) (by decide +kernel) (by decide +kernel) (by decide) (fun _ _ h => by rw [h.1]; rfl) (fun _ U U' hal hh h => ⟨h.1, h.2.1.mv hal hh, h.2.2⟩) (fun r U U' V V' h1 hal h2 h => ⟨NewArr.mv r U U' V V' h1 hal h2 h.1, by rw [h1, h2]; exact h.2⟩) ?_
  intro p e s m args below meth c s₁ X0 hexec hbytes hml hret hlk hnm hown hh0 W hP
  obtain ⟨rfl, hA, l1, l2, hp⟩ := hP
  have a31 := hA.1.2.2.2
  have c1 : Steps p.tables e below (s₁.setTop (entryFrame m #[.ref b, .int (Int32.ofNat o), .int (Int32.ofNat len)] 6)) (s₁.setTop (mkF m 0 #[.val (.ref b), .val (.int (Int32.ofNat o)), .val (.int (Int32.ofNat len)), .unset, .unset, .unset] [])) := entry rfl
  have c2 : Steps p.tables e below (s₁.setTop (entryFrame m #[.ref b, .int (Int32.ofNat o), .int (Int32.ofNat len)] 6)) (s₁.setTop (mkF m 1 #[.val (.ref b), .val (.int (Int32.ofNat o)), .val (.int (Int32.ofNat len)), .unset, .unset, .unset] [.int (Int32.ofNat len)])) := c1.trans (by
    refine XS.iloadN X0.here hexec rfl (hb hbytes d0) rfl ?_
    exact Steps.refl _)
  obtain ⟨T3, B3, X3, ba3, bs3, bv3, bh3, bf3, st3⟩ := X0.anew hexec (atype := .byte) (wk W (.arrayClass .byte)) rfl (by show len * 1 ≤ _; omega) (by omega) (g := (mkF m 1 #[.val (.ref b), .val (.int (Int32.ofNat o)), .val (.int (Int32.ofNat len)), .unset, .unset, .unset] [.int (Int32.ofNat len)])) rfl (hb hbytes d1) (rest := []) rfl (Nat.le_refl _) (by show 0 + len ≤ len; omega)
  rw [hh0] at ba3 st3
  have kp3 : XT.Kept s T3 := (XT.Kept.of_eq hh0).push bh3
  have hA3 := hA.keep X3.warmed.alike (kp3 _ _ hA.1.1)
  have hne : b ≠ s.heap.size := hA.1.ne
  have c4 : Steps p.tables e below (s₁.setTop (entryFrame m #[.ref b, .int (Int32.ofNat o), .int (Int32.ofNat len)] 6)) (T3.setTop (mkF m 3 #[.val (.ref b), .val (.int (Int32.ofNat o)), .val (.int (Int32.ofNat len)), .unset, .unset, .unset] [.ref s.heap.size])) := c2.trans (st3 _ (Steps.refl _))
  have c5 : Steps p.tables e below (s₁.setTop (entryFrame m #[.ref b, .int (Int32.ofNat o), .int (Int32.ofNat len)] 6)) (T3.setTop (mkF m 9 #[.val (.ref b), .val (.int (Int32.ofNat o)), .val (.int (Int32.ofNat len)), .val (.ref s.heap.size), .unset, .unset] [.int (Int32.ofNat len), .int 0, .ref s.heap.size, .int (Int32.ofNat o), .ref b])) := c4.trans (by
    refine XS.astoreN X3.here hexec rfl (hb hbytes d3) rfl rfl rfl ?_
    refine XS.aloadN X3.here hexec rfl (hb hbytes d4) rfl rfl ?_
    refine XS.iloadN X3.here hexec rfl (hb hbytes d5) rfl ?_
    refine XS.aloadN X3.here hexec rfl (hb hbytes d6) rfl rfl ?_
    refine iconstV X3.here hexec rfl 0 (hb hbytes d7) (by decide) ?_
    refine XS.iloadN X3.here hexec rfl (hb hbytes d8) rfl ?_
    exact Steps.refl _)
  obtain ⟨v6, T6, X6, E6, g6⟩ := X3.callS hexec (Cmp5.law l b A s.heap.size B3 o 0 len) hown (wks W (staticW U16 115 Cmp5.yN)) (wk W Cmp5.tab) (W := 0) (Nat.le_of_ble_eq_true rfl) (Nat.le_of_ble_eq_true rfl) (Nat.le_refl _) (by show 0 + len + 0 ≤ len; omega) (g := (mkF m 9 #[.val (.ref b), .val (.int (Int32.ofNat o)), .val (.int (Int32.ofNat len)), .val (.ref s.heap.size), .unset, .unset] [.int (Int32.ofNat len), .int (Int32.ofNat 0), .ref s.heap.size, .int (Int32.ofNat o), .ref b])) rfl (by rw [hml]; rfl) c5 (argsL := [.ref b, .int (Int32.ofNat o), .ref s.heap.size, .int (Int32.ofNat 0), .int (Int32.ofNat len)]) (rest := []) rfl rfl (by show 2 * 0 + 0 ≤ _; decide) (hb hbytes d9) (⟨rfl, hA3, ba3, hne, l1, by rw [bs3]; simp, hp⟩)
  obtain ⟨rfl, B6, p6, f6⟩ := E6
  have c7 : Steps p.tables e below (s₁.setTop (entryFrame m #[.ref b, .int (Int32.ofNat o), .int (Int32.ofNat len)] 6)) (T6.setTop (mkF m 12 #[.val (.ref b), .val (.int (Int32.ofNat o)), .val (.int (Int32.ofNat len)), .val (.ref s.heap.size), .unset, .unset] [.int (Int32.ofNat len)])) := g6
  have c8 : Steps p.tables e below (s₁.setTop (entryFrame m #[.ref b, .int (Int32.ofNat o), .int (Int32.ofNat len)] 6)) (T6.setTop (mkF m 58 #[.val (.ref b), .val (.int (Int32.ofNat o)), .val (.int (Int32.ofNat len)), .val (.ref s.heap.size), .val (.int (Int32.ofNat len)), .unset] [.ref s.heap.size])) := c7.trans (by
    refine XS.istore X6.here hexec rfl (hb hbytes d12) rfl rfl ?_
    refine XS.iload X6.here hexec rfl (hb hbytes d14) rfl ?_
    refine XS.iloadN X6.here hexec rfl (hb hbytes d16) rfl ?_
    refine XS.icmpYes X6.here hexec rfl (pc0 := 17) rfl (hb hbytes d17) rfl (ii_eq_t rfl) (by decide) rfl ?_
    refine XS.aloadN X6.here hexec rfl (hb hbytes d57) rfl rfl ?_
    exact Steps.refl _)
  have X8 := X6.wide (L' := []) (cells' := 1) (slots' := len) (fun x hx hlt => by
    simp only [List.nil_append, copyLocs, List.mem_map, List.mem_range] at hx
    obtain ⟨i, -, rfl⟩ := hx
    exact absurd hlt (Nat.lt_irrefl _)) (Nat.le_refl _) (by omega)
  exact ⟨T6, some (.ref s.heap.size), _, _, _, X8, rfl, rfl, rfl, (fun h => by cases h), ⟨⟨rfl, B6, ba3.like (X3.warmed.alike.symm.trans X6.warmed.alike) p6.1 f6.1 f6.2.1 f6.2.2.1, f6.2.1.trans bv3, by rw [X6.warmed.alike.findClass, f6.1]; exact bf3, by rw [f6.2.2.1, bs3]; simp, fun j hj => by rw [f6.2.2.2 j, if_pos (by omega)]; rfl, kp3.put p6 (Nat.le_refl _)⟩, by rw [p6.2.2, bh3, hh0]; simp⟩, fun fs hl => c8.trans (X8.areturnOut hexec rfl hret rfl (hb hbytes d58) hl)⟩
end Cmp3
namespace CodL
def yN : MethodName := ⟨"java/lang/StringUTF16", "coderFromArrayLen", "([BI)B"⟩
abbrev yB : ByteArray := jdk_52_method_15_code
theorem d0 : decode yB 0 = .ok (.iload_n 1, 1) := by decide +kernel
theorem d1 : decode yB 1 = .ok (.aload_n 0, 1) := by decide +kernel
theorem d2 : decode yB 2 = .ok (.arraylength, 1) := by decide +kernel
theorem d3 : decode yB 3 = .ok (.isub, 1) := by decide +kernel
theorem d4 : decode yB 4 = .ok (.bipush 31, 2) := by decide +kernel
theorem d6 : decode yB 6 = .ok (.iushr, 1) := by decide +kernel
theorem d7 : decode yB 7 = .ok (.i2b, 1) := by decide +kernel
theorem d8 : decode yB 8 = .ok (.ireturn, 1) := by decide +kernel
def site : List Cond := []
def tab : Cond := tabOf yN yB 2 (some .byte) site
def P (d : Addr) (B : Cell) (args : Array Value) (s : State) : Prop := args = #[.ref d, .int (Int32.ofNat B.slots.size)] ∧ Arr .byte d B s
def E (r : Option Value) (s u : State) : Prop := XT.PureE (some (.int 0)) r s u
/-- an array as long as the number of chars: LATIN1 -/
theorem law (l : Launch) (d : Addr) (B : Cell) : Law l yN 2 2 0 0 yB 2 (some .byte) site (P d B) E [] 0 0 := by
  refine Law.of_walk (plainFor_of_name (by decide +kernel)) (by decide +kernel) (by decide +kernel) (by decide) (fun _ _ h => by rw [h.1]; rfl) (fun _ U U' hal hh h => ⟨h.1, h.2.mv hal hh⟩) (fun r U U' V V' h1 hal h2 h => XT.PureE.mv r U U' V V' h1 hal h2 h) ?_
  intro p e s m args below meth c s₁ X0 hexec hbytes hml hret hlk hnm hown hh0 W hP
  obtain ⟨rfl, hB⟩ := hP
  have hB0 := hB.mv X0.warmed.alike hh0
  have c1 : Steps p.tables e below (s₁.setTop (entryFrame m #[.ref d, .int (Int32.ofNat B.slots.size)] 2)) (s₁.setTop (mkF m 0 #[.val (.ref d), .val (.int (Int32.ofNat B.slots.size))] [])) := entry rfl
  have c2 : Steps p.tables e below (s₁.setTop (entryFrame m #[.ref d, .int (Int32.ofNat B.slots.size)] 2)) (s₁.setTop (mkF m 2 #[.val (.ref d), .val (.int (Int32.ofNat B.slots.size))] [.ref d, .int (Int32.ofNat B.slots.size)])) := c1.trans (by
    refine XS.iloadN X0.here hexec rfl (hb hbytes d0) rfl ?_
    refine XS.aloadN X0.here hexec rfl (hb hbytes d1) rfl rfl ?_
    exact Steps.refl _)
  have c3 : Steps p.tables e below (s₁.setTop (entryFrame m #[.ref d, .int (Int32.ofNat B.slots.size)] 2)) (s₁.setTop (mkF m 8 #[.val (.ref d), .val (.int (Int32.ofNat B.slots.size))] [.int (lo8 (ushr (Int32.ofNat B.slots.size - Int32.ofNat B.slots.size) 31))])) := c2.trans (by
    refine X0.alen hexec hB0 rfl rfl (hb hbytes d2) ?_
    refine XS.isub X0.here hexec rfl (hb hbytes d3) rfl ?_
    refine bipushV X0.here hexec rfl 31 (hb hbytes d4) (by decide) ?_
    refine iushr X0.here hexec rfl (hb hbytes d6) rfl ?_
    refine i2b X0.here hexec rfl (hb hbytes d7) rfl ?_
    exact Steps.refl _)
  have e0 : lo8 (ushr (Int32.ofNat B.slots.size - Int32.ofNat B.slots.size) 31) = 0 := by rw [Int32.sub_self]; decide
  rw [e0] at c3
  exact ⟨s₁, some (.int 0), _, _, _, X0, rfl, rfl, rfl, (fun h => by cases h), ⟨rfl, hh0⟩, fun fs hl => c3.trans (X0.ireturnOut hexec hret rfl (Or.inr (Or.inr (Or.inl rfl))) (hb hbytes d8) hl)⟩
end CodL
/-- the String at a is Latin-1 over a new byte[] (the heap's one new cell): the low bytes of the len chars of A from o on; every cell but a is kept -/
def Got (a : Addr) (D : Cell) (fV fC : Field) (A : Cell) (o len : Nat) (r : Option Value) (s u : State) : Prop := r = none ∧ ∃ D' V : Cell, Blank "java/lang/String" a D' u ∧ Same D D' [fV.slot, fC.slot] ∧ D'.slots[fV.slot]? = some (.ref s.heap.size) ∧ D'.slots[fC.slot]? = some (.int 0) ∧ Arr .byte s.heap.size V u ∧ V.vm = .none ∧ u.vm.findClass "[B" = some V.cls ∧ V.slots.size = len ∧ (∀ j, j < len → V.slots[j]? = some (.int (lo8 (cv A (o + j))))) ∧ (∀ (y : Addr) (c : Cell), y ≠ a → s.heap[y]? = some c → u.heap[y]? = some c) ∧ u.heap.size = s.heap.size + 1
theorem Got.mv {a : Addr} {D A : Cell} {fV fC : Field} {o len : Nat} : ∀ r (U U' V V' : State), U'.heap = U.heap → V.vm.Alike V'.vm → V'.heap = V.heap → Got a D fV fC A o len r U V → Got a D fV fC A o len r U' V' :=
  fun r U U' V V' h1 hal h2 ⟨e0, D', X, a1, a2, a3, a4, a5, a6, a7, a8, a9, a10, a11⟩ => ⟨e0, D', X, a1.mv hal h2, a2, by rw [h1]; exact a3, a4, by rw [h1]; exact a5.mv hal h2, a6, by rw [hal.findClass]; exact a7, a8, a9, by rw [h1, h2]; exact a10, by rw [h1, h2]; exact a11⟩
namespace New4
def yN : MethodName := ⟨"java/lang/String", "<init>", "([CIILjava/lang/Void;)V"⟩
abbrev yB : ByteArray := jdk_42_method_149_code
theorem d0 : decode yB 0 = .ok (.aload_n 0, 1) := by decide +kernel
theorem d1 : decode yB 1 = .ok (.invokespecial 1, 3) := by decide +kernel
theorem d4 : decode yB 4 = .ok (.iload_n 3, 1) := by decide +kernel
theorem d5 : decode yB 5 = .ok (.ifCond (.ne) 22, 3) := by decide +kernel
theorem d27 : decode yB 27 = .ok (.getstatic 38, 3) := by decide +kernel
theorem d30 : decode yB 30 = .ok (.ifCond (.eq) 28, 3) := by decide +kernel
theorem d33 : decode yB 33 = .ok (.aload_n 1, 1) := by decide +kernel
theorem d34 : decode yB 34 = .ok (.iload_n 2, 1) := by decide +kernel
theorem d35 : decode yB 35 = .ok (.iload_n 3, 1) := by decide +kernel
theorem d36 : decode yB 36 = .ok (.invokestatic 177, 3) := by decide +kernel
theorem d39 : decode yB 39 = .ok (.astore 5, 2) := by decide +kernel
theorem d41 : decode yB 41 = .ok (.aload_n 0, 1) := by decide +kernel
theorem d42 : decode yB 42 = .ok (.aload 5, 2) := by decide +kernel
theorem d44 : decode yB 44 = .ok (.iload_n 3, 1) := by decide +kernel
theorem d45 : decode yB 45 = .ok (.invokestatic 47, 3) := by decide +kernel
theorem d48 : decode yB 48 = .ok (.putfield 15, 3) := by decide +kernel
theorem d51 : decode yB 51 = .ok (.aload_n 0, 1) := by decide +kernel
theorem d52 : decode yB 52 = .ok (.aload 5, 2) := by decide +kernel
theorem d54 : decode yB 54 = .ok (.putfield 9, 3) := by decide +kernel
theorem d57 : decode yB 57 = .ok (.return_, 1) := by decide +kernel
def site : List Cond := [.fieldLink "java/lang/String" 38 "java/lang/String" "COMPACT_STRINGS" "Z", Cmp3.tab, CodL.tab, .laysFinal "java/lang/String" "java/lang/String" "value" "[B", .fieldLink "java/lang/String" 9 "java/lang/String" "value" "[B", .laysFinal "java/lang/String" "java/lang/String" "coder" "B", .fieldLink "java/lang/String" 15 "java/lang/String" "coder" "B"] ++ objW "java/lang/String" 1 ++ staticW "java/lang/String" 177 Cmp3.yN ++ staticW "java/lang/String" 47 CodL.yN
def tab : Cond := tabOf yN yB 6 none site
def P (a : Addr) (D : Cell) (fV fC : Field) (b : Addr) (A : Cell) (z : Int32) (o len : Nat) (args : Array Value) (s : State) : Prop := args = #[.ref a, .ref b, .int (Int32.ofNat o), .int (Int32.ofNat len), .null] ∧ Blank "java/lang/String" a D s ∧ Found "java/lang/String" "value" "[B" fV s ∧ Found "java/lang/String" "coder" "B" fC s ∧ Ch b A s ∧ StaticIs s "java/lang/String" "COMPACT_STRINGS" "Z" (.int z) ∧ ¬ z = 0 ∧ 0 < len ∧ o + len ≤ A.slots.size ∧ len ≤ 536870912 ∧ ∀ i, i < len → ¬ 255 < cv A (o + i)
def E (a : Addr) (D : Cell) (fV fC : Field) (A : Cell) (o len : Nat) (r : Option Value) (s u : State) : Prop := Got a D fV fC A o len r s u
/-- len > 0, no char of the range above 255: a Latin-1 String of their low bytes -/
theorem law (l : Launch) (a : Addr) (D : Cell) (fV fC : Field) (b : Addr) (A : Cell) (z : Int32) (o len : Nat) : Law l yN 5 4 2 35 yB 6 none site (P a D fV fC b A z o len) (E a D fV fC A o len) [⟨a, fC.slot⟩, ⟨a, fV.slot⟩] 1 len := by
  refine Law.of_walk (plainFor_of_name (by decide +kernel)) (by decide +kernel) (by decide +kernel) (by decide) (fun _ _ h => by rw [h.1]; rfl) (fun _ U U' hal hh h => ⟨h.1, h.2.1.mv hal hh, h.2.2.1.al hal, h.2.2.2.1.al hal, h.2.2.2.2.1.mv hal hh, h.2.2.2.2.2.1.there hal hh, h.2.2.2.2.2.2⟩) (fun r U U' V V' h1 hal h2 h => Got.mv r U U' V V' h1 hal h2 h) ?_
  intro p e s m args below meth c s₁ X0 hexec hbytes hml hret hlk hnm hown hh0 W hP
  obtain ⟨rfl, hB, f1, f2, hA, s1, hz, l0, l1, l2, hp⟩ := hP
  have a31 := hA.1.2.2.2
  have c1 : Steps p.tables e below (s₁.setTop (entryFrame m #[.ref a, .ref b, .int (Int32.ofNat o), .int (Int32.ofNat len), .null] 6)) (s₁.setTop (mkF m 0 #[.val (.ref a), .val (.ref b), .val (.int (Int32.ofNat o)), .val (.int (Int32.ofNat len)), .val .null, .unset] [])) := entry rfl
  have c2 : Steps p.tables e below (s₁.setTop (entryFrame m #[.ref a, .ref b, .int (Int32.ofNat o), .int (Int32.ofNat len), .null] 6)) (s₁.setTop (mkF m 1 #[.val (.ref a), .val (.ref b), .val (.int (Int32.ofNat o)), .val (.int (Int32.ofNat len)), .val .null, .unset] [.ref a])) := c1.trans (by
    refine XS.aloadN X0.here hexec rfl (hb hbytes d0) rfl rfl ?_
    exact Steps.refl _)
  obtain ⟨T3, X3, q3, st3⟩ := X0.oinit hexec hown (wks W (objW "java/lang/String" 1)) (g := (mkF m 1 #[.val (.ref a), .val (.ref b), .val (.int (Int32.ofNat o)), .val (.int (Int32.ofNat len)), .val .null, .unset] [.ref a])) rfl (by rw [hml]; rfl) (rest := []) rfl (hb hbytes d1) (W := 0) (by show 2 * 0 + 0 ≤ _; decide) (Nat.le_of_ble_eq_true rfl) (Nat.le_of_ble_eq_true rfl)
  have hh3 := q3.trans hh0
  have c4 : Steps p.tables e below (s₁.setTop (entryFrame m #[.ref a, .ref b, .int (Int32.ofNat o), .int (Int32.ofNat len), .null] 6)) (T3.setTop (mkF m 27 #[.val (.ref a), .val (.ref b), .val (.int (Int32.ofNat o)), .val (.int (Int32.ofNat len)), .val .null, .unset] [])) := (c2.trans (st3 _ (Steps.refl _))).trans (by
    refine XS.iloadN X3.here hexec rfl (hb hbytes d4) rfl ?_
    refine XS.ifYes X3.here hexec rfl (pc0 := 5) rfl (hb hbytes d5) rfl (i0_ne_t (nz32 (by omega) l0)) (by decide) rfl ?_
    exact Steps.refl _)
  obtain ⟨T5, X5, q5, st5⟩ := X3.sget hexec hown (wk W (.fieldLink "java/lang/String" 38 "java/lang/String" "COMPACT_STRINGS" "Z")) s1 (fun _ _ h => by rw [hh3]; exact h) (g := (mkF m 27 #[.val (.ref a), .val (.ref b), .val (.int (Int32.ofNat o)), .val (.int (Int32.ofNat len)), .val .null, .unset] [])) rfl (hb hbytes d27)
  have hh5 := q5.trans hh3
  have c6 : Steps p.tables e below (s₁.setTop (entryFrame m #[.ref a, .ref b, .int (Int32.ofNat o), .int (Int32.ofNat len), .null] 6)) (T5.setTop (mkF m 30 #[.val (.ref a), .val (.ref b), .val (.int (Int32.ofNat o)), .val (.int (Int32.ofNat len)), .val .null, .unset] [.int z])) := c4.trans (st5 _ (Steps.refl _))
  have c7 : Steps p.tables e below (s₁.setTop (entryFrame m #[.ref a, .ref b, .int (Int32.ofNat o), .int (Int32.ofNat len), .null] 6)) (T5.setTop (mkF m 36 #[.val (.ref a), .val (.ref b), .val (.int (Int32.ofNat o)), .val (.int (Int32.ofNat len)), .val .null, .unset] [.int (Int32.ofNat len), .int (Int32.ofNat o), .ref b])) := c6.trans (by
    refine XS.ifNo X5.here hexec rfl (hb hbytes d30) rfl (i0_eq_f hz) ?_
    refine XS.aloadN X5.here hexec rfl (hb hbytes d33) rfl rfl ?_
    refine XS.iloadN X5.here hexec rfl (hb hbytes d34) rfl ?_
    refine XS.iloadN X5.here hexec rfl (hb hbytes d35) rfl ?_
    exact Steps.refl _)
  obtain ⟨v8, T8, X8, E8, g8⟩ := X5.callS hexec (Cmp3.law l b A o len) hown (wks W (staticW "java/lang/String" 177 Cmp3.yN)) (wk W Cmp3.tab) (W := 0) (Nat.le_of_ble_eq_true rfl) (Nat.le_of_ble_eq_true rfl) (Nat.le_refl _) (by show 0 + len ≤ len; omega) (g := (mkF m 36 #[.val (.ref a), .val (.ref b), .val (.int (Int32.ofNat o)), .val (.int (Int32.ofNat len)), .val .null, .unset] [.int (Int32.ofNat len), .int (Int32.ofNat o), .ref b])) rfl (by rw [hml]; rfl) c7 (argsL := [.ref b, .int (Int32.ofNat o), .int (Int32.ofNat len)]) (rest := []) rfl rfl (by show 2 * 0 + 0 ≤ _; decide) (hb hbytes d36) (⟨rfl, hA.mv X5.warmed.alike hh5, l1, l2, hp⟩)
  obtain ⟨e8, z8⟩ := E8
  obtain ⟨rfl, N, n1, n2, n3, n4, n5, n6⟩ := NewArr.mv _ T5 s _ _ hh5.symm (Vm.Alike.refl _) rfl e8
  rw [hh5] at z8
  have hB1 := hB.keep X8.warmed.alike (n6 _ _ hB.1)
  have hne : s.heap.size ≠ a := (Nat.ne_of_lt (Array.getElem?_eq_some_iff.mp hB.1).1).symm
  have c9 : Steps p.tables e below (s₁.setTop (entryFrame m #[.ref a, .ref b, .int (Int32.ofNat o), .int (Int32.ofNat len), .null] 6)) (T8.setTop (mkF m 39 #[.val (.ref a), .val (.ref b), .val (.int (Int32.ofNat o)), .val (.int (Int32.ofNat len)), .val .null, .unset] [.ref s.heap.size])) := g8
  have c10 : Steps p.tables e below (s₁.setTop (entryFrame m #[.ref a, .ref b, .int (Int32.ofNat o), .int (Int32.ofNat len), .null] 6)) (T8.setTop (mkF m 45 #[.val (.ref a), .val (.ref b), .val (.int (Int32.ofNat o)), .val (.int (Int32.ofNat len)), .val .null, .val (.ref s.heap.size)] [.int (Int32.ofNat N.slots.size), .ref s.heap.size, .ref a])) := by
    have hc : Steps p.tables e below (s₁.setTop (entryFrame m #[.ref a, .ref b, .int (Int32.ofNat o), .int (Int32.ofNat len), .null] 6)) (T8.setTop (mkF m 45 #[.val (.ref a), .val (.ref b), .val (.int (Int32.ofNat o)), .val (.int (Int32.ofNat len)), .val .null, .val (.ref s.heap.size)] [.int (Int32.ofNat len), .ref s.heap.size, .ref a])) := c9.trans (by
      refine XS.astore X8.here hexec rfl (hb hbytes d39) rfl rfl rfl ?_
      refine XS.aloadN X8.here hexec rfl (hb hbytes d41) rfl rfl ?_
      refine XS.aload X8.here hexec rfl (hb hbytes d42) rfl rfl ?_
      refine XS.iloadN X8.here hexec rfl (hb hbytes d44) rfl ?_
      exact Steps.refl _)
    rw [n4]; exact hc
  obtain ⟨v11, T11, X11, E11, g11⟩ := X8.callS hexec (CodL.law l s.heap.size N) hown (wks W (staticW "java/lang/String" 47 CodL.yN)) (wk W CodL.tab) (W := 1) (Nat.le_of_ble_eq_true rfl) (Nat.le_of_ble_eq_true rfl) (Nat.le_refl _) (by show 0 + len + 0 ≤ len; omega) (g := (mkF m 45 #[.val (.ref a), .val (.ref b), .val (.int (Int32.ofNat o)), .val (.int (Int32.ofNat len)), .val .null, .val (.ref s.heap.size)] [.int (Int32.ofNat N.slots.size), .ref s.heap.size, .ref a])) rfl (by rw [hml]; rfl) c10 (argsL := [.ref s.heap.size, .int (Int32.ofNat N.slots.size)]) (rest := [.ref a]) rfl rfl (by show 2 * 0 + (1 + 0) ≤ _; decide) (hb hbytes d45) (⟨rfl, n1⟩)
  obtain ⟨rfl, q11⟩ := E11
  have hB11 := hB1.mv (X8.warmed.alike.symm.trans X11.warmed.alike) q11
  have c12 : Steps p.tables e below (s₁.setTop (entryFrame m #[.ref a, .ref b, .int (Int32.ofNat o), .int (Int32.ofNat len), .null] 6)) (T11.setTop (mkF m 48 #[.val (.ref a), .val (.ref b), .val (.int (Int32.ofNat o)), .val (.int (Int32.ofNat len)), .val .null, .val (.ref s.heap.size)] [.int 0, .ref a])) := g11
  obtain ⟨T13, X13, p13, bl13, sl13, st13⟩ := X11.finit hexec hown (wk W (.fieldLink "java/lang/String" 15 "java/lang/String" "coder" "B")) (Or.inr ⟨_, (wk W (.laysFinal "java/lang/String" "java/lang/String" "coder" "B"))⟩) (Or.inl ⟨rfl, hnm⟩) f2 (Or.inl rfl) hB11 (t := .byte) (by decide +kernel) rfl (g := (mkF m 48 #[.val (.ref a), .val (.ref b), .val (.int (Int32.ofNat o)), .val (.int (Int32.ofNat len)), .val .null, .val (.ref s.heap.size)] [.int 0, .ref a])) rfl (rest := []) rfl (hb hbytes d48)
  have c14 : Steps p.tables e below (s₁.setTop (entryFrame m #[.ref a, .ref b, .int (Int32.ofNat o), .int (Int32.ofNat len), .null] 6)) (T13.setTop (mkF m 54 #[.val (.ref a), .val (.ref b), .val (.int (Int32.ofNat o)), .val (.int (Int32.ofNat len)), .val .null, .val (.ref s.heap.size)] [.ref s.heap.size, .ref a])) := (c12.trans (st13 _ (Steps.refl _))).trans (by
    refine XS.aloadN X13.here hexec rfl (hb hbytes d51) rfl rfl ?_
    refine XS.aload X13.here hexec rfl (hb hbytes d52) rfl rfl ?_
    exact Steps.refl _)
  obtain ⟨T15, X15, p15, bl15, sl15, st15⟩ := X13.finit hexec hown (wk W (.fieldLink "java/lang/String" 9 "java/lang/String" "value" "[B")) (Or.inr ⟨_, (wk W (.laysFinal "java/lang/String" "java/lang/String" "value" "[B"))⟩) (Or.inl ⟨rfl, hnm⟩) f1 (Or.inl rfl) bl13 (t := (.array .byte)) (by decide +kernel) rfl (g := (mkF m 54 #[.val (.ref a), .val (.ref b), .val (.int (Int32.ofNat o)), .val (.int (Int32.ofNat len)), .val .null, .val (.ref s.heap.size)] [.ref s.heap.size, .ref a])) rfl (rest := []) rfl (hb hbytes d54)
  have c16 : Steps p.tables e below (s₁.setTop (entryFrame m #[.ref a, .ref b, .int (Int32.ofNat o), .int (Int32.ofNat len), .null] 6)) (T15.setTop (mkF m 57 #[.val (.ref a), .val (.ref b), .val (.int (Int32.ofNat o)), .val (.int (Int32.ofNat len)), .val .null, .val (.ref s.heap.size)] [])) := c14.trans (st15 _ (Steps.refl _))
  have ap := apart (Or.inr ⟨_, (wk W (.laysFinal "java/lang/String" "java/lang/String" "value" "[B"))⟩) (Or.inr ⟨_, (wk W (.laysFinal "java/lang/String" "java/lang/String" "coder" "B"))⟩) f1 f2 (t₁ := .array .byte) (t₂ := .byte) (by decide +kernel) (by decide +kernel) (by decide)
  have al := X8.warmed.alike.symm.trans X15.warmed.alike
  have n7 : T11.heap[s.heap.size]? = some N := by rw [q11]; exact n1.1
  exact ⟨T15, none, _, _, _, X15, by simp, rfl, by omega, (fun _ => rfl), ⟨rfl, _, N, bl15, ((Same.refl D _).set _ (by simp)).set _ (by simp), sl15, (Cell.slots_setSlot_ne _ ap).trans sl13, n1.keep al (p15.other hne (p13.other hne n7)), n2, by rw [al.findClass]; exact n3, n4, n5, fun y c h1 h2 => p15.other h1 (p13.other h1 (by rw [q11]; exact n6 y c h2)), by rw [p15.2.2, p13.2.2, q11]; exact z8⟩, fun fs hl => c16.trans (X15.returnOut hexec hret (hb hbytes d57) hl)⟩
end New4
namespace New1
def yN : MethodName := ⟨"java/lang/String", "<init>", "([C)V"⟩
abbrev yB : ByteArray := jdk_42_method_3_code
theorem d0 : decode yB 0 = .ok (.aload_n 0, 1) := by decide +kernel
theorem d1 : decode yB 1 = .ok (.aload_n 1, 1) := by decide +kernel
theorem d2 : decode yB 2 = .ok (.iconst 0, 1) := by decide +kernel
theorem d3 : decode yB 3 = .ok (.aload_n 1, 1) := by decide +kernel
theorem d4 : decode yB 4 = .ok (.arraylength, 1) := by decide +kernel
theorem d5 : decode yB 5 = .ok (.aconst_null, 1) := by decide +kernel
theorem d6 : decode yB 6 = .ok (.invokespecial 27, 3) := by decide +kernel
theorem d9 : decode yB 9 = .ok (.return_, 1) := by decide +kernel
def site : List Cond := [New4.tab] ++ initW "java/lang/String" 27 New4.yN
def tab : Cond := tabOf yN yB 2 none site
def P (a : Addr) (D : Cell) (fV fC : Field) (b : Addr) (A : Cell) (z : Int32) (args : Array Value) (s : State) : Prop := args = #[.ref a, .ref b] ∧ Blank "java/lang/String" a D s ∧ Found "java/lang/String" "value" "[B" fV s ∧ Found "java/lang/String" "coder" "B" fC s ∧ Ch b A s ∧ StaticIs s "java/lang/String" "COMPACT_STRINGS" "Z" (.int z) ∧ ¬ z = 0 ∧ 0 < A.slots.size ∧ A.slots.size ≤ 536870912 ∧ ∀ i, i < A.slots.size → ¬ 255 < cv A i
def E (a : Addr) (D : Cell) (fV fC : Field) (A : Cell) (r : Option Value) (s u : State) : Prop := Got a D fV fC A 0 A.slots.size r s u
/-- new String(chars), not empty, no char above 255: a Latin-1 String of their low bytes -/
theorem law (l : Launch) (a : Addr) (D : Cell) (fV fC : Field) (b : Addr) (A : Cell) (z : Int32) : Law l yN 2 1 3 52 yB 2 none site (P a D fV fC b A z) (E a D fV fC A) [⟨a, fC.slot⟩, ⟨a, fV.slot⟩] 1 A.slots.size := by
  refine Law.of_walk (plainFor_of_name (by decide +kernel)) (by decide +kernel) (by decide +kernel) (by decide) (fun _ _ h => by rw [h.1]; rfl) (fun _ U U' hal hh h => ⟨h.1, h.2.1.mv hal hh, h.2.2.1.al hal, h.2.2.2.1.al hal, h.2.2.2.2.1.mv hal hh, h.2.2.2.2.2.1.there hal hh, h.2.2.2.2.2.2⟩) (fun r U U' V V' h1 hal h2 h => Got.mv r U U' V V' h1 hal h2 h) ?_
  intro p e s m args below meth c s₁ X0 hexec hbytes hml hret hlk hnm hown hh0 W hP
  obtain ⟨rfl, hB, f1, f2, hA, s1, hz, l0, l2, hp⟩ := hP
  have c1 : Steps p.tables e below (s₁.setTop (entryFrame m #[.ref a, .ref b] 2)) (s₁.setTop (mkF m 0 #[.val (.ref a), .val (.ref b)] [])) := entry rfl
  have c2 : Steps p.tables e below (s₁.setTop (entryFrame m #[.ref a, .ref b] 2)) (s₁.setTop (mkF m 6 #[.val (.ref a), .val (.ref b)] [.null, .int (Int32.ofNat A.slots.size), .int 0, .ref b, .ref a])) := c1.trans (by
    refine XS.aloadN X0.here hexec rfl (hb hbytes d0) rfl rfl ?_
    refine XS.aloadN X0.here hexec rfl (hb hbytes d1) rfl rfl ?_
    refine iconstV X0.here hexec rfl 0 (hb hbytes d2) (by decide) ?_
    refine XS.aloadN X0.here hexec rfl (hb hbytes d3) rfl rfl ?_
    refine X0.alen hexec (hA.1.mv X0.warmed.alike hh0) rfl rfl (hb hbytes d4) ?_
    refine XS.aconstNull X0.here hexec rfl (hb hbytes d5) ?_
    exact Steps.refl _)
  obtain ⟨v3, T3, X3, E3, g3⟩ := X0.callN hexec (New4.law l a D fV fC b A z 0 A.slots.size) rfl hown (wks W (initW "java/lang/String" 27 New4.yN)) (W New4.tab (by simp only [site, List.mem_cons, List.mem_append, true_or, or_true])) (W := 0) (Nat.le_of_ble_eq_true rfl) (Nat.le_of_ble_eq_true rfl) (Nat.le_refl _) (by show 0 + A.slots.size ≤ A.slots.size; omega) (g := (mkF m 6 #[.val (.ref a), .val (.ref b)] [.null, .int (Int32.ofNat A.slots.size), .int (Int32.ofNat 0), .ref b, .ref a])) rfl (by rw [hml]; rfl) c2 (argsL := [.ref b, .int (Int32.ofNat 0), .int (Int32.ofNat A.slots.size), .null]) (rest := []) rfl rfl (by show 2 * 0 + 0 ≤ _; decide) (hb hbytes d6) (⟨rfl, hB.mv X0.warmed.alike hh0, f1.al X0.warmed.alike, f2.al X0.warmed.alike, hA.mv X0.warmed.alike hh0, s1.there X0.warmed.alike hh0, hz, l0, by omega, l2, fun i hi => by rw [Nat.zero_add]; exact hp i hi⟩)
  have e0 := Got.mv _ s₁ s _ _ hh0.symm (Vm.Alike.refl _) rfl E3
  obtain rfl := e0.1
  have c4 : Steps p.tables e below (s₁.setTop (entryFrame m #[.ref a, .ref b] 2)) (T3.setTop (mkF m 9 #[.val (.ref a), .val (.ref b)] [])) := g3
  exact ⟨T3, none, _, _, _, X3, by simp, rfl, by omega, (fun _ => rfl), e0, fun fs hl => c4.trans (X3.returnOut hexec hret (hb hbytes d9) hl)⟩
theorem pays {l : Launch} {R : Room} {p : Program} {e : Env} {below : List Frame} {s : State} {sargs : Array Value} {len W : Nat} (a : Addr) (D : Cell) (fV fC : Field) (b : Addr) (A : Cell) (z : Int32) (htab : tab.before sargs s = true) (hfr : 4 ≤ R.frames) (hlo : W + 65 ≤ R.locals) :
    Back l R p e below s sargs yN len W (fun A₁ a₁ => A₁.cells + 1 ≤ R.cells ∧ A₁.slots + A.slots.size ≤ R.slots ∧ P a D fV fC b A z a₁ A₁.U) (fun A₁ _ v₁ B₁ => E a D fV fC A v₁ A₁.U B₁.U ∧ B₁.locs = A₁.locs ++ [⟨a, fC.slot⟩, ⟨a, fV.slot⟩] ∧ B₁.cells = A₁.cells + 1 ∧ B₁.slots = A₁.slots + A.slots.size) :=
  (law l a D fV fC b A z).pays htab hfr (by omega)
end New1
/-- the byte, read back as charAt reads it, is the char -/
theorem lo8_mask {x : Int32} (h0 : ¬ x < 0) (h1 : ¬ 255 < x) : lo8 x &&& 255 = x := by
  have t : ∀ k : Fin 256, lo8 (Int32.ofNat k.val) &&& 255 = Int32.ofNat k.val := by decide +kernel
  rw [Int32.lt_iff_toInt_lt] at h0 h1
  have e0 : (0 : Int32).toInt = 0 := rfl
  have e1 : (255 : Int32).toInt = 255 := rfl
  obtain ⟨k, hk⟩ : ∃ k : Nat, x.toInt = k := ⟨x.toInt.toNat, by omega⟩
  have hx : x = Int32.ofNat k := Int32.toInt_inj.mp (by rw [hk, Int32.toInt_ofNat_small (by omega)])
  rw [hx]
  exact t ⟨k, by omega⟩
end StrChars
namespace StrChars.Road
open Jvm Sem ClassFile Op Lib Jvm.Stand Jvm.Free Jvm.Free.XT
open Jvm.Lib.Cold (StaticIs)
abbrev ST : String := "java/lang/String"
/-- every table word that New1's law asks, flat -/
abbrev words : List Jvm.Cond := [.code New1.yN New1.yB 2 none, .initialized ST, .methodLink ST 27 New4.yN, .instanceMethod New4.yN,
  .code New4.yN New4.yB 6 none, .fieldLink ST 38 ST "COMPACT_STRINGS" "Z", .laysFinal ST ST "value" "[B", .fieldLink ST 9 ST "value" "[B", .laysFinal ST ST "coder" "B", .fieldLink ST 15 ST "coder" "B",
  .methodLink ST 1 Lib.objectInit, .instanceMethod Lib.objectInit, .code Lib.objectInit ⟨#[0xb1]⟩ 1 none, .methodLink ST 177 Cmp3.yN, .static Cmp3.yN, .methodLink ST 47 CodL.yN, .static CodL.yN,
  .code Cmp3.yN Cmp3.yB 6 (some (.array .byte)), .initialized U16, .arrayClass .byte, .methodLink U16 115 Cmp5.yN, .static Cmp5.yN, .code Cmp5.yN Cmp5.yB 7 (some .int), .code CodL.yN CodL.yB 2 (some .byte)]
theorem tab_of {a : Array Value} {s : State} (h : ∀ w ∈ words, w.before a s = true) : New1.tab.before a s = true := by
  have h5 : Cmp5.tab.before a s = true := unparts (wk h (.code Cmp5.yN Cmp5.yB 7 (some .int))) (wks h (.initialized Cmp5.yN.cls :: Cmp5.site))
  have hc : CodL.tab.before a s = true := unparts (wk h (.code CodL.yN CodL.yB 2 (some .byte))) (wks h (.initialized CodL.yN.cls :: CodL.site))
  have q5 : ∀ w ∈ Cmp5.tab :: words, w.before a s = true := fun w hw => (List.mem_cons.mp hw).elim (fun e => e ▸ h5) (h w)
  have h3 : Cmp3.tab.before a s = true := unparts (wk q5 (.code Cmp3.yN Cmp3.yB 6 (some (.array .byte)))) (wks q5 (.initialized Cmp3.yN.cls :: Cmp3.site))
  have q3 : ∀ w ∈ Cmp3.tab :: CodL.tab :: words, w.before a s = true := fun w hw => (List.mem_cons.mp hw).elim (fun e => e ▸ h3) fun hw => (List.mem_cons.mp hw).elim (fun e => e ▸ hc) (h w)
  have h4 : New4.tab.before a s = true := unparts (wk q3 (.code New4.yN New4.yB 6 none)) (wks q3 (.initialized New4.yN.cls :: New4.site))
  have q4 : ∀ w ∈ New4.tab :: words, w.before a s = true := fun w hw => (List.mem_cons.mp hw).elim (fun e => e ▸ h4) (h w)
  exact unparts (wk q4 (.code New1.yN New1.yB 2 none)) (wks q4 (.initialized New1.yN.cls :: New1.site))
/-- the words ride from the start Z to the walk's own state -/
theorem moved {Z s : State} {a0 args : Array Value} (hZ : Z.Warmed39 s.vm) (hw : ∀ d ∈ words, d.before a0 Z = true) : ∀ d ∈ words, d.before args s = true := fun d hd => by
  have q := hw d hd
  have t : ∀ d ∈ words, d = .arrayClass .byte ∨ (d.onTables && d.keepsFace) = true := by decide +kernel
  rcases t d hd with rfl | t
  · exact RoadKit.mvA hZ q
  · exact RoadKit.mv hZ q t
/-- WHAT COMES BACK, over the tables of the start Z: h the heap at the call, h' behind it -/
def Q (Z : State) (x : Addr) (A : Cell) (h : Heap) (v : Option Value) (h' : Heap) (L : List Loc) : Prop := v = none ∧ (∀ y ∈ L, y.base = x) ∧ RoadKit.Keep h h' [x] ∧ h'.size = h.size + 1 ∧ RoadKit.Exa Z h' x ST ∧ RoadKit.Fld Z h' x ST "value" "[B" (.ref h.size) ∧ RoadKit.Fld Z h' x ST "coder" "B" (.int 0) ∧
  (∃ V : Cell, RoadKit.Arr Z h' h.size V .byte ∧ V.vm = .none ∧ Z.vm.findClass "[B" = some V.cls ∧ V.slots.size = A.slots.size ∧ ∀ j, j < A.slots.size → V.slots[j]? = some (.int (lo8 (cv A j)))) ∧
  ∀ (O n d : String) (w : Value), RoadKit.Fld Z h x O n d w → RoadKit.slotOf Z O n d ≠ RoadKit.slotOf Z ST "value" "[B" → RoadKit.slotOf Z O n d ≠ RoadKit.slotOf Z ST "coder" "B" → RoadKit.Fld Z h' x O n d w
/-- **new String(chars) AT A CALL, IN THE ROAD'S FORM**: for specialBack behind newO: x the fresh String, b the char[] with the cell A -/
theorem back {p : Program} {l : Launch} {e : Env} {R : Room} {s : State} {args : Array Value} {below : List Frame} {len W : Nat} {Z : State} {a0 : Array Value} {h : Heap} (hZ : Z.Warmed39 s.vm) (hw : ∀ d ∈ words, d.before a0 Z = true) {kI : Nat} (wi : (Jvm.Cond.instantiable ST kI).before a0 Z = true)
    {x b : Addr} {A : Cell} {z : Int32} {v0 c0 : Value} (E : RoadKit.Exa Z h x ST) (V : RoadKit.Fld Z h x ST "value" "[B" v0) (C : RoadKit.Fld Z h x ST "coder" "B" c0) (K : RoadKit.Arr Z h b A .char) (hty : Typed .char A) (S : RoadKit.Sta Z h ST "COMPACT_STRINGS" "Z" (.int z)) (hz : ¬ z = 0)
    (l0 : 0 < A.slots.size) (l2 : A.slots.size ≤ 536870912) (hp : ∀ i, i < A.slots.size → ¬ 255 < cv A i) (hfr : 4 ≤ R.frames) (hlo : W + 65 ≤ R.locals) :
    Back l R p e below s args New1.yN len W (fun P a => a = #[.ref x, .ref b] ∧ P.U.heap = h ∧ P.cells + 1 ≤ R.cells ∧ P.slots + A.slots.size ≤ R.slots)
      (fun P _ v B => ∃ L, Q Z x A h v B.U.heap L ∧ B.locs = P.locs ++ L ∧ B.cells = P.cells + 1 ∧ B.slots = P.slots + A.slots.size) := by
  intro m meth c P g ig mk a X hg hsize hdg hW hn hp'
  obtain ⟨rfl, rfl, r1, r2⟩ := hp'
  have al : Z.vm.Alike P.U.vm := hZ.alike.trans X.warmed.alike
  obtain ⟨D, cfV, kV, iV, fV, hD, gV, stV, knV, obV, asV, slV⟩ := id V
  obtain ⟨D', cfC, kC, iC, fC, hD', gC, stC, -, -, asC, slC⟩ := id C
  cases hD.symm.trans hD'
  obtain ⟨D2, kD, e1, e2, e3, e4, e5⟩ := id E
  cases hD.symm.trans e1
  obtain ⟨c2, k2, i1, i2, i3, -⟩ := Cond.instantiable_spec wi
  cases e2.symm.trans i1
  cases e3.symm.trans i2
  obtain ⟨kU, u1, u2⟩ := al.2.2 _ _ e3
  have hB : Blank ST x D P.U := ⟨hD, ⟨knV, fun q hq => by rw [hq] at obV; cases obV⟩, by rw [al.findClass]; exact e2, kU, u1, by rw [u2]; exact i3, by rw [u2]; exact e5 i3⟩
  have F1 : Found ST "value" "[B" fV P.U := ⟨SBG.found_only al ⟨cfV, kV, iV, gV⟩, stV⟩
  have F2 : Found ST "coder" "B" fC P.U := ⟨SBG.found_only al ⟨cfC, kC, iC, gC⟩, stC⟩
  have hA : Ch b A P.U := ⟨⟨K.1, State.isArrayOf_alike al K.2.1, K.2.2, by omega⟩, hty⟩
  have hS : StaticIs P.U ST "COMPACT_STRINGS" "Z" (.int z) := by
    obtain ⟨cfS, iS, kS, fS, st, cS, t1, t2, t3, t4, t5, t6, t7⟩ := S
    exact StaticIs.there (s := { Z with heap := P.U.heap }) ⟨cfS, iS, kS, fS, st, cS, t1, t2, t3, t4, t5, (fun q => by rw [q] at t6; cases t6), t7⟩ al rfl
  obtain ⟨v, B, X', ⟨⟨hv, E', V', q1, q2, q3, q4, q5, q6, q7, q8, q9, q10, q11⟩, hl, hc, hs⟩, st⟩ := New1.pays x D fV fC b A z (tab_of (moved hZ hw)) hfr hlo m meth c P g ig mk _ X hg hsize hdg hW hn ⟨r1, r2, rfl, hB, F1, F2, hA, hS, hz, l0, l2, hp⟩
  have al' : Z.vm.Alike B.U.vm := hZ.alike.trans X'.warmed.alike
  have hsz : E'.slots.size = D.slots.size := by
    obtain ⟨-, -, -, kB, w1, w2, w3⟩ := q1
    obtain ⟨kB', y1, y2⟩ := al'.2.2 _ _ e3
    rw [q2.2.1] at w1
    cases w1.symm.trans y1
    rw [w3, e5 i3, y2]
  refine ⟨v, B, X', ⟨_, ⟨hv, ?_, ⟨by omega, fun y cy hy hn' => q10 y cy (by simpa using hn') hy, fun y cy hy => ?_⟩, q11, ⟨E', _, q1.1, by rw [q2.2.1]; exact e2, by rw [q2.2.1]; exact e3, by rw [q2.1]; exact obV, fun _ => by rw [hsz]; exact e5 i3⟩,
    ⟨E', cfV, kV, iV, fV, q1.1, gV, stV, by rw [q2.1]; exact knV, by rw [q2.1]; exact obV, by rw [q2.2.1]; exact asV, q3⟩, ⟨E', cfC, kC, iC, fC, q1.1, gC, stC, by rw [q2.1]; exact knV, by rw [q2.1]; exact obV, by rw [q2.2.1]; exact asC, q4⟩,
    ⟨V', ⟨q5.1, State.isArrayOf_alike al'.symm q5.2.1, q5.2.2.1⟩, q6, by rw [← al'.findClass]; exact q7, q8, fun j hj => by have := q9 j hj; rwa [Nat.zero_add] at this⟩, fun O n d w F n1 n2 => ?_⟩, hl, hc, hs⟩, st⟩
  · intro y hy
    simp only [List.mem_cons, List.not_mem_nil, or_false] at hy
    rcases hy with rfl | rfl <;> rfl
  · by_cases q : y = x
    · subst q
      cases hD.symm.trans hy
      exact ⟨E', q1.1, q2.2.1, q2.1, hsz⟩
    · exact ⟨cy, q10 y cy q hy, rfl, rfl, rfl⟩
  · obtain ⟨D3, cf, k, i, f, g1, g2, g3, g4, g5, g6, g7⟩ := F
    cases hD.symm.trans g1
    simp only [RoadKit.slotOf, g2, gV, gC, Option.map_some, Option.getD_some] at n1 n2
    exact ⟨E', cf, k, i, f, q1.1, g2, g3, by rw [q2.1]; exact g4, by rw [q2.1]; exact g5, by rw [q2.2.1]; exact g6, by rw [q2.2.2 f.slot (by simp [n1, n2])]; exact g7⟩
end StrChars.Road
namespace StrChars.Road
open Jvm Sem ClassFile Op Lib Jvm.Stand Jvm.Free Jvm.Free.XT
/-- WHAT COMES BACK, the byte[] as a list of values -/
def QA (Z : State) (x : Addr) (zn : Int32) (cs : List Int32) (h : Heap) (v : Option Value) (h' : Heap) (L : List Loc) : Prop := v = none ∧ (∀ y ∈ L, y.base = x) ∧ RoadKit.Keep h h' [x] ∧ h'.size = h.size + 1 ∧ RoadKit.Exa Z h' x ST ∧ RoadKit.Fld Z h' x ST "value" "[B" (.ref h.size) ∧ RoadKit.Fld Z h' x ST "coder" "B" (.int 0) ∧
  (∃ kb, Z.vm.findClass "[B" = some kb ∧ RoadKit.Arv Z h' h.size kb .byte zn (cs.map fun c => .int (lo8 c)) (.int 0)) ∧
  ∀ (O n d : String) (w : Value), RoadKit.Fld Z h x O n d w → RoadKit.slotOf Z O n d ≠ RoadKit.slotOf Z ST "value" "[B" → RoadKit.slotOf Z O n d ≠ RoadKit.slotOf Z ST "coder" "B" → RoadKit.Fld Z h' x O n d w
/-- **new String(chars) AT A CALL, THE ARRAYS AS LISTS**: the char[] at b holds cs, not empty, no char above 255 -/
theorem backArv {p : Program} {l : Launch} {e : Env} {R : Room} {s : State} {args : Array Value} {below : List Frame} {len W : Nat} {Z : State} {a0 : Array Value} {h : Heap} (hZ : Z.Warmed39 s.vm) (hw : ∀ d ∈ words, d.before a0 Z = true) {kI : Nat} (wi : (Jvm.Cond.instantiable ST kI).before a0 Z = true)
    {x b : Addr} {k : ClassId} {zn z : Int32} {cs : List Int32} {dv v0 c0 : Value} (E : RoadKit.Exa Z h x ST) (V : RoadKit.Fld Z h x ST "value" "[B" v0) (C : RoadKit.Fld Z h x ST "coder" "B" c0) (K : RoadKit.Arv Z h b k .char zn (cs.map Value.int) dv) (S : RoadKit.Sta Z h ST "COMPACT_STRINGS" "Z" (.int z)) (hz : ¬ z = 0)
    (hlen : zn.toNatClampNeg = cs.length) (h0 : 0 < cs.length) (hbig : cs.length ≤ 536870912) (hall : ∀ c ∈ cs, ¬ 255 < c) (hfr : 4 ≤ R.frames) (hlo : W + 65 ≤ R.locals) :
    Back l R p e below s args New1.yN len W (fun P a => a = #[.ref x, .ref b] ∧ P.U.heap = h ∧ P.cells + 1 ≤ R.cells ∧ P.slots + cs.length ≤ R.slots)
      (fun P _ v B => ∃ L, QA Z x zn cs h v B.U.heap L ∧ B.locs = P.locs ++ L ∧ B.cells = P.cells + 1 ∧ B.slots = P.slots + cs.length) := by
  obtain ⟨A, K1, K2, K3, K4, K5, K6⟩ := K
  have e : A.slots.size = cs.length := K3.trans hlen
  have hat : ∀ (i : Nat) (hi : i < cs.length), A.slots[i]? = some (.int cs[i]) := fun i hi => by rw [K5 i (by omega)]; simp [List.getD_eq_getElem?_getD, hi]
  have hcv : ∀ (i : Nat) (hi : i < cs.length), cv A i = cs[i] := fun i hi => by unfold cv; rw [hat i hi]
  have hty : Typed .char A := fun i v hv => by
    have hi : i < A.slots.size := (Array.getElem?_eq_some_iff.mp hv).1
    have q := K5 i hi
    rw [hv] at q
    rw [Option.some.inj q]
    exact K6 i hi
  refine Back.mono (back hZ hw wi E V C K1 hty S hz (by omega) (by omega) (fun i hi => by rw [hcv i (by omega)]; exact hall _ (List.getElem_mem _)) hfr hlo) (fun P a hp => ⟨hp.1, hp.2.1, hp.2.2.1, by rw [e]; exact hp.2.2.2⟩) (fun P a v B hp hq => ?_)
  obtain ⟨L, ⟨q1, q2, q3, q4, q5, q6, q7, ⟨V', v1, v2, v3, v4, v5⟩, q9⟩, hl, hc, hs⟩ := hq
  refine ⟨L, ⟨q1, q2, q3, q4, q5, q6, q7, ⟨V'.cls, v3, V', v1, rfl, by rw [v4, e, hlen], K4, fun i hi => ?_, fun i hi => ?_⟩, q9⟩, hl, hc, by rw [hs, e]⟩
  · have hi' : i < cs.length := by omega
    rw [v5 i (by omega), hcv i hi']; simp [List.getD_eq_getElem?_getD, hi']
  · have hi' : i < cs.length := by omega
    simp only [List.getD_eq_getElem?_getD, List.getElem?_map, List.getElem?_eq_getElem hi', Option.map_some, Option.getD_some]
    exact fits_lo8 _
end StrChars.Road
namespace StrChars.Road
open Jvm Sem ClassFile Op Lib Jvm.Stand Jvm.Free Jvm.Free.XT
/-- WHAT COMES BACK, in the writer's own shape -/
def QV (Z : State) (x : Addr) (N : Int32) (bs : List Int32) (h : Heap) (n0 : Nat) (v : Option Value) (h' : Heap) (L : List Loc) : Prop := v = none ∧ RoadKit.Fr n0 L ∧ RoadKit.Keep h h' [x] ∧ RoadKit.Exa Z h' x ST ∧ RoadKit.Fld Z h' x ST "coder" "B" (.int 0) ∧
  ∃ (t : Addr) (kb : ClassId), n0 ≤ t ∧ h.size ≤ t ∧ ¬ t = x ∧ RoadKit.Fld Z h' x ST "value" "[B" (.ref t) ∧ RoadKit.Arv Z h' t kb .byte N (bs.map Value.int) (.int 0)
/-- **new String(chars) AT A CALL, FOR THE WRITER**: a char[] of n known ints, each 0 to 255 -/
theorem backV {p : Program} {l : Launch} {e : Env} {R : Room} {s : State} {args : Array Value} {below : List Frame} {len W : Nat} {Z : State} {a0 : Array Value} {h : Heap} (hZ : Z.Warmed39 s.vm) (hw : ∀ d ∈ words, d.before a0 Z = true) {kI : Nat} (wi : (Jvm.Cond.instantiable ST kI).before a0 Z = true)
    {x b : Addr} {kC : ClassId} {cs bs : List Int32} {d v0 c0 : Value} {z N : Int32} {n n0 : Nat} (hx0 : n0 ≤ x) (hh0 : n0 ≤ h.size) (E : RoadKit.Exa Z h x ST) (V : RoadKit.Fld Z h x ST "value" "[B" v0) (C : RoadKit.Fld Z h x ST "coder" "B" c0) (K : RoadKit.Arv Z h b kC .char N (cs.map Value.int) d) (S : RoadKit.Sta Z h ST "COMPACT_STRINGS" "Z" (.int z)) (hz : ¬ z = 0)
    (hn : cs.length = n) (hN : N = Int32.ofNat n) (l0 : 0 < n) (l2 : n ≤ 4000) (hp : ∀ c ∈ cs, ¬ c < 0 ∧ ¬ (255 : Int32) < c) (hb : bs = cs.map (fun c => c.toInt8.toInt32)) (hfr : 4 ≤ R.frames) (hlo : W + 65 ≤ R.locals) :
    Back l R p e below s args (⟨"java/lang/String", "<init>", "([C)V"⟩ : MethodName) len W (fun P a => a = #[.ref x, .ref b] ∧ P.U.heap = h ∧ P.cells + 1 ≤ R.cells ∧ P.slots + n ≤ R.slots)
      (fun P _ v B => ∃ L, QV Z x N bs h n0 v B.U.heap L ∧ B.locs = P.locs ++ L ∧ B.cells = P.cells + 1 ∧ B.slots = P.slots + n) := by
  subst hn hN hb
  refine Back.mono (backArv hZ hw wi E V C K S hz (n32 (by omega)) l0 (by omega) (fun c hc => (hp c hc).2) hfr hlo) (fun P a hp => hp) (fun P a v B hp hq => ?_)
  obtain ⟨L, ⟨q1, q2, q3, q4, q5, q6, q7, ⟨kb, v1, v2⟩, q9⟩, hl, hc, hs⟩ := hq
  exact ⟨L, ⟨q1, fun y hy => by rw [q2 y hy]; exact hx0, q3, q5, q7, h.size, kb, hh0, Nat.le_refl _, Nat.ne_of_gt E.lt, q6, by rw [List.map_map]; exact v2⟩, hl, hc, hs⟩
end StrChars.Road
namespace StrChars
open Jvm Sem ClassFile Op Lib Jvm.Stand Jvm.Free.XT Jvm.Free.ALB Jvm.Free.JM Jvm.Free
open Jvm.Lib.Cold (StaticIs)
def hi8 (x : Int32) : Int32 := lo8 (x >>> ((8 : Int32) &&& 31))
/-- what StringUTF16.getChar makes of two bytes -/
def pairCh (u v : Int32) : Int32 := (((u &&& 255) <<< ((0 : Int32) &&& 31)) ||| ((v &&& 255) <<< ((8 : Int32) &&& 31))).toUInt32.toUInt16.toUInt32.toInt32
theorem shr0 (c : Int32) : c >>> ((0 : Int32) &&& 31) = c := by
  have e : ((0 : Int32) &&& 31) = 0 := by decide
  rw [e]
  apply Int32.toBitVec_inj.mp
  rw [Int32.toBitVec_shiftRight]
  have e1 : ((0 : Int32).toBitVec.smod 32) = 0#32 := by decide
  rw [e1, BitVec.sshiftRight_eq']
  exact BitVec.sshiftRight_zero
theorem lo8_and (x : Int32) : (lo8 x &&& 255).toBitVec.toNat = x.toBitVec.toNat % 256 := by
  have h : (lo8 x).toBitVec = (x.toBitVec.signExtend 8).signExtend 32 := by rw [lo8, Int8.toBitVec_toInt32, Int32.toBitVec_toInt8]
  rw [Int32.toBitVec_and, BitVec.toNat_and, h]
  have e : ((x.toBitVec.signExtend 8).signExtend 32).toNat % 256 = x.toBitVec.toNat % 256 := by
    rw [BitVec.toNat_signExtend]
    have hlt := x.toBitVec.isLt
    simp only [BitVec.toNat_setWidth, BitVec.toNat_signExtend]
    split <;> split <;> omega
  rw [← e]
  exact Nat.and_two_pow_sub_one_eq_mod _ 8
theorem pair_says {c : Int32} (h0 : ¬ c < 0) (h1 : ¬ 65535 < c) : pairCh (lo8 c) (hi8 c) = c := by
  rw [Int32.lt_iff_toInt_lt] at h0 h1
  have e0 : (0 : Int32).toInt = 0 := rfl
  have e1 : (65535 : Int32).toInt = 65535 := rfl
  have hc : c.toInt = c.toBitVec.toNat := by
    have := c.toBitVec.isLt
    have e : c.toInt = c.toBitVec.toInt := rfl
    rw [e] at h0 h1
    rw [e]
    rw [BitVec.toInt_eq_toNat_cond] at h0 h1 ⊢
    split at h0 <;> split <;> omega
  have hn : c.toBitVec.toNat < 65536 := by omega
  have a1 := lo8_and c
  have a2 : (hi8 c &&& 255).toBitVec.toNat = c.toBitVec.toNat / 256 := by
    rw [hi8, lo8_and]
    have e : ((8 : Int32) &&& 31) = 8 := by decide
    rw [e, Int32.toBitVec_shiftRight]
    have e2 : ((8 : Int32).toBitVec.smod 32) = 8#32 := by decide
    rw [e2, BitVec.sshiftRight_eq', BitVec.toNat_sshiftRight_of_msb_false (by rw [BitVec.msb_eq_false_iff_two_mul_lt]; omega)]
    show c.toBitVec.toNat >>> 8 % 256 = _
    rw [Nat.shiftRight_eq_div_pow]
    omega
  unfold pairCh
  apply Int32.toBitVec_inj.mp
  apply BitVec.eq_of_toNat_eq
  have f0 : ((0 : Int32) &&& 31) = 0 := by decide
  have f8 : ((8 : Int32) &&& 31) = 8 := by decide
  rw [f0, f8]
  have g : (((lo8 c &&& 255) <<< (0 : Int32)) ||| ((hi8 c &&& 255) <<< (8 : Int32))).toBitVec.toNat = c.toBitVec.toNat := by
    rw [Int32.toBitVec_or, Int32.toBitVec_shiftLeft, Int32.toBitVec_shiftLeft]
    have s0 : ((0 : Int32).toBitVec.smod 32) = 0#32 := by decide
    have s8 : ((8 : Int32).toBitVec.smod 32) = 8#32 := by decide
    rw [s0, s8, BitVec.toNat_or]
    simp only [BitVec.shiftLeft_eq', BitVec.toNat_shiftLeft, a1, a2]
    show (c.toBitVec.toNat % 256) <<< 0 % 2 ^ 32 ||| (c.toBitVec.toNat / 256) <<< 8 % 2 ^ 32 = _
    rw [Nat.shiftLeft_zero, Nat.mod_eq_of_lt (show c.toBitVec.toNat % 256 < 2 ^ 32 by omega), Nat.mod_eq_of_lt (show (c.toBitVec.toNat / 256) <<< 8 < 2 ^ 32 by rw [Nat.shiftLeft_eq]; omega), Nat.or_comm, ← Nat.shiftLeft_add_eq_or_of_lt (by omega), Nat.shiftLeft_eq]
    omega
  show BitVec.toNat (((((lo8 c &&& 255) <<< (0 : Int32)) ||| ((hi8 c &&& 255) <<< (8 : Int32))).toBitVec.setWidth 16).setWidth 32) = _
  rw [BitVec.toNat_setWidth, BitVec.toNat_setWidth, g]
  omega
end StrChars
namespace StrChars
open Jvm Sem ClassFile Op Lib Jvm.Stand Jvm.Free.XT Jvm.Free.ALB Jvm.Free.JM Jvm.Free
open Jvm.Lib.Cold (StaticIs)
theorem shr1 {n : Nat} (h : 2 * n < 2 ^ 31) : Int32.ofNat (2 * n) >>> ((1 : Int32) &&& 31) = Int32.ofNat n := by
  have e : ((1 : Int32) &&& 31) = 1 := by decide
  rw [e]
  apply Int32.toBitVec_inj.mp
  rw [Int32.toBitVec_shiftRight]
  have e1 : ((1 : Int32).toBitVec.smod 32) = 1#32 := by decide
  have hm : (BitVec.ofNat 32 (2 * n)).toNat = 2 * n := by rw [BitVec.toNat_ofNat, Nat.mod_eq_of_lt (by omega)]
  rw [e1, BitVec.sshiftRight_eq']
  apply BitVec.eq_of_toNat_eq
  show ((BitVec.ofNat 32 (2 * n)).sshiftRight 1).toNat = (BitVec.ofNat 32 n).toNat
  rw [BitVec.toNat_sshiftRight_of_msb_false (by rw [BitVec.msb_eq_false_iff_two_mul_lt, hm]; omega), hm, BitVec.toNat_ofNat, Nat.shiftRight_eq_div_pow]
  omega
/-- charAt's cast of a byte read back -/
def chr8 (u : Int32) : Int32 := (u &&& 255).toUInt32.toUInt16.toUInt32.toInt32
theorem chr8_lo8 {c : Int32} (h0 : ¬ c < 0) (h1 : ¬ 255 < c) : chr8 (lo8 c) = c := by
  have t : ∀ k : Fin 256, (Int32.ofNat k.val).toUInt32.toUInt16.toUInt32.toInt32 = Int32.ofNat k.val := by decide +kernel
  unfold chr8
  rw [lo8_mask h0 h1]
  rw [Int32.lt_iff_toInt_lt] at h0 h1
  have e0 : (0 : Int32).toInt = 0 := rfl
  have e1 : (255 : Int32).toInt = 255 := rfl
  obtain ⟨k, hk⟩ : ∃ k : Nat, c.toInt = k := ⟨c.toInt.toNat, by omega⟩
  have hx : c = Int32.ofNat k := Int32.toInt_inj.mp (by rw [hk, Int32.toInt_ofNat_small (by omega)])
  rw [hx]
  exact t ⟨k, by omega⟩
theorem narrow_ch {c : Int32} (h0 : ¬ c < 0) (h1 : ¬ 65535 < c) : narrow .char (.int c) = .int c := by
  have q : narrow .char (.int (pairCh (lo8 c) (hi8 c))) = .int (pairCh (lo8 c) (hi8 c)) := narrow_c _
  rwa [pair_says h0 h1] at q
/-- the array's cell V codes the n chars f 0 .. f (n - 1) by the coder cd, as the JDK does: coder 1 just where some char is above 255 -/
def Cod (cd : Int32) (n : Nat) (f : Nat → Int32) (V : Cell) : Prop := (cd = 0 ∧ V.slots.size = n ∧ ∀ j, j < n → V.slots[j]? = some (.int (lo8 (f j))) ∧ ¬ 255 < f j) ∨ (cd = 1 ∧ V.slots.size = 2 * n ∧ (∀ j, j < n → V.slots[2 * j]? = some (.int (lo8 (f j))) ∧ V.slots[2 * j + 1]? = some (.int (hi8 (f j)))) ∧ ∃ j, j < n ∧ 255 < f j)
theorem Cod.cd {cd : Int32} {n : Nat} {f : Nat → Int32} {V : Cell} (h : Cod cd n f V) : cd = 0 ∨ cd = 1 := h.imp (fun q => q.1) fun q => q.1
theorem Cod.len {cd : Int32} {n : Nat} {f : Nat → Int32} {V : Cell} (h : Cod cd n f V) (hs : V.slots.size < 2 ^ 31) : Int32.ofNat V.slots.size >>> (cd &&& 31) = Int32.ofNat n := by
  rcases h with ⟨rfl, h, -⟩ | ⟨rfl, h, -⟩
  · rw [shr0, h]
  · rw [h, shr1 (by omega)]
/-- **x is a String of the n chars f 0 .. f (n - 1)**, Latin-1 or UTF-16; its array at t has the cell V -/
def Txt (x t : Addr) (V : Cell) (cd : Int32) (n : Nat) (f : Nat → Int32) (U : State) : Prop := Exact "java/lang/String" x U ∧ Has x "java/lang/String" "value" "[B" (.ref t) U ∧ Has x "java/lang/String" "coder" "B" (.int cd) U ∧ XT.Arr .byte t V U ∧ Cod cd n f V ∧ ∀ j, j < n → ¬ f j < 0 ∧ ¬ 65535 < f j
theorem Txt.mv {x t : Addr} {V : Cell} {cd : Int32} {n : Nat} {f : Nat → Int32} {U U' : State} (h : Txt x t V cd n f U) (hal : U.vm.Alike U'.vm) (hh : U'.heap = U.heap) : Txt x t V cd n f U' := ⟨h.1.mv hal hh, h.2.1.mv hal hh, h.2.2.1.mv hal hh, h.2.2.2.1.mv hal hh, h.2.2.2.2⟩
namespace Cdr
def yN : MethodName := ⟨"java/lang/String", "coder", "()B"⟩
abbrev yB : ByteArray := jdk_42_method_152_code
theorem d0 : decode yB 0 = .ok (.getstatic 38, 3) := by decide +kernel
theorem d3 : decode yB 3 = .ok (.ifCond (.eq) 10, 3) := by decide +kernel
theorem d6 : decode yB 6 = .ok (.aload_n 0, 1) := by decide +kernel
theorem d7 : decode yB 7 = .ok (.getfield 15, 3) := by decide +kernel
theorem d10 : decode yB 10 = .ok (.goto 4, 3) := by decide +kernel
theorem d14 : decode yB 14 = .ok (.ireturn, 1) := by decide +kernel
def site : List Cond := [.fieldLink "java/lang/String" 38 "java/lang/String" "COMPACT_STRINGS" "Z", .fieldLink "java/lang/String" 15 "java/lang/String" "coder" "B"]
def tab : Cond := tabOf yN yB 1 (some .byte) site
def P (x : Addr) (cd z : Int32) (args : Array Value) (s : State) : Prop := args = #[.ref x] ∧ Has x "java/lang/String" "coder" "B" (.int cd) s ∧ (cd = 0 ∨ cd = 1) ∧ StaticIs s "java/lang/String" "COMPACT_STRINGS" "Z" (.int z) ∧ ¬ z = 0
def E (cd : Int32) (r : Option Value) (s u : State) : Prop := XT.PureE (some (.int cd)) r s u
theorem law (l : Launch) (x : Addr) (cd z : Int32) : Law l yN 1 0 0 0 yB 1 (some .byte) site (P x cd z) (E cd) [] 0 0 := by
  refine Law.of_walk (plainFor_of_name (by decide +kernel)) (by decide +kernel) (by decide +kernel) (by decide) (fun _ _ h => by rw [h.1]; rfl) (fun _ U U' hal hh h => ⟨h.1, h.2.1.mv hal hh, h.2.2.1, h.2.2.2.1.there hal hh, h.2.2.2.2⟩) (fun r U U' V V' h1 hal h2 h => XT.PureE.mv r U U' V V' h1 hal h2 h) ?_
  intro p e s m args below meth c s₁ X0 hexec hbytes hml hret hlk hnm hown hh0 W hP
  obtain ⟨rfl, hx, hc, s1, hz⟩ := hP
  have c1 : Steps p.tables e below (s₁.setTop (entryFrame m #[.ref x] 1)) (s₁.setTop (mkF m 0 #[.val (.ref x)] [])) := entry rfl
  obtain ⟨T2, X2, q2, st2⟩ := X0.sget hexec hown (wk W (.fieldLink "java/lang/String" 38 "java/lang/String" "COMPACT_STRINGS" "Z")) s1 (fun _ _ h => by rw [hh0]; exact h) (g := (mkF m 0 #[.val (.ref x)] [])) rfl (hb hbytes d0)
  have hh2 := q2.trans hh0
  have c3 : Steps p.tables e below (s₁.setTop (entryFrame m #[.ref x] 1)) (T2.setTop (mkF m 7 #[.val (.ref x)] [.ref x])) := (c1.trans (st2 _ (Steps.refl _))).trans (by
    refine XS.ifNo X2.here hexec rfl (hb hbytes d3) rfl (i0_eq_f hz) ?_
    refine XS.aloadN X2.here hexec rfl (hb hbytes d6) rfl rfl ?_
    exact Steps.refl _)
  obtain ⟨T4, X4, q4, st4⟩ := X2.hget hexec hown (wk W (.fieldLink "java/lang/String" 15 "java/lang/String" "coder" "B")) (hx.mv X2.warmed.alike hh2) (g := (mkF m 7 #[.val (.ref x)] [.ref x])) rfl (rest := []) rfl (hb hbytes d7)
  have c5 : Steps p.tables e below (s₁.setTop (entryFrame m #[.ref x] 1)) (T4.setTop (mkF m 14 #[.val (.ref x)] [.int cd])) := (c3.trans (st4 _ (Steps.refl _))).trans (by
    refine XS.goto X4.here hexec rfl (pc0 := 10) rfl (hb hbytes d10) (by decide) rfl ?_
    exact Steps.refl _)
  exact ⟨T4, some (.int cd), _, _, _, X4, rfl, rfl, rfl, (fun h => by cases h), ⟨rfl, q4.trans hh2⟩, fun fs hl => c5.trans (X4.ireturnOut hexec hret (by rcases hc with rfl | rfl <;> rfl) (Or.inr (Or.inr (Or.inl rfl))) (hb hbytes d14) hl)⟩
end Cdr
namespace Len
def yN : MethodName := ⟨"java/lang/String", "length", "()I"⟩
abbrev yB : ByteArray := jdk_42_method_54_code
theorem d0 : decode yB 0 = .ok (.aload_n 0, 1) := by decide +kernel
theorem d1 : decode yB 1 = .ok (.getfield 9, 3) := by decide +kernel
theorem d4 : decode yB 4 = .ok (.arraylength, 1) := by decide +kernel
theorem d5 : decode yB 5 = .ok (.aload_n 0, 1) := by decide +kernel
theorem d6 : decode yB 6 = .ok (.invokevirtual 335, 3) := by decide +kernel
theorem d9 : decode yB 9 = .ok (.ishr, 1) := by decide +kernel
theorem d10 : decode yB 10 = .ok (.ireturn, 1) := by decide +kernel
def site : List Cond := [.fieldLink "java/lang/String" 9 "java/lang/String" "value" "[B", Cdr.tab] ++ virtW "java/lang/String" 335 "java/lang/String" Cdr.yN Cdr.yN
def tab : Cond := tabOf yN yB 1 (some .int) site
def P (x t : Addr) (V : Cell) (cd : Int32) (n : Nat) (f : Nat → Int32) (z : Int32) (args : Array Value) (s : State) : Prop := args = #[.ref x] ∧ Txt x t V cd n f s ∧ StaticIs s "java/lang/String" "COMPACT_STRINGS" "Z" (.int z) ∧ ¬ z = 0
def E (n : Nat) (r : Option Value) (s u : State) : Prop := XT.PureE (some (.int (Int32.ofNat n))) r s u
/-- length() of a String of n chars, in either coding -/
theorem law (l : Launch) (x t : Addr) (V : Cell) (cd : Int32) (n : Nat) (f : Nat → Int32) (z : Int32) : Law l yN 1 0 1 13 yB 1 (some .int) site (P x t V cd n f z) (E n) [] 0 0 := by
  refine Law.of_walk (plainFor_of_name (by decide +kernel)) (by decide +kernel) (by decide +kernel) (by decide) (fun _ _ h => by rw [h.1]; rfl) (fun _ U U' hal hh h => ⟨h.1, h.2.1.mv hal hh, h.2.2.1.there hal hh, h.2.2.2⟩) (fun r U U' V V' h1 hal h2 h => XT.PureE.mv r U U' V V' h1 hal h2 h) ?_
  intro p e s m args below meth c s₁ X0 hexec hbytes hml hret hlk hnm hown hh0 W hP
  obtain ⟨rfl, hx, s1, hz⟩ := hP
  have v31 := hx.2.2.2.1.2.2.2
  have c1 : Steps p.tables e below (s₁.setTop (entryFrame m #[.ref x] 1)) (s₁.setTop (mkF m 1 #[.val (.ref x)] [.ref x])) := Steps.trans (entry rfl) (by
    show Steps p.tables e below (s₁.setTop (mkF m 0 #[.val (.ref x)] [])) _
    refine XS.aloadN X0.here hexec rfl (hb hbytes d0) rfl rfl ?_
    exact Steps.refl _)
  obtain ⟨T2, X2, q2, st2⟩ := X0.hget hexec hown (wk W (.fieldLink "java/lang/String" 9 "java/lang/String" "value" "[B")) (hx.mv X0.warmed.alike hh0).2.1 (g := (mkF m 1 #[.val (.ref x)] [.ref x])) rfl (rest := []) rfl (hb hbytes d1)
  have hh2 := q2.trans hh0
  have hx2 := hx.mv X2.warmed.alike hh2
  have c3 : Steps p.tables e below (s₁.setTop (entryFrame m #[.ref x] 1)) (T2.setTop (mkF m 6 #[.val (.ref x)] [.ref x, .int (Int32.ofNat V.slots.size)])) := (c1.trans (st2 _ (Steps.refl _))).trans (by
    refine X2.alen hexec hx2.2.2.2.1 rfl rfl (hb hbytes d4) ?_
    refine XS.aloadN X2.here hexec rfl (hb hbytes d5) rfl rfl ?_
    exact Steps.refl _)
  obtain ⟨v4, T4, X4, E4, g4⟩ := X2.callV hexec (Cdr.law l x cd z) hown (wks W (virtW "java/lang/String" 335 "java/lang/String" Cdr.yN Cdr.yN)) rfl (by decide) (wk W Cdr.tab) (W := 1) (Nat.le_of_ble_eq_true rfl) (Nat.le_of_ble_eq_true rfl) (Nat.le_refl _) (Nat.le_refl _) (hx2.1.fc X2.warmed.alike) hx2.1.is (g := (mkF m 6 #[.val (.ref x)] [.ref x, .int (Int32.ofNat V.slots.size)])) rfl (by rw [hml]; rfl) c3 (argsL := []) (rest := [.int (Int32.ofNat V.slots.size)]) rfl rfl (by show 2 * 0 + (1 + 0) ≤ _; decide) (hb hbytes d6) (⟨rfl, hx2.2.2.1, hx.2.2.2.2.1.cd, s1.there X2.warmed.alike hh2, hz⟩)
  obtain ⟨rfl, q4⟩ := E4
  have c5 : Steps p.tables e below (s₁.setTop (entryFrame m #[.ref x] 1)) (T4.setTop (mkF m 10 #[.val (.ref x)] [.int (Int32.ofNat V.slots.size >>> (cd &&& 31))])) := Steps.trans g4 (by
    refine ishr X4.here hexec rfl (hb hbytes d9) rfl ?_
    exact Steps.refl _)
  rw [hx.2.2.2.2.1.len v31] at c5
  exact ⟨T4, some (.int (Int32.ofNat n)), _, _, _, X4, rfl, rfl, rfl, (fun h => by cases h), ⟨rfl, q4.trans hh2⟩, fun fs hl => c5.trans (X4.ireturnOut hexec hret rfl (Or.inl rfl) (hb hbytes d10) hl)⟩
theorem pays {l : Launch} {R : Room} {p : Program} {e : Env} {below : List Frame} {s : State} {sargs : Array Value} {len W : Nat} (x t : Addr) (V : Cell) (cd : Int32) (n : Nat) (f : Nat → Int32) (z : Int32) (htab : tab.before sargs s = true) (hfr : 2 ≤ R.frames) (hlo : W + 25 ≤ R.locals) :
    Back l R p e below s sargs yN len W (fun A₁ a₁ => A₁.cells + 0 ≤ R.cells ∧ A₁.slots + 0 ≤ R.slots ∧ P x t V cd n f z a₁ A₁.U) (fun A₁ _ v₁ B₁ => E n v₁ A₁.U B₁.U ∧ B₁.locs = A₁.locs ++ [] ∧ B₁.cells = A₁.cells + 0 ∧ B₁.slots = A₁.slots + 0) :=
  (law l x t V cd n f z).pays htab hfr (by omega)
end Len
namespace IsL
def yN : MethodName := ⟨"java/lang/String", "isLatin1", "()Z"⟩
abbrev yB : ByteArray := jdk_42_method_154_code
theorem d0 : decode yB 0 = .ok (.getstatic 38, 3) := by decide +kernel
theorem d3 : decode yB 3 = .ok (.ifCond (.eq) 14, 3) := by decide +kernel
theorem d6 : decode yB 6 = .ok (.aload_n 0, 1) := by decide +kernel
theorem d7 : decode yB 7 = .ok (.getfield 15, 3) := by decide +kernel
theorem d10 : decode yB 10 = .ok (.ifCond (.ne) 7, 3) := by decide +kernel
theorem d13 : decode yB 13 = .ok (.iconst 1, 1) := by decide +kernel
theorem d14 : decode yB 14 = .ok (.goto 4, 3) := by decide +kernel
theorem d17 : decode yB 17 = .ok (.iconst 0, 1) := by decide +kernel
theorem d18 : decode yB 18 = .ok (.ireturn, 1) := by decide +kernel
def site : List Cond := [.fieldLink "java/lang/String" 38 "java/lang/String" "COMPACT_STRINGS" "Z", .fieldLink "java/lang/String" 15 "java/lang/String" "coder" "B"]
def tab : Cond := tabOf yN yB 1 (some .boolean) site
def P (x : Addr) (cd z : Int32) (args : Array Value) (s : State) : Prop := args = #[.ref x] ∧ Has x "java/lang/String" "coder" "B" (.int cd) s ∧ (cd = 0 ∨ cd = 1) ∧ StaticIs s "java/lang/String" "COMPACT_STRINGS" "Z" (.int z) ∧ ¬ z = 0
def E (cd : Int32) (r : Option Value) (s u : State) : Prop := XT.PureE (some (.int (1 - cd))) r s u
theorem law (l : Launch) (x : Addr) (cd z : Int32) : Law l yN 1 0 0 0 yB 1 (some .boolean) site (P x cd z) (E cd) [] 0 0 := by
  refine Law.of_walk (plainFor_of_name (by decide +kernel)) (by decide +kernel) (by decide +kernel) (by decide) (fun _ _ h => by rw [h.1]; rfl) (fun _ U U' hal hh h => ⟨h.1, h.2.1.mv hal hh, h.2.2.1, h.2.2.2.1.there hal hh, h.2.2.2.2⟩) (fun r U U' V V' h1 hal h2 h => XT.PureE.mv r U U' V V' h1 hal h2 h) ?_
  intro p e s m args below meth c s₁ X0 hexec hbytes hml hret hlk hnm hown hh0 W hP
  obtain ⟨rfl, hx, hc, s1, hz⟩ := hP
  have c1 : Steps p.tables e below (s₁.setTop (entryFrame m #[.ref x] 1)) (s₁.setTop (mkF m 0 #[.val (.ref x)] [])) := entry rfl
  obtain ⟨T2, X2, q2, st2⟩ := X0.sget hexec hown (wk W (.fieldLink "java/lang/String" 38 "java/lang/String" "COMPACT_STRINGS" "Z")) s1 (fun _ _ h => by rw [hh0]; exact h) (g := (mkF m 0 #[.val (.ref x)] [])) rfl (hb hbytes d0)
  have hh2 := q2.trans hh0
  have c3 : Steps p.tables e below (s₁.setTop (entryFrame m #[.ref x] 1)) (T2.setTop (mkF m 7 #[.val (.ref x)] [.ref x])) := (c1.trans (st2 _ (Steps.refl _))).trans (by
    refine XS.ifNo X2.here hexec rfl (hb hbytes d3) rfl (i0_eq_f hz) ?_
    refine XS.aloadN X2.here hexec rfl (hb hbytes d6) rfl rfl ?_
    exact Steps.refl _)
  obtain ⟨T4, X4, q4, st4⟩ := X2.hget hexec hown (wk W (.fieldLink "java/lang/String" 15 "java/lang/String" "coder" "B")) (hx.mv X2.warmed.alike hh2) (g := (mkF m 7 #[.val (.ref x)] [.ref x])) rfl (rest := []) rfl (hb hbytes d7)
  have c5 : Steps p.tables e below (s₁.setTop (entryFrame m #[.ref x] 1)) (T4.setTop (mkF m 10 #[.val (.ref x)] [.int cd])) := c3.trans (st4 _ (Steps.refl _))
  have c6 : Steps p.tables e below (s₁.setTop (entryFrame m #[.ref x] 1)) (T4.setTop (mkF m 18 #[.val (.ref x)] [.int (1 - cd)])) := by
    rcases hc with rfl | rfl
    · exact c5.trans (by
        refine XS.ifNo X4.here hexec rfl (hb hbytes d10) rfl (i0_ne_f rfl) ?_
        refine iconstV X4.here hexec rfl 1 (hb hbytes d13) (by decide) ?_
        refine XS.goto X4.here hexec rfl (pc0 := 14) rfl (hb hbytes d14) (by decide) rfl ?_
        exact Steps.refl _)
    · exact c5.trans (by
        refine XS.ifYes X4.here hexec rfl (pc0 := 10) rfl (hb hbytes d10) rfl (i0_ne_t (by decide)) (by decide) rfl ?_
        refine iconstV X4.here hexec rfl 0 (hb hbytes d17) (by decide) ?_
        exact Steps.refl _)
  exact ⟨T4, some (.int (1 - cd)), _, _, _, X4, rfl, rfl, rfl, (fun h => by cases h), ⟨rfl, q4.trans hh2⟩, fun fs hl => c6.trans (X4.ireturnOut hexec hret (by rcases hc with rfl | rfl <;> rfl) (Or.inr (Or.inl rfl)) (hb hbytes d18) hl)⟩
end IsL
namespace LChA
def yN : MethodName := ⟨"java/lang/StringLatin1", "charAt", "([BI)C"⟩
abbrev yB : ByteArray := jdk_43_method_2_code
theorem d0 : decode yB 0 = .ok (.iload_n 1, 1) := by decide +kernel
theorem d1 : decode yB 1 = .ok (.aload_n 0, 1) := by decide +kernel
theorem d2 : decode yB 2 = .ok (.arraylength, 1) := by decide +kernel
theorem d3 : decode yB 3 = .ok (.invokestatic 9, 3) := by decide +kernel
theorem d6 : decode yB 6 = .ok (.aload_n 0, 1) := by decide +kernel
theorem d7 : decode yB 7 = .ok (.iload_n 1, 1) := by decide +kernel
theorem d8 : decode yB 8 = .ok (.baload, 1) := by decide +kernel
theorem d9 : decode yB 9 = .ok (.sipush 255, 3) := by decide +kernel
theorem d12 : decode yB 12 = .ok (.iand, 1) := by decide +kernel
theorem d13 : decode yB 13 = .ok (.i2c, 1) := by decide +kernel
theorem d14 : decode yB 14 = .ok (.ireturn, 1) := by decide +kernel
def site : List Cond := [JO.Str_checkIndex.tab] ++ staticW "java/lang/StringLatin1" 9 JO.Str_checkIndex.yN
def tab : Cond := tabOf yN yB 2 (some .char) site
def P (t : Addr) (V : Cell) (i : Nat) (u : Int32) (fm : Value) (args : Array Value) (s : State) : Prop := args = #[.ref t, .int (Int32.ofNat i)] ∧ XT.Arr .byte t V s ∧ V.slots[i]? = some (.int u) ∧ (StaticIs s "jdk/internal/util/Preconditions" "SIOOBE_FORMATTER" "Ljava/util/function/BiFunction;" fm ∧ fm.isRef = true)
def E (u : Int32) (r : Option Value) (s w : State) : Prop := XT.PureE (some (.int (chr8 u))) r s w
theorem law (l : Launch) (t : Addr) (V : Cell) (i : Nat) (u : Int32) (fm : Value) : Law l yN 2 2 2 27 yB 2 (some .char) site (P t V i u fm) (E u) [] 0 0 := by
  refine Law.of_walk (plainFor_of_name (by decide +kernel)) (by decide +kernel) (by decide +kernel) (by decide) (fun _ _ h => by rw [h.1]; rfl) (fun _ U U' hal hh h => ⟨h.1, h.2.1.mv hal hh, h.2.2.1, h.2.2.2.1.there hal hh, h.2.2.2.2⟩) (fun r U U' V V' h1 hal h2 h => XT.PureE.mv r U U' V V' h1 hal h2 h) ?_
  intro p e s m args below meth c s₁ X0 hexec hbytes hml hret hlk hnm hown hh0 W hP
  obtain ⟨rfl, hV, hu, s1, rf⟩ := hP
  have v31 := hV.2.2.2
  have hi : i < V.slots.size := (Array.getElem?_eq_some_iff.mp hu).1
  have c1 : Steps p.tables e below (s₁.setTop (entryFrame m #[.ref t, .int (Int32.ofNat i)] 2)) (s₁.setTop (mkF m 0 #[.val (.ref t), .val (.int (Int32.ofNat i))] [])) := entry rfl
  have c2 : Steps p.tables e below (s₁.setTop (entryFrame m #[.ref t, .int (Int32.ofNat i)] 2)) (s₁.setTop (mkF m 3 #[.val (.ref t), .val (.int (Int32.ofNat i))] [.int (Int32.ofNat V.slots.size), .int (Int32.ofNat i)])) := c1.trans (by
    refine XS.iloadN X0.here hexec rfl (hb hbytes d0) rfl ?_
    refine XS.aloadN X0.here hexec rfl (hb hbytes d1) rfl rfl ?_
    refine X0.alen hexec (hV.mv X0.warmed.alike hh0) rfl rfl (hb hbytes d2) ?_
    exact Steps.refl _)
  obtain ⟨v3, T3, X3, E3, g3⟩ := X0.callS hexec (JO.Str_checkIndex.law l (Int32.ofNat i) (Int32.ofNat V.slots.size) fm) hown (wks W (staticW "java/lang/StringLatin1" 9 JO.Str_checkIndex.yN)) (wk W JO.Str_checkIndex.tab) (W := 0) (Nat.le_of_ble_eq_true rfl) (Nat.le_of_ble_eq_true rfl) (Nat.le_refl _) (Nat.le_refl _) (g := (mkF m 3 #[.val (.ref t), .val (.int (Int32.ofNat i))] [.int (Int32.ofNat V.slots.size), .int (Int32.ofNat i)])) rfl (by rw [hml]; rfl) c2 (argsL := [.int (Int32.ofNat i), .int (Int32.ofNat V.slots.size)]) (rest := []) rfl rfl (by show 2 * 0 + 0 ≤ _; decide) (hb hbytes d3) (⟨rfl, rf, s1.there X0.warmed.alike hh0, Int32.ofNat_not_neg (by omega), lt32 v31 hi⟩)
  obtain ⟨rfl, q3⟩ := E3
  have hh3 := q3.trans hh0
  have c4 : Steps p.tables e below (s₁.setTop (entryFrame m #[.ref t, .int (Int32.ofNat i)] 2)) (T3.setTop (mkF m 14 #[.val (.ref t), .val (.int (Int32.ofNat i))] [.int (chr8 u)])) := Steps.trans g3 (by
    refine XS.aloadN X3.here hexec rfl (hb hbytes d6) rfl rfl ?_
    refine XS.iloadN X3.here hexec rfl (hb hbytes d7) rfl ?_
    refine X3.aget hexec (hV.mv X3.warmed.alike hh3) rfl hu rfl rfl (hb hbytes d8) ?_
    refine sipushV X3.here hexec rfl 255 (hb hbytes d9) (by decide) ?_
    refine XS.iand X3.here hexec rfl (hb hbytes d12) rfl ?_
    refine i2c X3.here hexec rfl (hb hbytes d13) rfl ?_
    exact Steps.refl _)
  exact ⟨T3, some (.int (chr8 u)), _, _, _, X3, rfl, rfl, rfl, (fun h => by cases h), ⟨rfl, hh3⟩, fun fs hl => c4.trans (X3.ireturnOut hexec hret (narrow_c _) (Or.inr (Or.inr (Or.inr (Or.inl rfl)))) (hb hbytes d14) hl)⟩
end LChA
end StrChars
namespace StrChars.Road
open Jvm Sem ClassFile Op Lib Jvm.Stand Jvm.Free Jvm.Free.XT
open Jvm.Lib.Cold (StaticIs)
theorem consq {a : Array Value} {s : State} {c : Jvm.Cond} {L : List Jvm.Cond} (h0 : c.before a s = true) (h : ∀ w ∈ L, w.before a s = true) : ∀ w ∈ c :: L, w.before a s = true := fun w hw => (List.mem_cons.mp hw).elim (fun e => e ▸ h0) (h w)
/-- the words of String.length(), either coding -/
abbrev wordsLen : List Jvm.Cond := [.code Len.yN Len.yB 1 (some .int), .initialized ST, .fieldLink ST 9 ST "value" "[B", .fieldLink ST 38 ST "COMPACT_STRINGS" "Z", .fieldLink ST 15 ST "coder" "B", .code Cdr.yN Cdr.yB 1 (some .byte), .methodLink ST 335 Cdr.yN, .declares Cdr.yN, .selects ST Cdr.yN Cdr.yN, .instanceMethod Cdr.yN]
theorem tabLen_of {a : Array Value} {s : State} (h : ∀ w ∈ wordsLen, w.before a s = true) : Len.tab.before a s = true := by
  have hc : Cdr.tab.before a s = true := unparts (wk h (.code Cdr.yN Cdr.yB 1 (some .byte))) (wks h (.initialized Cdr.yN.cls :: Cdr.site))
  have q := consq hc h
  exact unparts (wk q (.code Len.yN Len.yB 1 (some .int))) (wks q (.initialized Len.yN.cls :: Len.site))
theorem movedLen {Z s : State} {a0 args : Array Value} (hZ : Z.Warmed39 s.vm) (hw : ∀ d ∈ wordsLen, d.before a0 Z = true) : ∀ d ∈ wordsLen, d.before args s = true := fun d hd => by
  have q := hw d hd
  have t : ∀ d ∈ wordsLen, d = .arrayClass .byte ∨ (d.onTables && d.keepsFace) = true := by decide +kernel
  rcases t d hd with rfl | t
  · exact RoadKit.mvA hZ q
  · exact RoadKit.mv hZ q t
/-- the bytes of the chars cs, low before high -/
def wideBytes : List Int32 → List Value
  | [] => []
  | c :: cs => .int (lo8 c) :: .int (hi8 c) :: wideBytes cs
theorem wide_lo (d : Value) : ∀ (cs : List Int32) (j : Nat), j < cs.length → (wideBytes cs).getD (2 * j) d = .int (lo8 (cs.getD j 0))
  | [], j, h => absurd h (Nat.not_lt_zero j)
  | c :: cs, 0, _ => rfl
  | c :: cs, j + 1, h => by
    have q := wide_lo d cs j (by simpa using h)
    rw [show 2 * (j + 1) = 2 * j + 1 + 1 from by omega]
    simpa [wideBytes] using q
theorem wide_hi (d : Value) : ∀ (cs : List Int32) (j : Nat), j < cs.length → (wideBytes cs).getD (2 * j + 1) d = .int (hi8 (cs.getD j 0))
  | [], j, h => absurd h (Nat.not_lt_zero j)
  | c :: cs, 0, _ => rfl
  | c :: cs, j + 1, h => by
    have q := wide_hi d cs j (by simpa using h)
    rw [show 2 * (j + 1) + 1 = 2 * j + 1 + 1 + 1 from by omega]
    simpa [wideBytes] using q
theorem low_at (d : Value) (cs : List Int32) (j : Nat) (h : j < cs.length) : (cs.map fun c => Value.int (lo8 c)).getD j d = .int (lo8 (cs.getD j 0)) := by
  simp [List.getD_eq_getElem?_getD, h]
/-- an array of N2 bytes vs codes the chars cs by the coder cd -/
def CodA (cs : List Int32) (cd N2 : Int32) (vs : List Value) : Prop := (cd = 0 ∧ N2 = Int32.ofNat cs.length ∧ vs = (cs.map fun c => Value.int (lo8 c)) ∧ ∀ c ∈ cs, ¬ 255 < c) ∨ (cd = 1 ∧ N2 = Int32.ofNat (2 * cs.length) ∧ vs = wideBytes cs ∧ ∃ c ∈ cs, 255 < c)
theorem CodA.cod {cs : List Int32} {cd N2 : Int32} {vs : List Value} {V : Cell} (h : CodA cs cd N2 vs) (hn : 2 * cs.length < 2 ^ 31) (hs : V.slots.size = N2.toNatClampNeg) (hv : RoadKit.Has V vs (.int 0)) : Cod cd cs.length (fun j => cs.getD j 0) V := by
  rcases h with ⟨rfl, rfl, rfl, h⟩ | ⟨rfl, rfl, rfl, c, hc, hw⟩
  · rw [n32 (by omega)] at hs
    exact Or.inl ⟨rfl, hs, fun j hj => ⟨by rw [hv j (by omega), low_at _ _ _ hj], by
      have e : cs.getD j 0 = cs[j] := by simp [List.getD_eq_getElem?_getD, hj]
      show ¬ 255 < cs.getD j 0
      rw [e]; exact h _ (List.getElem_mem _)⟩⟩
  · rw [n32 (by omega)] at hs
    obtain ⟨j, hj, rfl⟩ := List.getElem_of_mem hc
    exact Or.inr ⟨rfl, hs, fun j hj => ⟨by rw [hv _ (by omega), wide_lo _ _ _ hj], by rw [hv _ (by omega), wide_hi _ _ _ hj]⟩, j, hj, by
      have e : cs.getD j 0 = cs[j] := by simp [List.getD_eq_getElem?_getD, hj]
      show 255 < cs.getD j 0
      rw [e]; exact hw⟩
/-- an object of exactly java/lang/String, its two fields found: as the laws ask it -/
theorem strObj {Z U : State} {a0 : Array Value} {kI : Nat} (wi : (Jvm.Cond.instantiable ST kI).before a0 Z = true) (al : Z.vm.Alike U.vm) {x : Addr} {v0 c0 : Value} (E : RoadKit.Exa Z U.heap x ST) (V : RoadKit.Fld Z U.heap x ST "value" "[B" v0) (C : RoadKit.Fld Z U.heap x ST "coder" "B" c0) :
    ∃ (D : Cell) (fV fC : Field), Blank ST x D U ∧ Found ST "value" "[B" fV U ∧ Found ST "coder" "B" fC U ∧ D.slots[fV.slot]? = some v0 ∧ D.slots[fC.slot]? = some c0 ∧ RoadKit.slotOf Z ST "value" "[B" = fV.slot ∧ RoadKit.slotOf Z ST "coder" "B" = fC.slot := by
  obtain ⟨D, cfV, kV, iV, fV, hD, gV, stV, knV, obV, asV, slV⟩ := V
  obtain ⟨D', cfC, kC, iC, fC, hD', gC, stC, -, -, asC, slC⟩ := C
  cases hD.symm.trans hD'
  obtain ⟨D2, kD, e1, e2, e3, e4, e5⟩ := E
  cases hD.symm.trans e1
  obtain ⟨c2, k2, i1, i2, i3, -⟩ := Cond.instantiable_spec wi
  cases e2.symm.trans i1
  cases e3.symm.trans i2
  obtain ⟨kU, u1, u2⟩ := al.2.2 _ _ e3
  exact ⟨D, fV, fC, ⟨hD, ⟨knV, fun q hq => by rw [hq] at obV; cases obV⟩, by rw [al.findClass]; exact e2, kU, u1, by rw [u2]; exact i3, by rw [u2]; exact e5 i3⟩, ⟨SBG.found_only al ⟨cfV, kV, iV, gV⟩, stV⟩, ⟨SBG.found_only al ⟨cfC, kC, iC, gC⟩, stC⟩, slV, slC, by simp [RoadKit.slotOf, gV], by simp [RoadKit.slotOf, gC]⟩
theorem sta_is {Z U : State} (al : Z.vm.Alike U.vm) {C n d : String} {v : Value} (S : RoadKit.Sta Z U.heap C n d v) : StaticIs U C n d v := by
  obtain ⟨cfS, iS, kS, fS, st, cS, t1, t2, t3, t4, t5, t6, t7⟩ := S
  exact StaticIs.there (s := { Z with heap := U.heap }) ⟨cfS, iS, kS, fS, st, cS, t1, t2, t3, t4, t5, (fun q => by rw [q] at t6; cases t6), t7⟩ al rfl
/-- **length() OF SUCH A STRING** -/
theorem lenW {p : Program} {l : Launch} {e : Env} {R : Room} {s : State} {args : Array Value} {below : List Frame} {len W : Nat} {Z : State} {a0 : Array Value} {h : Heap} (hZ : Z.Warmed39 s.vm) (hw : ∀ d ∈ wordsLen, d.before a0 Z = true) {kI : Nat} (wi : (Jvm.Cond.instantiable ST kI).before a0 Z = true)
    {x t : Addr} {kb : ClassId} {cs : List Int32} {cd N2 z : Int32} {vs : List Value} (E : RoadKit.Exa Z h x ST) (V : RoadKit.Fld Z h x ST "value" "[B" (.ref t)) (C : RoadKit.Fld Z h x ST "coder" "B" (.int cd)) (K : RoadKit.Arv Z h t kb .byte N2 vs (.int 0)) (hc : CodA cs cd N2 vs) (hb : ∀ c ∈ cs, ¬ c < 0 ∧ ¬ (65535 : Int32) < c)
    (S : RoadKit.Sta Z h ST "COMPACT_STRINGS" "Z" (.int z)) (hz : ¬ z = 0) (l2 : cs.length ≤ 4000) (hfr : 2 ≤ R.frames) (hlo : W + 25 ≤ R.locals) :
    Back l R p e below s args (⟨"java/lang/String", "length", "()I"⟩ : MethodName) len W (fun P a => a = #[.ref x] ∧ P.U.heap = h ∧ P.cells + 0 ≤ R.cells ∧ P.slots + 0 ≤ R.slots)
      (fun P _ v B => ∃ L, (v = some (.int (Int32.ofNat cs.length)) ∧ L = [] ∧ B.U.heap = h) ∧ B.locs = P.locs ++ L ∧ B.cells = P.cells + 0 ∧ B.slots = P.slots + 0) := by
  obtain ⟨A, K1, K2, K3, K4, K5, K6⟩ := K
  have hcod := hc.cod (by omega) K3 K5
  intro m meth c P g ig mk a X hg hsize hdg hW hn hp'
  obtain ⟨rfl, rfl, r1, r2⟩ := hp'
  have al : Z.vm.Alike P.U.vm := hZ.alike.trans X.warmed.alike
  obtain ⟨D, fV, fC, hB, F1, F2, g1, g2, -, -⟩ := strObj wi al E V C
  have hx : Txt x t A cd cs.length (fun j => cs.getD j 0) P.U := ⟨⟨_, hB.2.2.1, D, hB.1, rfl, by cases q : D.vm <;> first | rfl | exact absurd q (hB.2.1.2 _)⟩, Has.of hB F1 g1, Has.of hB F2 g2, ⟨K1.1, State.isArrayOf_alike al K1.2.1, K1.2.2, by rcases hcod with ⟨-, q, -⟩ | ⟨-, q, -⟩ <;> omega⟩, hcod, fun j hj => by
    have e : cs.getD j 0 = cs[j] := by simp [List.getD_eq_getElem?_getD, hj]
    show ¬ cs.getD j 0 < 0 ∧ ¬ 65535 < cs.getD j 0
    rw [e]; exact hb _ (List.getElem_mem _)⟩
  obtain ⟨v, B, X', ⟨⟨hv, hh⟩, hl, hk, hs⟩, st⟩ := Len.pays x t A cd cs.length (fun j => cs.getD j 0) z (tabLen_of (movedLen hZ hw)) hfr hlo m meth c P g ig mk _ X hg hsize hdg hW hn ⟨r1, r2, rfl, hx, sta_is al S, hz⟩
  exact ⟨v, B, X', ⟨[], ⟨hv, rfl, hh⟩, hl, hk, hs⟩, st⟩
end StrChars.Road
namespace StrChars
open Jvm Sem ClassFile Op Lib Jvm.Stand Jvm.Free.XT Jvm.Free.ALB Jvm.Free.JM Jvm.Free
open Jvm.Lib.Cold (StaticIs)
namespace Emp
def yN : MethodName := ⟨"java/lang/String", "isEmpty", "()Z"⟩
abbrev yB : ByteArray := jdk_42_method_55_code
theorem d0 : decode yB 0 = .ok (.aload_n 0, 1) := by decide +kernel
theorem d1 : decode yB 1 = .ok (.getfield 9, 3) := by decide +kernel
theorem d4 : decode yB 4 = .ok (.arraylength, 1) := by decide +kernel
theorem d5 : decode yB 5 = .ok (.ifCond (.ne) 7, 3) := by decide +kernel
theorem d8 : decode yB 8 = .ok (.iconst 1, 1) := by decide +kernel
theorem d9 : decode yB 9 = .ok (.goto 4, 3) := by decide +kernel
theorem d12 : decode yB 12 = .ok (.iconst 0, 1) := by decide +kernel
theorem d13 : decode yB 13 = .ok (.ireturn, 1) := by decide +kernel
def site : List Cond := [.fieldLink "java/lang/String" 9 "java/lang/String" "value" "[B"]
def tab : Cond := tabOf yN yB 1 (some .boolean) site
def P (x t : Addr) (V : Cell) (cd : Int32) (n : Nat) (f : Nat → Int32) (args : Array Value) (s : State) : Prop := args = #[.ref x] ∧ Txt x t V cd n f s
def E (n : Nat) (r : Option Value) (s u : State) : Prop := XT.PureE (some (.int (if n = 0 then 1 else 0))) r s u
/-- isEmpty() of a String of n chars -/
theorem law (l : Launch) (x t : Addr) (V : Cell) (cd : Int32) (n : Nat) (f : Nat → Int32) : Law l yN 1 0 0 0 yB 1 (some .boolean) site (P x t V cd n f) (E n) [] 0 0 := by
  refine Law.of_walk (plainFor_of_name (by decide +kernel)) (by decide +kernel) (by decide +kernel) (by decide) (fun _ _ h => by rw [h.1]; rfl) (fun _ U U' hal hh h => ⟨h.1, h.2.mv hal hh⟩) (fun r U U' V V' h1 hal h2 h => XT.PureE.mv r U U' V V' h1 hal h2 h) ?_
  intro p e s m args below meth c s₁ X0 hexec hbytes hml hret hlk hnm hown hh0 W hP
  obtain ⟨rfl, hx⟩ := hP
  have v31 := hx.2.2.2.1.2.2.2
  have c1 : Steps p.tables e below (s₁.setTop (entryFrame m #[.ref x] 1)) (s₁.setTop (mkF m 1 #[.val (.ref x)] [.ref x])) := Steps.trans (entry rfl) (by
    show Steps p.tables e below (s₁.setTop (mkF m 0 #[.val (.ref x)] [])) _
    refine XS.aloadN X0.here hexec rfl (hb hbytes d0) rfl rfl ?_
    exact Steps.refl _)
  obtain ⟨T2, X2, q2, st2⟩ := X0.hget hexec hown (wk W (.fieldLink "java/lang/String" 9 "java/lang/String" "value" "[B")) (hx.mv X0.warmed.alike hh0).2.1 (g := (mkF m 1 #[.val (.ref x)] [.ref x])) rfl (rest := []) rfl (hb hbytes d1)
  have hh2 := q2.trans hh0
  have hx2 := hx.mv X2.warmed.alike hh2
  have c3 : Steps p.tables e below (s₁.setTop (entryFrame m #[.ref x] 1)) (T2.setTop (mkF m 5 #[.val (.ref x)] [.int (Int32.ofNat V.slots.size)])) := (c1.trans (st2 _ (Steps.refl _))).trans (by
    refine X2.alen hexec hx2.2.2.2.1 rfl rfl (hb hbytes d4) ?_
    exact Steps.refl _)
  have hz : V.slots.size = 0 ↔ n = 0 := by
    rcases hx.2.2.2.2.1 with ⟨-, q, -⟩ | ⟨-, q, -⟩ <;> omega
  by_cases h0 : n = 0
  · have c4 : Steps p.tables e below (s₁.setTop (entryFrame m #[.ref x] 1)) (T2.setTop (mkF m 13 #[.val (.ref x)] [.int 1])) := c3.trans (by
      refine XS.ifNo X2.here hexec rfl (hb hbytes d5) rfl (i0_ne_f (by rw [hz.mpr h0]; rfl)) ?_
      refine iconstV X2.here hexec rfl 1 (hb hbytes d8) (by decide) ?_
      refine XS.goto X2.here hexec rfl (pc0 := 9) rfl (hb hbytes d9) (by decide) rfl ?_
      exact Steps.refl _)
    exact ⟨T2, some (.int 1), _, _, _, X2, rfl, rfl, rfl, (fun h => by cases h), ⟨by rw [if_pos h0], hh2⟩, fun fs hl => c4.trans (X2.ireturnOut hexec hret rfl (Or.inr (Or.inl rfl)) (hb hbytes d13) hl)⟩
  · have c4 : Steps p.tables e below (s₁.setTop (entryFrame m #[.ref x] 1)) (T2.setTop (mkF m 13 #[.val (.ref x)] [.int 0])) := c3.trans (by
      refine XS.ifYes X2.here hexec rfl (pc0 := 5) rfl (hb hbytes d5) rfl (i0_ne_t (nz32 v31 (by omega))) (by decide) rfl ?_
      refine iconstV X2.here hexec rfl 0 (hb hbytes d12) (by decide) ?_
      exact Steps.refl _)
    exact ⟨T2, some (.int 0), _, _, _, X2, rfl, rfl, rfl, (fun h => by cases h), ⟨by rw [if_neg h0], hh2⟩, fun fs hl => c4.trans (X2.ireturnOut hexec hret rfl (Or.inr (Or.inl rfl)) (hb hbytes d13) hl)⟩
theorem pays {l : Launch} {R : Room} {p : Program} {e : Env} {below : List Frame} {s : State} {sargs : Array Value} {len W : Nat} (x t : Addr) (V : Cell) (cd : Int32) (n : Nat) (f : Nat → Int32) (htab : tab.before sargs s = true) (hfr : 1 ≤ R.frames) (hlo : W + 12 ≤ R.locals) :
    Back l R p e below s sargs yN len W (fun A₁ a₁ => A₁.cells + 0 ≤ R.cells ∧ A₁.slots + 0 ≤ R.slots ∧ P x t V cd n f a₁ A₁.U) (fun A₁ _ v₁ B₁ => E n v₁ A₁.U B₁.U ∧ B₁.locs = A₁.locs ++ [] ∧ B₁.cells = A₁.cells + 0 ∧ B₁.slots = A₁.slots + 0) :=
  (law l x t V cd n f).pays htab hfr (by omega)
end Emp
end StrChars
namespace StrChars.Road
open Jvm Sem ClassFile Op Lib Jvm.Stand Jvm.Free Jvm.Free.XT
open Jvm.Lib.Cold (StaticIs)
/-- the words of String.isEmpty() -/
abbrev wordsEmp : List Jvm.Cond := [.code Emp.yN Emp.yB 1 (some .boolean), .initialized ST, .fieldLink ST 9 ST "value" "[B"]
theorem tabEmp_of {a : Array Value} {s : State} (h : ∀ w ∈ wordsEmp, w.before a s = true) : Emp.tab.before a s = true := unparts (wk h (.code Emp.yN Emp.yB 1 (some .boolean))) (wks h (.initialized Emp.yN.cls :: Emp.site))
theorem movedEmp {Z s : State} {a0 args : Array Value} (hZ : Z.Warmed39 s.vm) (hw : ∀ d ∈ wordsEmp, d.before a0 Z = true) : ∀ d ∈ wordsEmp, d.before args s = true := fun d hd => by
  have t : ∀ d ∈ wordsEmp, (d.onTables && d.keepsFace) = true := by decide +kernel
  exact RoadKit.mv hZ (hw d hd) (t d hd)
/-- the road's facts of a String, as the laws ask it -/
theorem txt_of {Z U : State} {a0 : Array Value} {kI : Nat} (wi : (Jvm.Cond.instantiable ST kI).before a0 Z = true) (al : Z.vm.Alike U.vm) {x t : Addr} {kb : ClassId} {cs : List Int32} {cd N2 : Int32} {vs : List Value} (E : RoadKit.Exa Z U.heap x ST) (V : RoadKit.Fld Z U.heap x ST "value" "[B" (.ref t)) (C : RoadKit.Fld Z U.heap x ST "coder" "B" (.int cd)) (K : RoadKit.Arv Z U.heap t kb .byte N2 vs (.int 0)) (hc : CodA cs cd N2 vs) (hb : ∀ c ∈ cs, ¬ c < 0 ∧ ¬ (65535 : Int32) < c) (l2 : cs.length ≤ 4000) :
    ∃ A, Txt x t A cd cs.length (fun j => cs.getD j 0) U := by
  obtain ⟨A, K1, K2, K3, K4, K5, K6⟩ := K
  have hcod := hc.cod (by omega) K3 K5
  obtain ⟨D, fV, fC, hB, F1, F2, g1, g2, -, -⟩ := strObj wi al E V C
  exact ⟨A, ⟨_, hB.2.2.1, D, hB.1, rfl, by cases q : D.vm <;> first | rfl | exact absurd q (hB.2.1.2 _)⟩, Has.of hB F1 g1, Has.of hB F2 g2, ⟨K1.1, State.isArrayOf_alike al K1.2.1, K1.2.2, by rcases hcod with ⟨-, q, -⟩ | ⟨-, q, -⟩ <;> omega⟩, hcod, fun j hj => by
    have e : cs.getD j 0 = cs[j] := by simp [List.getD_eq_getElem?_getD, hj]
    show ¬ cs.getD j 0 < 0 ∧ ¬ 65535 < cs.getD j 0
    rw [e]; exact hb _ (List.getElem_mem _)⟩
/-- **isEmpty() OF SUCH A STRING** -/
theorem empW {p : Program} {l : Launch} {e : Env} {R : Room} {s : State} {args : Array Value} {below : List Frame} {len W : Nat} {Z : State} {a0 : Array Value} {h : Heap} (hZ : Z.Warmed39 s.vm) (hw : ∀ d ∈ wordsEmp, d.before a0 Z = true) {kI : Nat} (wi : (Jvm.Cond.instantiable ST kI).before a0 Z = true)
    {x t : Addr} {kb : ClassId} {cs : List Int32} {cd N2 : Int32} {vs : List Value} (E : RoadKit.Exa Z h x ST) (V : RoadKit.Fld Z h x ST "value" "[B" (.ref t)) (C : RoadKit.Fld Z h x ST "coder" "B" (.int cd)) (K : RoadKit.Arv Z h t kb .byte N2 vs (.int 0)) (hc : CodA cs cd N2 vs) (hb : ∀ c ∈ cs, ¬ c < 0 ∧ ¬ (65535 : Int32) < c) (l2 : cs.length ≤ 4000) (hfr : 1 ≤ R.frames) (hlo : W + 12 ≤ R.locals) :
    Back l R p e below s args (⟨"java/lang/String", "isEmpty", "()Z"⟩ : MethodName) len W (fun P a => a = #[.ref x] ∧ P.U.heap = h ∧ P.cells + 0 ≤ R.cells ∧ P.slots + 0 ≤ R.slots)
      (fun P _ v B => ∃ L, (v = some (.int (if cs.length = 0 then 1 else 0)) ∧ L = [] ∧ B.U.heap = h) ∧ B.locs = P.locs ++ L ∧ B.cells = P.cells + 0 ∧ B.slots = P.slots + 0) := by
  intro m meth c P g ig mk a X hg hsize hdg hW hn hp'
  obtain ⟨rfl, rfl, r1, r2⟩ := hp'
  have al : Z.vm.Alike P.U.vm := hZ.alike.trans X.warmed.alike
  obtain ⟨A, hx⟩ := txt_of wi al E V C K hc hb l2
  obtain ⟨v, B, X', ⟨⟨hv, hh⟩, hl, hk, hs⟩, st⟩ := Emp.pays x t A cd cs.length (fun j => cs.getD j 0) (tabEmp_of (movedEmp hZ hw)) hfr hlo m meth c P g ig mk _ X hg hsize hdg hW hn ⟨r1, r2, rfl, hx⟩
  exact ⟨v, B, X', ⟨[], ⟨hv, rfl, hh⟩, hl, hk, hs⟩, st⟩
end StrChars.Road
namespace StrChars
open Jvm Sem ClassFile Op Lib Jvm.Stand Jvm.Free.XT Jvm.Free.ALB Jvm.Free.JM Jvm.Free
open Jvm.Lib.Cold (StaticIs)
namespace ChN
def yN : MethodName := ⟨"java/lang/String", "charAt", "(I)C"⟩
abbrev yB : ByteArray := jdk_42_method_56_code
theorem d0 : decode yB 0 = .ok (.aload_n 0, 1) := by decide +kernel
theorem d1 : decode yB 1 = .ok (.invokevirtual 492, 3) := by decide +kernel
theorem d4 : decode yB 4 = .ok (.ifCond (.eq) 12, 3) := by decide +kernel
theorem d7 : decode yB 7 = .ok (.aload_n 0, 1) := by decide +kernel
theorem d8 : decode yB 8 = .ok (.getfield 9, 3) := by decide +kernel
theorem d11 : decode yB 11 = .ok (.iload_n 1, 1) := by decide +kernel
theorem d12 : decode yB 12 = .ok (.invokestatic 495, 3) := by decide +kernel
theorem d15 : decode yB 15 = .ok (.ireturn, 1) := by decide +kernel
def site : List Cond := [.fieldLink "java/lang/String" 9 "java/lang/String" "value" "[B", IsL.tab, LChA.tab] ++ virtW "java/lang/String" 492 "java/lang/String" IsL.yN IsL.yN ++ staticW "java/lang/String" 495 LChA.yN
def tab : Cond := tabOf yN yB 2 (some .char) site
def P (x t : Addr) (V : Cell) (n : Nat) (f : Nat → Int32) (z : Int32) (fm : Value) (i : Nat) (args : Array Value) (s : State) : Prop := args = #[.ref x, .int (Int32.ofNat i)] ∧ Txt x t V 0 n f s ∧ i < n ∧ StaticIs s "java/lang/String" "COMPACT_STRINGS" "Z" (.int z) ∧ ¬ z = 0 ∧ StaticIs s "jdk/internal/util/Preconditions" "SIOOBE_FORMATTER" "Ljava/util/function/BiFunction;" fm ∧ fm.isRef = true
def E (f : Nat → Int32) (i : Nat) (r : Option Value) (s u : State) : Prop := XT.PureE (some (.int (f i))) r s u
/-- charAt(i) of a Latin-1 String of n chars, i < n: f i -/
theorem law (l : Launch) (x t : Addr) (V : Cell) (n : Nat) (f : Nat → Int32) (z : Int32) (fm : Value) (i : Nat) : Law l yN 2 1 3 40 yB 2 (some .char) site (P x t V n f z fm i) (E f i) [] 0 0 := by
  refine Law.of_walk (plainFor_of_name (by decide +kernel)) (by decide +kernel) (by decide +kernel) (by decide) (fun _ _ h => by rw [h.1]; rfl) (fun _ U U' hal hh h => ⟨h.1, h.2.1.mv hal hh, h.2.2.1, h.2.2.2.1.there hal hh, h.2.2.2.2.1, h.2.2.2.2.2.1.there hal hh, h.2.2.2.2.2.2⟩) (fun r U U' V V' h1 hal h2 h => XT.PureE.mv r U U' V V' h1 hal h2 h) ?_
  intro p e s m args below meth c s₁ X0 hexec hbytes hml hret hlk hnm hown hh0 W hP
  obtain ⟨rfl, hx, hi, s1, hz, s3, rf⟩ := hP
  have v31 := hx.2.2.2.1.2.2.2
  have hr := hx.2.2.2.2.2 i hi
  have hx0 := hx.mv X0.warmed.alike hh0
  have c1 : Steps p.tables e below (s₁.setTop (entryFrame m #[.ref x, .int (Int32.ofNat i)] 2)) (s₁.setTop (mkF m 1 #[.val (.ref x), .val (.int (Int32.ofNat i))] [.ref x])) := Steps.trans (entry rfl) (by
    show Steps p.tables e below (s₁.setTop (mkF m 0 #[.val (.ref x), .val (.int (Int32.ofNat i))] [])) _
    refine XS.aloadN X0.here hexec rfl (hb hbytes d0) rfl rfl ?_
    exact Steps.refl _)
  obtain ⟨v2, T2, X2, E2, g2⟩ := X0.callV hexec (IsL.law l x 0 z) hown (wks W (virtW "java/lang/String" 492 "java/lang/String" IsL.yN IsL.yN)) rfl (by decide) (wk W IsL.tab) (W := 0) (Nat.le_of_ble_eq_true rfl) (Nat.le_of_ble_eq_true rfl) (Nat.le_refl _) (Nat.le_refl _) (hx0.1.fc X0.warmed.alike) hx0.1.is (g := (mkF m 1 #[.val (.ref x), .val (.int (Int32.ofNat i))] [.ref x])) rfl (by rw [hml]; rfl) c1 (argsL := []) (rest := []) rfl rfl (by show 2 * 0 + 0 ≤ _; decide) (hb hbytes d1) (⟨rfl, hx0.2.2.1, hx.2.2.2.2.1.cd, s1.there X0.warmed.alike hh0, hz⟩)
  obtain ⟨rfl, q2⟩ := E2
  have hh2 := q2.trans hh0
  have hx2 := hx.mv X2.warmed.alike hh2
  obtain ⟨-, k1, k2⟩ | ⟨k0, -⟩ := hx.2.2.2.2.1
  · have c3 : Steps p.tables e below (s₁.setTop (entryFrame m #[.ref x, .int (Int32.ofNat i)] 2)) (T2.setTop (mkF m 8 #[.val (.ref x), .val (.int (Int32.ofNat i))] [.ref x])) := Steps.trans g2 (by
      refine XS.ifNo X2.here hexec rfl (hb hbytes d4) rfl (i0_eq_f (by decide)) ?_
      refine XS.aloadN X2.here hexec rfl (hb hbytes d7) rfl rfl ?_
      exact Steps.refl _)
    obtain ⟨T4, X4, q4, st4⟩ := X2.hget hexec hown (wk W (.fieldLink "java/lang/String" 9 "java/lang/String" "value" "[B")) hx2.2.1 (g := (mkF m 8 #[.val (.ref x), .val (.int (Int32.ofNat i))] [.ref x])) rfl (rest := []) rfl (hb hbytes d8)
    have hh4 := q4.trans hh2
    have c5 : Steps p.tables e below (s₁.setTop (entryFrame m #[.ref x, .int (Int32.ofNat i)] 2)) (T4.setTop (mkF m 12 #[.val (.ref x), .val (.int (Int32.ofNat i))] [.int (Int32.ofNat i), .ref t])) := (c3.trans (st4 _ (Steps.refl _))).trans (by
      refine XS.iloadN X4.here hexec rfl (hb hbytes d11) rfl ?_
      exact Steps.refl _)
    obtain ⟨v6, T6, X6, E6, g6⟩ := X4.callS hexec (LChA.law l t V i (lo8 (f i)) fm) hown (wks W (staticW "java/lang/String" 495 LChA.yN)) (wk W LChA.tab) (W := 0) (Nat.le_of_ble_eq_true rfl) (Nat.le_of_ble_eq_true rfl) (Nat.le_refl _) (Nat.le_refl _) (g := (mkF m 12 #[.val (.ref x), .val (.int (Int32.ofNat i))] [.int (Int32.ofNat i), .ref t])) rfl (by rw [hml]; rfl) c5 (argsL := [.ref t, .int (Int32.ofNat i)]) (rest := []) rfl rfl (by show 2 * 0 + 0 ≤ _; decide) (hb hbytes d12) (⟨rfl, hx.2.2.2.1.mv X4.warmed.alike hh4, (k2 i hi).1, s3.there X4.warmed.alike hh4, rf⟩)
    obtain ⟨rfl, q6⟩ := E6
    rw [chr8_lo8 hr.1 (k2 i hi).2] at g6
    exact ⟨T6, some (.int (f i)), _, _, _, X6, rfl, rfl, rfl, (fun h => by cases h), ⟨rfl, q6.trans hh4⟩, fun fs hl => Steps.trans g6 (X6.ireturnOut hexec hret (narrow_ch hr.1 hr.2) (Or.inr (Or.inr (Or.inr (Or.inl rfl)))) (hb hbytes d15) hl)⟩
  · exact absurd k0 (by decide)
theorem pays {l : Launch} {R : Room} {p : Program} {e : Env} {below : List Frame} {s : State} {sargs : Array Value} {len W : Nat} (x t : Addr) (V : Cell) (n : Nat) (f : Nat → Int32) (z : Int32) (fm : Value) (i : Nat) (htab : tab.before sargs s = true) (hfr : 4 ≤ R.frames) (hlo : W + 53 ≤ R.locals) :
    Back l R p e below s sargs yN len W (fun A₁ a₁ => A₁.cells + 0 ≤ R.cells ∧ A₁.slots + 0 ≤ R.slots ∧ P x t V n f z fm i a₁ A₁.U) (fun A₁ _ v₁ B₁ => E f i v₁ A₁.U B₁.U ∧ B₁.locs = A₁.locs ++ [] ∧ B₁.cells = A₁.cells + 0 ∧ B₁.slots = A₁.slots + 0) :=
  (law l x t V n f z fm i).pays htab hfr (by omega)
end ChN
end StrChars
namespace StrChars.Road
open Jvm Sem ClassFile Op Lib Jvm.Stand Jvm.Free Jvm.Free.XT
open Jvm.Lib.Cold (StaticIs)
/-- the words of String.charAt(int), the Latin-1 road alone -/
abbrev wordsChN : List Jvm.Cond := [.code ChN.yN ChN.yB 2 (some .char), .initialized ST, .fieldLink ST 9 ST "value" "[B", .fieldLink ST 38 ST "COMPACT_STRINGS" "Z", .fieldLink ST 15 ST "coder" "B", .code IsL.yN IsL.yB 1 (some .boolean), .methodLink ST 492 IsL.yN, .declares IsL.yN, .selects ST IsL.yN IsL.yN, .instanceMethod IsL.yN,
  .methodLink ST 495 LChA.yN, .static LChA.yN, .code LChA.yN LChA.yB 2 (some .char), .initialized "java/lang/StringLatin1", .methodLink "java/lang/StringLatin1" 9 JO.Str_checkIndex.yN, .static JO.Str_checkIndex.yN, .code JO.Str_checkIndex.yN JO.Str_checkIndex.yB 2 none,
  .fieldLink ST 1053 "jdk/internal/util/Preconditions" "SIOOBE_FORMATTER" "Ljava/util/function/BiFunction;", .methodLink ST 1059 JC.PreCheck.yN, .static JC.PreCheck.yN, .code JC.PreCheck.yN JC.PreCheck.yB 3 (some .int), .initialized "jdk/internal/util/Preconditions"]
theorem tabChN_of {a : Array Value} {s : State} (h : ∀ w ∈ wordsChN, w.before a s = true) : ChN.tab.before a s = true := by
  have hp : JC.PreCheck.tab.before a s = true := unparts (wk h (.code JC.PreCheck.yN JC.PreCheck.yB 3 (some .int))) (wks h (.initialized JC.PreCheck.yN.cls :: JC.PreCheck.site))
  have qk := consq hp h
  have hk : JO.Str_checkIndex.tab.before a s = true := unparts (wk qk (.code JO.Str_checkIndex.yN JO.Str_checkIndex.yB 2 none)) (wks qk (.initialized JO.Str_checkIndex.yN.cls :: JO.Str_checkIndex.site))
  have ql := consq hk h
  have hl : LChA.tab.before a s = true := unparts (wk ql (.code LChA.yN LChA.yB 2 (some .char))) (wks ql (.initialized LChA.yN.cls :: LChA.site))
  have hi : IsL.tab.before a s = true := unparts (wk h (.code IsL.yN IsL.yB 1 (some .boolean))) (wks h (.initialized IsL.yN.cls :: IsL.site))
  have q := consq hi (consq hl h)
  exact unparts (wk q (.code ChN.yN ChN.yB 2 (some .char))) (wks q (.initialized ChN.yN.cls :: ChN.site))
theorem movedChN {Z s : State} {a0 args : Array Value} (hZ : Z.Warmed39 s.vm) (hw : ∀ d ∈ wordsChN, d.before a0 Z = true) : ∀ d ∈ wordsChN, d.before args s = true := fun d hd => by
  have t : ∀ d ∈ wordsChN, (d.onTables && d.keepsFace) = true := by decide +kernel
  exact RoadKit.mv hZ (hw d hd) (t d hd)
/-- **charAt(i) OF A LATIN-1 STRING**, i < n: the char -/
theorem chN {p : Program} {l : Launch} {e : Env} {R : Room} {s : State} {args : Array Value} {below : List Frame} {len W : Nat} {Z : State} {a0 : Array Value} {h : Heap} (hZ : Z.Warmed39 s.vm) (hw : ∀ d ∈ wordsChN, d.before a0 Z = true) {kI : Nat} (wi : (Jvm.Cond.instantiable ST kI).before a0 Z = true)
    {x t : Addr} {kb : ClassId} {cs : List Int32} {N2 z : Int32} {vs : List Value} {fm : Value} {i : Nat} {j : Int32} (E : RoadKit.Exa Z h x ST) (V : RoadKit.Fld Z h x ST "value" "[B" (.ref t)) (C : RoadKit.Fld Z h x ST "coder" "B" (.int 0)) (K : RoadKit.Arv Z h t kb .byte N2 vs (.int 0)) (hc : CodA cs 0 N2 vs) (hb : ∀ c ∈ cs, ¬ c < 0 ∧ ¬ (65535 : Int32) < c)
    (S : RoadKit.Sta Z h ST "COMPACT_STRINGS" "Z" (.int z)) (hz : ¬ z = 0) (F : RoadKit.Sta Z h "jdk/internal/util/Preconditions" "SIOOBE_FORMATTER" "Ljava/util/function/BiFunction;" fm) (rf : fm.isRef = true) (l2 : cs.length ≤ 4000) (hi : i < cs.length) (hj : j = Int32.ofNat i) (hfr : 4 ≤ R.frames) (hlo : W + 53 ≤ R.locals) :
    Back l R p e below s args (⟨"java/lang/String", "charAt", "(I)C"⟩ : MethodName) len W (fun P a => a = #[.ref x, .int j] ∧ P.U.heap = h ∧ P.cells + 0 ≤ R.cells ∧ P.slots + 0 ≤ R.slots)
      (fun P _ v B => ∃ L, (v = some (.int (cs.getD i 0)) ∧ L = [] ∧ B.U.heap = h) ∧ B.locs = P.locs ++ L ∧ B.cells = P.cells + 0 ∧ B.slots = P.slots + 0) := by
  subst hj
  intro m meth c P g ig mk a X hg hsize hdg hW hn hp'
  obtain ⟨rfl, rfl, r1, r2⟩ := hp'
  have al : Z.vm.Alike P.U.vm := hZ.alike.trans X.warmed.alike
  obtain ⟨A, hx⟩ := txt_of wi al E V C K hc hb l2
  obtain ⟨v, B, X', ⟨⟨hv, hh⟩, hl, hk, hs⟩, st⟩ := ChN.pays x t A cs.length (fun j => cs.getD j 0) z fm i (tabChN_of (movedChN hZ hw)) hfr hlo m meth c P g ig mk _ X hg hsize hdg hW hn ⟨r1, r2, rfl, hx, hi, sta_is al S, hz, sta_is al F, rf⟩
  exact ⟨v, B, X', ⟨[], ⟨hv, rfl, hh⟩, hl, hk, hs⟩, st⟩
/-- what backV says of its String, as the contracts of this text ask it: cs's low bytes, coder 0 -/
theorem codOf {cs : List Int32} {n : Nat} (hn : cs.length = n) (hb : ∀ c ∈ cs, ¬ 255 < c) : CodA cs 0 (Int32.ofNat n) ((cs.map lo8).map Value.int) := Or.inl ⟨rfl, by rw [hn], by simp [List.map_map, Function.comp_def], hb⟩
end StrChars.Road
end Jvm.Pilot.@@N@@
/- own kit 1: goal-directed walks -/
namespace Jvm.Pilot.@@N@@
open Jvm Jvm.ClassFile Sem Op Lib Jvm.Free Jvm.Stand Jvm.LawKit Jvm.RoadKit Bundle Jvm.Pilot.@@N@@.Jvm.D
section OwnKit
variable {p : Program} {l : Launch} {e : Env} {R : Room} {s : State} {m : MethodId} {args : Array Value} {below : List Frame} {meth : Method} {c : Code} {T : State} {locs : List Loc} {cells slots : Nat} {Z : State} {a0 : Array Value} {h : Heap}
/-- a method's contract: what it leaves, asked at the heap h with these arguments -/
abbrev own_C (l : Launch) (Z : State) (y : MethodName) (bytes : ByteArray) (maxL : Nat) (ret : Option FieldType) (ws : List Jvm.Cond) (rm : Room) (as : Array Value) (h : Heap) (Q : Option Value → Heap → List Loc → Prop) : Prop :=
  MetFree l y (head1 (Jvm.Cond.code y bytes maxL ret :: ws) rm) (fun a U => a = as ∧ Z.Warmed39 U.vm ∧ U.heap = h) (fun _ _ _ _ _ => True) (fun _ U o U' => ∃ v L, o = .returned v ∧ Q v U'.heap L ∧ FrameEnd U o U' L rm.cells rm.slots)
/-- the same at a call -/
abbrev own_Bk (l : Launch) (R : Room) (p : Program) (e : Env) (below : List Frame) (s : State) (args : Array Value) (y : MethodName) (len W : Nat) (as : Array Value) (h : Heap) (kc ks : Nat) (Q : Option Value → Heap → List Loc → Prop) : Prop :=
  Back l R p e below s args y len W (fun A a => a = as ∧ A.U.heap = h ∧ A.cells + kc ≤ R.cells ∧ A.slots + ks ≤ R.slots) (fun A _ v B => ∃ L, Q v B.U.heap L ∧ B.locs = A.locs ++ L ∧ B.cells = A.cells + kc ∧ B.slots = A.slots + ks)
/-- from the state A the body comes to its end as Q says -/
def own_Go (p : Program) (e : Env) (below : List Frame) (s : State) (Q : Option Value → Heap → List Loc → Prop) (C S : Nat) (A : State) : Prop :=
  ∃ t v L, Steps p.tables e below A t ∧ t.status = .running ∧ Ended t below (.returned v) ∧ Q v t.heap L ∧ FrameEnd s (.returned v) t L C S
theorem own_st {Q : Option Value → Heap → List Loc → Prop} {C S : Nat} {A B : State} (k : ∀ t, Steps p.tables e below B t → Steps p.tables e below A t) (G : own_Go p e below s Q C S B) : own_Go p e below s Q C S A := by
  obtain ⟨t, v, L, h1, h2⟩ := G
  exact ⟨t, v, L, k t h1, h2⟩
theorem own_body {y : MethodName} {bytes : ByteArray} {maxL : Nat} {ret : Option FieldType} {ws : List Jvm.Cond} {rm : Room} {as : Array Value} {Q : Option Value → Heap → List Loc → Prop} (hp : plainFor y = true)
    (body : ∀ (p : Program) (e : Env) (s : State) (m : MethodId) (below : List Frame) (meth : Method) (c : Code) (T : State), Stand p l e rm s m as below meth c T [] 0 0 → p.tables.exec = Jvm.exec → c.code = bytes → c.maxLocals = maxL → Z.Warmed39 s.vm → s.vm.findClass y.cls = some m.cls → meth.name = y.name → meth.sig.returnType = ret → meth.locks = false → T.heap = h →
      own_Go p e below s Q rm.cells rm.slots (T.setTop (entryFrame m as maxL))) : own_C l Z y bytes maxL ret ws rm as h Q := by
  refine MetFree.of_bodySF hp hisR ?_
  intro p e s m args below meth c s₁ Bd hml hP hK
  obtain ⟨rfl, hZ, hh⟩ := hP
  obtain ⟨t, v, L, h1, h2, h3, h4, h5⟩ := body p e s m below meth c s₁ (Stand.of_body Bd) Bd.exec Bd.bytes hml hZ (findClass_of_methodNamed Bd.named) (name_of_methodNamed Bd.named Bd.method).1 Bd.returns Bd.notSynchronized (by rw [← hh, Bd.state]; rfl)
  exact ⟨t, _, h1, h2, h3, v, L, rfl, h4, h5⟩
theorem own_ret {Q : Option Value → Heap → List Loc → Prop} {C S : Nat} (X : Stand p l e R s m args below meth c T locs cells slots) (hx : p.tables.exec = Jvm.exec) (hk : meth.locks = false) (eT : T.heap = h) {pc : Nat} {Ls : Array Slot} {w : Value} {t : FieldType} {i : Instr} {rest : List Value} (hret : meth.sig.returnType = some t) (hn : narrow t w = w)
    (hi : (i = .ireturn ∧ (t = .int ∨ t = .boolean ∨ t = .byte ∨ t = .char ∨ t = .short) ∧ ∃ z, w = .int z) ∨ (i = .lreturn ∧ t = .long ∧ ∃ z, w = .long z) ∨ (i = .dreturn ∧ t = .double ∧ ∃ z, w = .double z) ∨ (i = .freturn ∧ t = .float ∧ ∃ z, w = .float z) ∨ (i = .areturn ∧ t.isReference = true ∧ w.isRef = true))
    (hd : decode c.code pc = .ok (i, 1)) (hc : cells ≤ C) (hs : slots ≤ S) (hq : Q (some w) h locs) : own_Go p e below s Q C S (T.setTop (mkF m pc Ls (w :: rest))) := by
  obtain ⟨fs, hr, hrun, hended, hW, hsame⟩ := X.leave (v := some w) (fun h => by rw [hret] at h; cases h) hk
  exact ⟨_, some w, locs, retOut X hx hret hn hi hd hr, hrun, hended, by subst eT; exact hq, ⟨_, rfl⟩, hW, hsame.mono hc hs⟩
theorem own_retV {Q : Option Value → Heap → List Loc → Prop} {C S : Nat} (X : Stand p l e R s m args below meth c T locs cells slots) (hx : p.tables.exec = Jvm.exec) (hk : meth.locks = false) (eT : T.heap = h) {pc : Nat} {Ls : Array Slot} (hret : meth.sig.returnType = none)
    (hd : decode c.code pc = .ok (.return_, 1)) (hc : cells ≤ C) (hs : slots ≤ S) (hq : Q none h locs) : own_Go p e below s Q C S (T.setTop (mkF m pc Ls [])) := by
  obtain ⟨fs, hr, hrun, hended, hW, hsame⟩ := X.leave (v := none) (fun _ => rfl) hk
  exact ⟨_, none, locs, X.returnOut hx hret hd hr, hrun, hended, by subst eT; exact hq, ⟨_, rfl⟩, hW, hsame.mono hc hs⟩
theorem own_bk {y : MethodName} {bytes : ByteArray} {maxL : Nat} {ret : Option FieldType} {rm : Room} {len W : Nat} {as : Array Value} {Q : Option Value → Heap → List Loc → Prop} (hM : own_C l Z y bytes maxL ret [] rm as h Q) (hZ : Z.Warmed39 s.vm) (wc : (Jvm.Cond.code y bytes maxL ret).before a0 Z = true) (wz : (Jvm.Cond.initialized y.cls).before a0 Z = true) (hf : rm.frames + 1 ≤ R.frames) (hl : W + (maxL + 11) + rm.locals ≤ R.locals) :
    own_Bk l R p e below s args y len W as h rm.cells rm.slots Q := backOf hM hZ wc wz hf hl
theorem own_callS (X : Stand p l e R s m args below meth c T locs cells slots) (hx : p.tables.exec = Jvm.exec) (hZ : Z.Warmed39 s.vm) {own : String} {index : Nat} {y : MethodName} {bytes : ByteArray} {maxL : Nat} {ret : Option FieldType}
    (hown : s.vm.findClass own = some m.cls) (w1 : (Jvm.Cond.methodLink own index y).before a0 Z = true) (w2 : (Jvm.Cond.static y).before a0 Z = true) (w3 : (Jvm.Cond.initialized y.cls).before a0 Z = true) (w4 : (Jvm.Cond.code y bytes maxL ret).before a0 Z = true) (hy : y.cls ≠ "java/lang/invoke/MethodHandle" ∧ y.cls ≠ "java/lang/invoke/VarHandle")
    {W kc ks : Nat} {as : Array Value} {Q : Option Value → Heap → List Loc → Prop} (hK : own_Bk l R p e below s args y 3 W as h kc ks Q) (eT : T.heap = h) (hc : cells + kc ≤ R.cells) (hs : slots + ks ≤ R.slots)
    {g : JFrame} (hg : g.method = m) (hsize : g.locals.size = c.maxLocals) {argsL rest : List Value} (hlen : ∀ sig, parseMethodDescriptor y.desc = some sig → argsL.length = sig.parameters.length) (hstack : g.stack = argsL.reverse ++ rest) (has : argsL.toArray = as) (hW : 2 * g.monitorRoom + (rest.map fun v => v.category).sum ≤ W) (hdg : decode c.code g.pc = .ok (.invokestatic index, 3)) :
    ∃ (T' : State) (v : Option Value) (L : List Loc) (h' : Heap), Stand p l e R s m args below meth c T' (locs ++ L) (cells + kc) (slots + ks) ∧ T'.heap = h' ∧ Q v h' L ∧ ∀ t, Steps p.tables e below (T'.setTop { g with pc := g.pc + 3, stack := v.toList ++ rest }) t → Steps p.tables e below (T.setTop g) t := by
  obtain ⟨v, _, ⟨T', L', k', n'⟩, -, X', ⟨L, hQ, l1, y1, z1⟩, st⟩ := Jvm.LawKit.callS X hx hown (mvT hZ w1) (mvT hZ w2) (mvT hZ w3) (mvT hZ w4) hy hK hg hsize hlen hstack hW hdg (fun _ _ => ⟨has, eT, hc, hs⟩)
  dsimp only [Pt.U, Pt.locs, Pt.cells, Pt.slots] at X' hQ l1 y1 z1 st
  subst l1 y1 z1
  exact ⟨T', v, L, _, X', rfl, hQ, st⟩
theorem own_callI (X : Stand p l e R s m args below meth c T locs cells slots) (hx : p.tables.exec = Jvm.exec) (hZ : Z.Warmed39 s.vm) {own : String} {index : Nat} {y : MethodName} (hy1 : y.name = "<init>") {bytes : ByteArray} {maxL : Nat}
    (hown : s.vm.findClass own = some m.cls) (w1 : (Jvm.Cond.methodLink own index y).before a0 Z = true) (w2 : (Jvm.Cond.instanceMethod y).before a0 Z = true) (w3 : (Jvm.Cond.code y bytes maxL none).before a0 Z = true) (hy : y.cls ≠ "java/lang/invoke/MethodHandle" ∧ y.cls ≠ "java/lang/invoke/VarHandle")
    {W kc ks : Nat} {as : Array Value} {Q : Option Value → Heap → List Loc → Prop} (hK : own_Bk l R p e below s args y 3 W as h kc ks Q) (eT : T.heap = h) (hc : cells + kc ≤ R.cells) (hs : slots + ks ≤ R.slots)
    {g : JFrame} (hg : g.method = m) (hsize : g.locals.size = c.maxLocals) {a : Addr} {argsL rest : List Value} (hlen : ∀ sig, parseMethodDescriptor y.desc = some sig → argsL.length = sig.parameters.length) (hstack : g.stack = argsL.reverse ++ .ref a :: rest) (has : (.ref a :: argsL).toArray = as) (hW : 2 * g.monitorRoom + (rest.map fun v => v.category).sum ≤ W) (hdg : decode c.code g.pc = .ok (.invokespecial index, 3)) :
    ∃ (T' : State) (v : Option Value) (L : List Loc) (h' : Heap), Stand p l e R s m args below meth c T' (locs ++ L) (cells + kc) (slots + ks) ∧ T'.heap = h' ∧ Q v h' L ∧ ∀ t, Steps p.tables e below (T'.setTop { g with pc := g.pc + 3, stack := v.toList ++ rest }) t → Steps p.tables e below (T.setTop g) t := by
  obtain ⟨v, _, ⟨T', L', k', n'⟩, -, X', ⟨L, hQ, l1, y1, z1⟩, st⟩ := X.specialBack hx hy1 hown (mvT hZ w1) (mvT hZ w2) (mvT hZ w3) hy hK hg hsize (Steps.refl _) hlen hstack hW hdg (fun _ _ => ⟨has, eT, hc, hs⟩)
  dsimp only [Pt.U, Pt.locs, Pt.cells, Pt.slots] at X' hQ l1 y1 z1 st
  subst l1 y1 z1
  exact ⟨T', v, L, _, X', rfl, hQ, fun t k => st.trans k⟩
theorem own_callV (X : Stand p l e R s m args below meth c T locs cells slots) (hx : p.tables.exec = Jvm.exec) (hZ : Z.Warmed39 s.vm) {own C : String} {index : Nat} {y z : MethodName}
    (hown : s.vm.findClass own = some m.cls) (w1 : (Jvm.Cond.methodLink own index y).before a0 Z = true) (w2 : (Jvm.Cond.declares y).before a0 Z = true) (nf : NotFace s y) (w3 : (Jvm.Cond.selects C y z).before a0 Z = true) (w4 : (Jvm.Cond.instanceMethod z).before a0 Z = true) (hy : y.cls ≠ "java/lang/invoke/MethodHandle" ∧ y.cls ≠ "java/lang/invoke/VarHandle")
    {W kc ks : Nat} {as : Array Value} {Q : Option Value → Heap → List Loc → Prop} (hK : own_Bk l R p e below s args z 3 W as h kc ks Q) (eT : T.heap = h) {b : Addr} (E : Exa Z h b C) (hc : cells + kc ≤ R.cells) (hs : slots + ks ≤ R.slots)
    {g : JFrame} (hg : g.method = m) (hsize : g.locals.size = c.maxLocals) {argsL rest : List Value} (hlen : ∀ sig, parseMethodDescriptor y.desc = some sig → argsL.length = sig.parameters.length) (hstack : g.stack = argsL.reverse ++ .ref b :: rest) (has : (.ref b :: argsL).toArray = as) (hW : 2 * g.monitorRoom + (rest.map fun v => v.category).sum ≤ W) (hdg : decode c.code g.pc = .ok (.invokevirtual index, 3)) :
    ∃ (T' : State) (v : Option Value) (L : List Loc) (h' : Heap), Stand p l e R s m args below meth c T' (locs ++ L) (cells + kc) (slots + ks) ∧ T'.heap = h' ∧ Q v h' L ∧ ∀ t, Steps p.tables e below (T'.setTop { g with pc := g.pc + 3, stack := v.toList ++ rest }) t → Steps p.tables e below (T.setTop g) t := by
  obtain ⟨cq, kq, qa, qb, qc⟩ := isOf hZ eT E
  obtain ⟨v, _, ⟨T', L', k', n'⟩, -, X', ⟨L, hQ, l1, y1, z1⟩, st⟩ := X.virtualBack hx hown (mvT hZ w1) (mvT hZ w2) nf (mvT hZ w3) (mvT hZ w4) hy hK qa qc hg hsize (Steps.refl _) hlen hstack hW hdg (fun _ _ => ⟨has, eT, hc, hs⟩)
  dsimp only [Pt.U, Pt.locs, Pt.cells, Pt.slots] at X' hQ l1 y1 z1 st
  subst l1 y1 z1
  exact ⟨T', v, L, _, X', rfl, hQ, fun t k => st.trans k⟩
theorem own_callF (X : Stand p l e R s m args below meth c T locs cells slots) (hx : p.tables.exec = Jvm.exec) (hZ : Z.Warmed39 s.vm) {own C : String} {index count : Nat} {y z : MethodName}
    (hown : s.vm.findClass own = some m.cls) (w1 : (Jvm.Cond.methodLink own index y).before a0 Z = true) (w2 : (Jvm.Cond.declares y).before a0 Z = true) (w3 : (Jvm.Cond.interfaceMethod y.cls y.cls y.name y.desc).before args s = true) (w4 : (Jvm.Cond.selects C y z).before a0 Z = true) (w5 : (Jvm.Cond.instanceMethod z).before a0 Z = true) (w6 : (Jvm.Cond.publicMethod z).before a0 Z = true) (w7 : (Jvm.Cond.unhidden C y.name y.desc).before a0 Z = true) (w8 : (Jvm.Cond.castable C y.cls).before a0 Z = true) (hy : y.cls ≠ "java/lang/invoke/MethodHandle" ∧ y.cls ≠ "java/lang/invoke/VarHandle")
    {W kc ks : Nat} {as : Array Value} {Q : Option Value → Heap → List Loc → Prop} (hK : own_Bk l R p e below s args z 5 W as h kc ks Q) (eT : T.heap = h) {b : Addr} (E : Exa Z h b C) (hc : cells + kc ≤ R.cells) (hs : slots + ks ≤ R.slots)
    {g : JFrame} (hg : g.method = m) (hsize : g.locals.size = c.maxLocals) {argsL rest : List Value} (hlen : ∀ sig, parseMethodDescriptor y.desc = some sig → argsL.length = sig.parameters.length) (hstack : g.stack = argsL.reverse ++ .ref b :: rest) (has : (.ref b :: argsL).toArray = as) (hW : 2 * g.monitorRoom + (rest.map fun v => v.category).sum ≤ W) (hdg : decode c.code g.pc = .ok (.invokeinterface index count, 5)) :
    ∃ (T' : State) (v : Option Value) (L : List Loc) (h' : Heap), Stand p l e R s m args below meth c T' (locs ++ L) (cells + kc) (slots + ks) ∧ T'.heap = h' ∧ Q v h' L ∧ ∀ t, Steps p.tables e below (T'.setTop { g with pc := g.pc + 5, stack := v.toList ++ rest }) t → Steps p.tables e below (T.setTop g) t := by
  obtain ⟨cq, kq, qa, qb, qc⟩ := isOf hZ eT E
  obtain ⟨v, _, ⟨T', L', k', n'⟩, -, X', ⟨L, hQ, l1, y1, z1⟩, st⟩ := X.interfaceBack hx hown (mvT hZ w1) (mvT hZ w2) w3 (mvT hZ w4) (mvT hZ w5) (mvT hZ w6) (mvT hZ w7) (mvT hZ w8) hy hK qa qb qc hg hsize (Steps.refl _) hlen hstack hW hdg (fun _ _ => ⟨has, eT, hc, hs⟩)
  dsimp only [Pt.U, Pt.locs, Pt.cells, Pt.slots] at X' hQ l1 y1 z1 st
  subst l1 y1 z1
  exact ⟨T', v, L, _, X', rfl, hQ, fun t k => st.trans k⟩
theorem own_ninS {x y : Nat} {L : List Nat} (q : x ≠ y) (r : x ∉ L) : x ∉ y :: L := ninS q r
theorem own_old {n0 : Nat} (O : Old Z n0 h) : n0 ≤ h.size := O.1 ▸ O.2.1
end OwnKit
end Jvm.Pilot.@@N@@
/- own kit 2: Strings of known chars -/
namespace Jvm.Pilot.@@N@@
open Jvm Jvm.ClassFile Sem Op Lib Jvm.Free Jvm.Stand Jvm.LawKit Jvm.RoadKit Bundle Jvm.Pilot.@@N@@.Jvm.D
section OwnStr
variable {p : Program} {l : Launch} {e : Env} {R : Room} {s : State} {args : Array Value} {below : List Frame} {Z : State} {a0 : Array Value} {h h' : Heap} {len W n0 : Nat}
def own_CS (Z : State) : Prop := ∃ z : Int32, Sta Z Z.heap "java/lang/String" "COMPACT_STRINGS" "Z" (.int z) ∧ ¬ z = 0
def own_Str (Z : State) (h : Heap) (x : Addr) (cs : List Int32) : Prop := Exa Z h x "java/lang/String" ∧ ∃ (t : Addr) (kb : ClassId) (cd N2 : Int32) (vs : List Value), Fld Z h x "java/lang/String" "value" "[B" (.ref t) ∧ Fld Z h x "java/lang/String" "coder" "B" (.int cd) ∧ Arv Z h t kb .byte N2 vs (.int 0) ∧ StrChars.Road.CodA cs cd N2 vs ∧ (∀ c ∈ cs, ¬ c < 0 ∧ ¬ (65535 : Int32) < c) ∧ cs.length ≤ 4000
theorem own_Str.keep {x : Addr} {cs : List Int32} (S : own_Str Z h x cs) (K : Keep h h' []) (_ : x ∉ ([] : List Addr)) : own_Str Z h' x cs := by
  obtain ⟨E, t, kb, cd, N2, vs, F1, F2, A, r⟩ := S
  exact ⟨E.keep K, t, kb, cd, N2, vs, F1.keep K nin0, F2.keep K nin0, A.keep K nin0, r⟩
theorem own_Str.lt {x : Addr} {cs : List Int32} (S : own_Str Z h x cs) : x < h.size := S.1.lt
theorem own_wNew (hw : ∀ d ∈ tables_1, d.before a0 Z = true) : ∀ d ∈ StrChars.Road.words, d.before a0 Z = true := fun d hd => hw d ((by decide +kernel : ∀ d ∈ StrChars.Road.words, d ∈ tables_1) d hd)
theorem own_up (cs : List Int32) (h : ∀ c ∈ cs, ¬ c < 0 ∧ ¬ (255 : Int32) < c) : ∀ c ∈ cs, ¬ c < 0 ∧ ¬ (65535 : Int32) < c := fun c hc => ⟨(h c hc).1, fun q => (h c hc).2 (by rw [Int32.lt_iff_toInt_lt] at q ⊢; have e1 : (65535 : Int32).toInt = 65535 := rfl; have e2 : (255 : Int32).toInt = 255 := rfl; omega)⟩
/-- new String(char[]) of known chars, each 0 to 255 -/
theorem own_nsB (hZ : Z.Warmed39 s.vm) (hw : ∀ d ∈ StrChars.Road.words, d.before a0 Z = true) {kI : Nat} (wi : (Jvm.Cond.instantiable "java/lang/String" kI).before a0 Z = true) {x b : Addr} {kC : ClassId} {cs : List Int32} {d v0 c0 : Value} {N : Int32} {n : Nat} (hx0 : n0 ≤ x) (O : Old Z n0 h) (CS : own_CS Z) (E : Exa Z h x "java/lang/String") (V : Fld Z h x "java/lang/String" "value" "[B" v0) (C : Fld Z h x "java/lang/String" "coder" "B" c0) (K : Arv Z h b kC .char N (cs.map Value.int) d)
    (hn : cs.length = n) (hN : N = Int32.ofNat n) (l0 : 0 < n) (l2 : n ≤ 4000) (hp : ∀ c ∈ cs, ¬ c < 0 ∧ ¬ (255 : Int32) < c) (hfr : 4 ≤ R.frames) (hlo : W + 65 ≤ R.locals) :
    own_Bk l R p e below s args (⟨"java/lang/String", "<init>", "([C)V"⟩ : MethodName) len W #[.ref x, .ref b] h 1 n (fun v h' L => v = none ∧ Fr n0 L ∧ Keep h h' [x] ∧ own_Str Z h' x cs) := by
  obtain ⟨z, S, hz⟩ := CS
  refine Back.mono (StrChars.Road.backV hZ hw wi hx0 (own_old O) E V C K (S.ext O.2) hz hn hN l0 l2 hp rfl hfr hlo) (fun _ _ hp => hp) (fun A a v B _ hq => ?_)
  obtain ⟨L, ⟨q1, q2, q3, q4, q5, t, kb, q6, q7, q8, q9, q10⟩, hl, hc, hs⟩ := hq
  exact ⟨L, ⟨q1, q2, q3, q4, t, kb, 0, N, _, q9, q5, q10, hN ▸ StrChars.Road.codOf hn (fun c hc => (hp c hc).2), own_up _ hp, hn ▸ l2⟩, hl, hc, hs⟩
theorem own_nar255 (x : Int32) : ¬ nar .char ((x &&& (255 : Int32)).toUInt32.toUInt16.toUInt32.toInt32) < 0 ∧ ¬ (255 : Int32) < nar .char ((x &&& (255 : Int32)).toUInt32.toUInt16.toUInt32.toInt32) := by
  have t : ∀ k : Fin 256, ¬ nar .char ((Int32.ofNat k.val).toUInt32.toUInt16.toUInt32.toInt32) < 0 ∧ ¬ (255 : Int32) < nar .char ((Int32.ofNat k.val).toUInt32.toUInt16.toUInt32.toInt32) := by decide +kernel
  have h : (x &&& 255).toBitVec.toNat < 256 := by
    simp only [Int32.toBitVec_and, BitVec.toNat_and]
    exact Nat.lt_succ_of_le Nat.and_le_right
  have e : (x &&& 255) = Int32.ofNat (x &&& 255).toBitVec.toNat := by
    apply Int32.toBitVec_inj.mp
    show _ = BitVec.ofNat 32 _
    rw [BitVec.ofNat_toNat]; simp
  rw [e]
  exact t ⟨_, h⟩
theorem own_lt {x y : Int32} : x < y ↔ x.toInt < y.toInt := Int32.lt_iff_toInt_lt
theorem own_narC {c : Int32} (h : ¬ c < 0 ∧ ¬ (65535 : Int32) < c) : nar .char c = c := by
  have q := c_i2c c
  rw [own_lt, own_lt] at h
  have e1 : (65535 : Int32).toInt = 65535 := rfl
  have e2 : (0 : Int32).toInt = 0 := rfl
  apply Int32.toInt_inj.mp
  show c.toUInt32.toUInt16.toUInt32.toInt32.toInt = c.toInt
  omega
theorem own_up1 {c : Int32} (h : ¬ c < 0 ∧ ¬ (255 : Int32) < c) : ¬ c < 0 ∧ ¬ (65535 : Int32) < c := by
  rw [own_lt, own_lt] at h ⊢
  have e1 : (65535 : Int32).toInt = 65535 := rfl
  have e2 : (255 : Int32).toInt = 255 := rfl
  omega
theorem own_narL {c : Int32} (h : ¬ c < 0 ∧ ¬ (255 : Int32) < c) : nar .char c = c := own_narC (own_up1 h)
theorem own_m255 (x : Int32) : ¬ (x &&& (255 : Int32)) < 0 ∧ ¬ (255 : Int32) < (x &&& (255 : Int32)) := by
  have q := c_and x 255 (by decide)
  rw [own_lt, own_lt]
  have e1 : (255 : Int32).toInt = 255 := rfl
  have e2 : (0 : Int32).toInt = 0 := rfl
  omega
theorem own_i2cm (x : Int32) : (x &&& (255 : Int32)).toUInt32.toUInt16.toUInt32.toInt32 = (x &&& (255 : Int32)) := own_narL (own_m255 x)
theorem own_narm (x : Int32) : nar .char ((x &&& (255 : Int32)).toUInt32.toUInt16.toUInt32.toInt32) = (x &&& (255 : Int32)) := by rw [own_i2cm]; exact own_narL (own_m255 x)
theorem own_all1 {P : Int32 → Prop} {a : Int32} (h : P a) : ∀ c ∈ [a], P c := fun c hc => by rw [List.mem_singleton.mp hc]; exact h
theorem own_allC {P : Int32 → Prop} {a : Int32} {L : List Int32} (h : P a) (r : ∀ c ∈ L, P c) : ∀ c ∈ a :: L, P c := fun c hc => by
  rcases List.mem_cons.mp hc with e | e
  · rw [e]; exact h
  · exact r c e
end OwnStr
end Jvm.Pilot.@@N@@
/- own kit 3: small naturals as ints -/
namespace Jvm.Pilot.@@N@@
open Jvm Jvm.ClassFile Sem Op Lib Jvm.Free Jvm.Stand Jvm.LawKit Jvm.RoadKit Bundle Jvm.Pilot.@@N@@.Jvm.D
section OwnNum
theorem own_ti {n : Nat} (h : n < 2147483648) : (Int32.ofNat n).toInt = n := Int32.toInt_ofNat_small h
theorem own_nlt {a b : Nat} (ha : a < 2147483648) (hb : b < 2147483648) : Int32.ofNat a < Int32.ofNat b ↔ a < b := by
  rw [Int32.lt_iff_toInt_lt, own_ti ha, own_ti hb]; omega
theorem own_nin {a b : Nat} (ha : a < 2147483648) (hb : b < 2147483648) : Int32.ofNat a = Int32.ofNat b ↔ a = b := by
  rw [← Int32.toInt_inj, own_ti ha, own_ti hb]; omega
theorem own_nsub {a b : Nat} (h : a ≤ b) (hb : b < 2147483648) : Int32.ofNat b - Int32.ofNat a = Int32.ofNat (b - a) := by
  have q := c_isub (Int32.ofNat b) (Int32.ofNat a)
  have r := rng32 (Int32.ofNat b - Int32.ofNat a)
  rw [own_ti hb, own_ti (by omega)] at q
  rw [← Int32.toInt_inj, own_ti (by omega)]; omega
theorem own_nadd {a b : Nat} (h : a + b < 2147483648) : Int32.ofNat a + Int32.ofNat b = Int32.ofNat (a + b) := by
  have q := c_iadd (Int32.ofNat a) (Int32.ofNat b)
  have r := rng32 (Int32.ofNat a + Int32.ofNat b)
  rw [own_ti (by omega), own_ti (by omega)] at q
  rw [← Int32.toInt_inj, own_ti h]; omega
theorem own_nn {a : Nat} (h : a < 2147483648) : ¬ Int32.ofNat a < 0 := by
  rw [Int32.lt_iff_toInt_lt, own_ti h]; have : (0 : Int32).toInt = 0 := rfl; omega
theorem own_tcn {a : Nat} (h : a < 2147483648) : (Int32.ofNat a).toNatClampNeg = a := by
  have q := nat_of (own_nn h)
  rw [own_ti h] at q; omega
theorem own_exN {x : Int32} (h : 0 ≤ x.toInt) : ∃ n : Nat, x = Int32.ofNat n ∧ (n : Int) = x.toInt := by
  have r := rng32 x
  refine ⟨x.toInt.toNat, ?_, by omega⟩
  rw [← Int32.toInt_inj, own_ti (by omega)]; omega
end OwnNum
end Jvm.Pilot.@@N@@
namespace Jvm.Pilot.@@N@@
open Jvm Jvm.ClassFile Sem Op Lib Jvm.Free Jvm.Stand Jvm.LawKit Jvm.RoadKit Bundle Jvm.Pilot.@@N@@.Jvm.D
section OwnStrLen
variable {p : Program} {l : Launch} {e : Env} {R : Room} {s : State} {args : Array Value} {below : List Frame} {Z : State} {a0 : Array Value} {h h' : Heap} {len W n0 : Nat}
theorem own_wLen (hw : ∀ d ∈ tables_1, d.before a0 Z = true) : ∀ d ∈ StrChars.Road.wordsLen, d.before a0 Z = true := fun d hd => hw d ((by decide +kernel : ∀ d ∈ StrChars.Road.wordsLen, d ∈ tables_1) d hd)
theorem own_lenB (hZ : Z.Warmed39 s.vm) (hw : ∀ d ∈ StrChars.Road.wordsLen, d.before a0 Z = true) {kI : Nat} (wi : (Jvm.Cond.instantiable "java/lang/String" kI).before a0 Z = true) {x : Addr} {cs : List Int32} (O : Old Z n0 h) (CS : own_CS Z) (S1 : own_Str Z h x cs) (hfr : 2 ≤ R.frames) (hlo : W + 25 ≤ R.locals) :
    own_Bk l R p e below s args (⟨"java/lang/String", "length", "()I"⟩ : MethodName) len W #[.ref x] h 0 0 (fun v h' L => v = some (.int (Int32.ofNat cs.length)) ∧ Fr n0 L ∧ h' = h) := by
  obtain ⟨z, S, hz⟩ := CS
  obtain ⟨E1, t, kb, cd, N2, vs, F1, F2, A, r1, r2, r3⟩ := S1
  refine Back.mono (StrChars.Road.lenW hZ hw wi E1 F1 F2 A r1 r2 (S.ext O.2) hz r3 hfr hlo) (fun _ _ hp => hp) (fun A a v B _ hq => ?_)
  obtain ⟨L, ⟨hc, rfl, e1⟩, hl, hk, hs⟩ := hq
  exact ⟨[], ⟨hc, Fr.nil _, e1⟩, hl, hk, hs⟩
end OwnStrLen
end Jvm.Pilot.@@N@@
namespace Jvm.Pilot.@@N@@
open Jvm Jvm.ClassFile Sem Op Lib Jvm.Free Jvm.Stand Jvm.LawKit Jvm.RoadKit Bundle Jvm.Pilot.@@N@@.Jvm.D
section OwnStrEmp
variable {p : Program} {l : Launch} {e : Env} {R : Room} {s : State} {args : Array Value} {below : List Frame} {Z : State} {a0 : Array Value} {h h' : Heap} {len W n0 : Nat}
theorem own_wEmp (hw : ∀ d ∈ tables_1, d.before a0 Z = true) : ∀ d ∈ StrChars.Road.wordsEmp, d.before a0 Z = true := fun d hd => hw d ((by decide +kernel : ∀ d ∈ StrChars.Road.wordsEmp, d ∈ tables_1) d hd)
theorem own_empB (hZ : Z.Warmed39 s.vm) (hw : ∀ d ∈ StrChars.Road.wordsEmp, d.before a0 Z = true) {kI : Nat} (wi : (Jvm.Cond.instantiable "java/lang/String" kI).before a0 Z = true) {x : Addr} {cs : List Int32} (S1 : own_Str Z h x cs) (hfr : 1 ≤ R.frames) (hlo : W + 12 ≤ R.locals) :
    own_Bk l R p e below s args (⟨"java/lang/String", "isEmpty", "()Z"⟩ : MethodName) len W #[.ref x] h 0 0 (fun v h' L => v = some (.int (if cs.length = 0 then 1 else 0)) ∧ Fr n0 L ∧ h' = h) := by
  obtain ⟨E1, t, kb, cd, N2, vs, F1, F2, A, r1, r2, r3⟩ := S1
  refine Back.mono (StrChars.Road.empW hZ hw wi E1 F1 F2 A r1 r2 r3 hfr hlo) (fun _ _ hp => hp) (fun A a v B _ hq => ?_)
  obtain ⟨L, ⟨hc, rfl, e1⟩, hl, hk, hs⟩ := hq
  exact ⟨[], ⟨hc, Fr.nil _, e1⟩, hl, hk, hs⟩
end OwnStrEmp
end Jvm.Pilot.@@N@@
namespace Jvm.Pilot.@@N@@
open Jvm Jvm.ClassFile Sem Op Lib Jvm.Free Jvm.Stand Jvm.LawKit Jvm.RoadKit Bundle Jvm.Pilot.@@N@@.Jvm.D
section OwnStrCh
variable {p : Program} {l : Launch} {e : Env} {R : Room} {s : State} {args : Array Value} {below : List Frame} {Z : State} {a0 : Array Value} {h h' : Heap} {len W n0 : Nat}
theorem own_wCh (hw : ∀ d ∈ tables_1, d.before a0 Z = true) : ∀ d ∈ StrChars.Road.wordsChN, d.before a0 Z = true := fun d hd => hw d ((by decide +kernel : ∀ d ∈ StrChars.Road.wordsChN, d ∈ tables_1) d hd)
def own_FM (Z : State) : Prop := ∃ G : Value, Sta Z Z.heap "jdk/internal/util/Preconditions" "SIOOBE_FORMATTER" "Ljava/util/function/BiFunction;" G ∧ G.isRef = true
theorem own_chB (hZ : Z.Warmed39 s.vm) (hw : ∀ d ∈ StrChars.Road.wordsChN, d.before a0 Z = true) {kI : Nat} (wi : (Jvm.Cond.instantiable "java/lang/String" kI).before a0 Z = true) {x : Addr} {cs : List Int32} {i : Nat} {j : Int32} (O : Old Z n0 h) (CS : own_CS Z) (FM : own_FM Z) (S1 : own_Str Z h x cs) (hlat : ∀ c ∈ cs, ¬ (255 : Int32) < c) (hi : i < cs.length) (hj : j = Int32.ofNat i) (hfr : 4 ≤ R.frames) (hlo : W + 53 ≤ R.locals) :
    own_Bk l R p e below s args (⟨"java/lang/String", "charAt", "(I)C"⟩ : MethodName) len W #[.ref x, .int j] h 0 0 (fun v h' L => v = some (.int (cs.getD i 0)) ∧ Fr n0 L ∧ h' = h) := by
  obtain ⟨z, S, hz⟩ := CS
  obtain ⟨G, F, rf⟩ := FM
  obtain ⟨E1, t, kb, cd, N2, vs, F1, F2, A, r1, r2, r3⟩ := S1
  have hcd : cd = 0 := by
    rcases r1 with ⟨q, -⟩ | ⟨-, -, -, c, hc, q⟩
    · exact q
    · exact absurd q (hlat c hc)
  subst hcd
  refine Back.mono (StrChars.Road.chN hZ hw wi E1 F1 F2 A r1 r2 (S.ext O.2) hz (F.ext O.2) rf r3 hi hj hfr hlo) (fun _ _ hp => hp) (fun A a v B _ hq => ?_)
  obtain ⟨L, ⟨hc, rfl, e1⟩, hl, hk, hs⟩ := hq
  exact ⟨[], ⟨hc, Fr.nil _, e1⟩, hl, hk, hs⟩
end OwnStrCh
end Jvm.Pilot.@@N@@
namespace Jvm.Pilot.@@N@@
open Jvm Jvm.ClassFile Sem Op Lib Jvm.Free Jvm.Stand Jvm.LawKit Jvm.RoadKit Bundle Jvm.Pilot.@@N@@.Jvm.D
theorem own_eqI {args : Array Value} {first s : State} {o : Option Outcome} {idx : List Nat} {t : Term} {k : Int32} (h : (Jvm.Cond.eq t (.int k)).value args first o s idx = some true) : t.eval args first o idx s = some (.int k) := by
  obtain ⟨y, h1, h2⟩ := Cond.eq_one (beq_iff_eq.mpr h : (Jvm.Cond.eq t (.int k)).holds args first o s idx = true)
  exact h1.trans (h2.symm.trans (Term.int_eval k))
theorem own_eqR {args : Array Value} {first s : State} {o : Option Outcome} {idx : List Nat} {t u : Term} {v : Value} (h : (Jvm.Cond.eq t u).value args first o s idx = some true) (hu : u.eval args first o idx s = some v) : t.eval args first o idx s = some v := by
  obtain ⟨y, h1, h2⟩ := Cond.eq_one (beq_iff_eq.mpr h : (Jvm.Cond.eq t u).holds args first o s idx = true)
  exact h1.trans (h2.symm.trans hu)
theorem own_len {args : Array Value} {Z : State} {t : Term} {n : Int32} {a : Addr} {cl : Cell} {ty : FieldType} (A : Arr Z Z.heap a cl ty) (h : (Term.length t).eval args Z none [] Z = some (.int n)) (ht : t.eval args Z none [] Z = some (.ref a)) : cl.slots.size < 2 ^ 31 ∧ cl.slots.size.toInt32 = n := by
  have ha : Z.arrayAt? a = some cl := A.fin (Vm.Alike.refl _)
  by_cases hn : cl.slots.size < 2 ^ 31
  · have q := len_f ht ha hn
    cases h.symm.trans q
    exact ⟨hn, rfl⟩
  · simp [Term.eval, ht, ha] at h
    exact absurd h.1 hn
theorem own_el {args : Array Value} {Z : State} {t : Term} {v : Value} {a : Addr} {cl : Cell} {ty : FieldType} {j : Int32} (A : Arr Z Z.heap a cl ty) (h : (Term.elem t (.int j)).eval args Z none [] Z = some v) (ht : t.eval args Z none [] Z = some (.ref a)) : cl.slots[j.toNatClampNeg]? = some v := (elem_in h ht (Term.int_eval j) A.1).2
abbrev own_PA : List Int32 := [1207963663, 1207963663, 1207963663, 1207963663, 1207963663, 1207963663, 1207963663, 1207963663, 1207963663, 1476411407, 1342193679, 1476411407, 1610629135, 1342193679, 1207963663, 1207963663, 1207963663, 1207963663, 1207963663, 1207963663, 1207963663, 1207963663, 1207963663, 1207963663, 1207963663, 1207963663, 1207963663, 1207963663, 1342193679, 1342193679, 1342193679, 1476411407, 1610629132, 1744830488, 1744830488, 671088664, 671113242, 671088664, 1744830488, 1744830488, -402653163, -402653162, 1744830488, 536870937, 939524120, 536870932, 939524120, 939524120, 402667017, 402667017, 402667017, 402667017, 402667017, 402667017, 402667017, 402667017, 402667017, 402667017, 939524120, 1744830488, -402653159, 1744830489, -402653159, 1744830488, 1744830488, 8552417, 8552417, 8552417, 8552417, 8552417, 8552417, 8552417, 8552417, 8552417, 8552417, 8552417, 8552417, 8552417, 8552417, 8552417, 8552417, 8552417, 8552417, 8552417, 8552417, 8552417, 8552417, 8552417, 8552417, 8552417, 8552417, -402653163, 1744830488, -402653162, 1744830491, 1744850967, 1744830491, 8486882, 8486882, 8486882, 8486882, 8486882, 8486882, 8486882, 8486882, 8486882, 8486882, 8486882, 8486882, 8486882, 8486882, 8486882, 8486882, 8486882, 8486882, 8486882, 8486882, 8486882, 8486882, 8486882, 8486882, 8486882, 8486882, -402653163, 1744830489, -402653162, 1744830489, 1207963663, 1207963663, 1207963663, 1207963663, 1207963663, 1207963663, 1342181391, 1207963663, 1207963663, 1207963663, 1207963663, 1207963663, 1207963663, 1207963663, 1207963663, 1207963663, 1207963663, 1207963663, 1207963663, 1207963663, 1207963663, 1207963663, 1207963663, 1207963663, 1207963663, 1207963663, 1207963663, 1207963663, 1207963663, 1207963663, 1207963663, 1207963663, 1207963663, 939524108, 1744830488, 671113242, 671113242, 671113242, 671113242, 1744830492, 1744830488, 1744830491, 1744830492, 28677, -402653155, 1744830489, 1207963664, 1744830492, 1744830491, 671088668, 671088665, 402654731, 402654731, 1744830491, 134049794, 1744830488, 1744830488, 1744830491, 402654475, 28677, -402653154, 1744832523, 1744832523, 1744832523, 1744830488, 8548353, 8548353, 8548353, 8548353, 8548353, 8548353, 8548353, 8548353, 8548353, 8548353, 8548353, 8548353, 8548353, 8548353, 8548353, 8548353, 8548353, 8548353, 8548353, 8548353, 8548353, 8548353, 8548353, 1744830489, 8548353, 8548353, 8548353, 8548353, 8548353, 8548353, 8548353, 134049794, 8482818, 8482818, 8482818, 8482818, 8482818, 8482818, 8482818, 8482818, 8482818, 8482818, 8482818, 8482818, 8482818, 8482818, 8482818, 8482818, 8482818, 8482818, 8482818, 8482818, 8482818, 8482818, 8482818, 1744830489, 8482818, 8482818, 8482818, 8482818, 8482818, 8482818, 8482818, 102592514]
def own_ws (c : Int32) : Prop := (¬ c < 9 ∧ ¬ (13 : Int32) < c) ∨ (¬ c < 28 ∧ ¬ (32 : Int32) < c)
instance (c : Int32) : Decidable (own_ws c) := by unfold own_ws; infer_instance
set_option maxRecDepth 100000 in
theorem own_memA : ∀ k : Fin 256, jdkStatics_1[17 + k.val]? = some (Jvm.Cond.eq (Jvm.Term.elem (Jvm.Term.static "java/lang/CharacterDataLatin1" "A" "[I") (Jvm.Term.int (Int32.ofNat k.val))) (Jvm.Term.int (own_PA.getD k.val 0))) := by decide +kernel
theorem own_wsT : ∀ k : Fin 256, ((own_PA.getD k.val 0 &&& (28672 : Int32)) = 16384) ↔ own_ws (Int32.ofNat k.val) := by decide +kernel
theorem own_loT : ∀ k : Fin 256, ((StrChars.lo8 (Int32.ofNat k.val) &&& (255 : Int32)).toUInt32.toUInt16.toUInt32.toInt32) = Int32.ofNat k.val := by decide +kernel
theorem own_c256 {c : Int32} (h : ¬ c < 0 ∧ ¬ (255 : Int32) < c) : ∃ k : Fin 256, c = Int32.ofNat k.val := by
  rw [own_lt, own_lt] at h
  have e1 : (255 : Int32).toInt = 255 := rfl
  have e2 : (0 : Int32).toInt = 0 := rfl
  obtain ⟨n, e, q⟩ := own_exN (x := c) (by omega)
  exact ⟨⟨n, by omega⟩, e⟩
theorem own_lo {c : Int32} (h : ¬ c < 0 ∧ ¬ (255 : Int32) < c) : ((StrChars.lo8 c &&& (255 : Int32)).toUInt32.toUInt16.toUInt32.toInt32) = c := by
  obtain ⟨k, rfl⟩ := own_c256 h
  exact own_loT k
theorem own_wsP {c : Int32} (h : ¬ c < 0 ∧ ¬ (255 : Int32) < c) : ((own_PA.getD c.toNatClampNeg 0 &&& (28672 : Int32)) = 16384) ↔ own_ws c := by
  obtain ⟨k, rfl⟩ := own_c256 h
  rw [own_tcn (by omega)]
  exact own_wsT k
theorem own_gm (L : List Int32) (k : Nat) : (L.map Value.int).getD k (.int 0) = .int (L.getD k 0) := by
  simp only [List.getD_eq_getElem?_getD, List.getElem?_map]
  cases L[k]? <;> rfl
theorem own_gl (L : List Int32) {k : Nat} (h : k < L.length) : (L.map fun c => Value.int (StrChars.lo8 c)).getD k (.int 0) = .int (StrChars.lo8 (L.getD k 0)) := by
  simp [List.getD_eq_getElem?_getD, List.getElem?_map, List.getElem?_eq_getElem h]
theorem own_gin {L : List Int32} {k : Nat} {Q : Int32 → Prop} (hb : ∀ c ∈ L, Q c) (h : k < L.length) : Q (L.getD k 0) := by
  rw [List.getD_eq_getElem?_getD, List.getElem?_eq_getElem h]; exact hb _ (List.getElem_mem h)
theorem own_tab {Z : State} {a : Addr} {cl : Cell} (A : Arr Z Z.heap a cl .int) (q : cl.slots.size < 2 ^ 31) (e : cl.slots.size.toInt32 = 256) (H : ∀ k : Fin 256, cl.slots[k.val]? = some (.int (own_PA.getD k.val 0))) : Arv Z Z.heap a cl.cls .int 256 (own_PA.map Value.int) (.int 0) := by
  have S : cl.slots.size = (256 : Int32).toNatClampNeg := by rw [← e]; simp only [Int32.toNatClampNeg, len_toInt q]; rfl
  have S' : cl.slots.size = 256 := S
  refine ⟨cl, A, rfl, S, by decide, fun j hj => ?_, fun j hj => ?_⟩
  · rw [own_gm]; exact H ⟨j, by omega⟩
  · rw [own_gm]; rfl
theorem own_nltN {a b : Nat} (ha : a < 2147483648) (hb : b < 2147483648) (h : ¬ Int32.ofNat a < Int32.ofNat b) : b ≤ a := by
  have q : ¬ a < b := fun q => h ((own_nlt ha hb).mpr q)
  omega
theorem own_ndec {i : Nat} (h : 1 ≤ i) (hi : i < 2147483648) : Int32.ofNat i + (-1 : Int32) = Int32.ofNat (i - 1) := by
  have q := c_iadd (Int32.ofNat i) (-1)
  have r := rng32 (Int32.ofNat i + (-1 : Int32))
  have e1 : (-1 : Int32).toInt = -1 := rfl
  rw [own_ti hi] at q
  rw [← Int32.toInt_inj, own_ti (by omega)]; omega
theorem own_ifT {P : Prop} [Decidable P] (h : ¬ (if P then (1 : Int32) else 0) = 0) : P := Decidable.byContradiction fun q => h (if_neg q)
theorem own_ifF {P : Prop} [Decidable P] (h : (if P then (1 : Int32) else 0) = 0) : ¬ P := fun q => by rw [if_pos q] at h; revert h; decide
theorem own_rc {c : Int32} (h : ¬ c < 0 ∧ ¬ (255 : Int32) < c) : narrow .char (.int c) = .int c := by show Value.int (nar .char c) = _; rw [own_narL h]
theorem own_rz {P : Prop} [Decidable P] : narrow .boolean (.int (if P then (1 : Int32) else 0)) = .int (if P then (1 : Int32) else 0) := by split <;> rfl
def own_CD (Z : State) : Prop := ∃ (ai aA : Nat) (kA : ClassId), Sta Z Z.heap "java/lang/CharacterDataLatin1" "instance" "Ljava/lang/CharacterDataLatin1;" (.ref ai) ∧ Exa Z Z.heap ai "java/lang/CharacterDataLatin1" ∧ Sta Z Z.heap "java/lang/CharacterDataLatin1" "A" "[I" (.ref aA) ∧ Arv Z Z.heap aA kA .int 256 (own_PA.map Value.int) (.int 0)
theorem d16_0 : decode jdk_116_method_1_code 0 = .ok (.iload_n 1, 1) := by decide +kernel
theorem d16_1 : decode jdk_116_method_1_code 1 = .ok (.i2c, 1) := by decide +kernel
theorem d16_2 : decode jdk_116_method_1_code 2 = .ok (.istore_n 2, 1) := by decide +kernel
theorem d16_3 : decode jdk_116_method_1_code 3 = .ok (.getstatic 1, 3) := by decide +kernel
theorem d16_6 : decode jdk_116_method_1_code 6 = .ok (.iload_n 2, 1) := by decide +kernel
theorem d16_7 : decode jdk_116_method_1_code 7 = .ok (.iaload, 1) := by decide +kernel
theorem d16_8 : decode jdk_116_method_1_code 8 = .ok (.istore_n 3, 1) := by decide +kernel
theorem d16_9 : decode jdk_116_method_1_code 9 = .ok (.iload_n 3, 1) := by decide +kernel
theorem d16_10 : decode jdk_116_method_1_code 10 = .ok (.ireturn, 1) := by decide +kernel
theorem pn_java_lang_CharacterDataLatin1 : plainName "java/lang/CharacterDataLatin1" = true := by first | (simp [plainName, overriddenIn]; done) | decide +kernel
theorem ef_gpW (m : MethodId) (x0 : Addr) (x1 : Int32) : entryFrame m #[(.ref x0), (.int x1)] 4 = mkF m 0 #[.val (.ref x0), .val (.int x1), .unset, .unset] [] := by (first | (simp [entryFrame, mkF, argsToLocals, Value.category]; done) | rfl)
abbrev gpWR : Room := { frames := 0, cells := 0, slots := 0, locals := 0 }
set_option maxRecDepth 65536 in
set_option maxHeartbeats 40000000 in
theorem gpW (l : Launch) (Z : State) (a0 : Array Value) (hw : ∀ d ∈ tables_1, d.before a0 Z = true) (a1 : Nat) (cq : Int32) (h0 : Heap) (n0 : Nat) (O0 : Old Z n0 h0) (CDs : own_CD Z) (hc : ¬ cq < 0 ∧ ¬ (255 : Int32) < cq) :
    own_C l Z (⟨"java/lang/CharacterDataLatin1", "getProperties", "(I)I"⟩ : MethodName) jdk_116_method_1_code 4 (some .int) [] gpWR #[(.ref a1), (.int cq)] h0 (fun v h L => v = some (.int (own_PA.getD cq.toNatClampNeg 0)) ∧ Fr n0 L ∧ h = h0) := by
  refine own_body (plainFor_of_name pn_java_lang_CharacterDataLatin1) ?_
  intro p e s m below meth c T0 X0 hx hby hml hZ hown hnm hret hlk e0
  have N0 := Fr.nil n0
  have zO := own_old O0
  obtain ⟨ai, aA, kA, Si, Ei, SA, VA⟩ := id CDs
  have KZ : Keep Z.heap h0 [] := (Keep.refl _ _).ext O0.2
  refine own_st (fun _ k => castTop (ef_gpW m a1 cq) k) ?_
  show own_Go p e below s _ _ _ (T0.setTop (mkF m 0 #[.val (.ref a1), .val (.int cq), .unset, .unset] []))
  refine own_st (fun _ k => XS.iloadN X0.here hx rfl (hb hby d16_0) rfl k) ?_
  show own_Go p e below s _ _ _ (T0.setTop (mkF m 1 #[.val (.ref a1), .val (.int cq), .unset, .unset] [(.int cq)]))
  refine own_st (fun _ k => XS.i2c X0.here hx rfl (hb hby d16_1) rfl k) ?_
  show own_Go p e below s _ _ _ (T0.setTop (mkF m 2 #[.val (.ref a1), .val (.int cq), .unset, .unset] [(.int (cq.toUInt32.toUInt16.toUInt32.toInt32))]))
  rw [show cq.toUInt32.toUInt16.toUInt32.toInt32 = cq from own_narL hc]
  show own_Go p e below s _ _ _ (T0.setTop (mkF m 2 #[.val (.ref a1), .val (.int cq), .unset, .unset] [(.int cq)]))
  refine own_st (fun _ k => XS.istoreN X0.here hx rfl (hb hby d16_2) rfl (l' := #[.val (.ref a1), .val (.int cq), .val (.int cq), .unset]) rfl k) ?_
  show own_Go p e below s _ _ _ (T0.setTop (mkF m 3 #[.val (.ref a1), .val (.int cq), .val (.int cq), .unset] []))
  obtain ⟨T101, X101, e101, st101⟩ := getS2 X0 hx hZ hown (host := "") (Or.inl (hw _ (List.mem_of_getElem? (i := 76) rfl))) Via.refl e0 (SA.ext O0.2) (g := (mkF m 3 #[.val (.ref a1), .val (.int cq), .val (.int cq), .unset] [])) rfl (hb hby d16_3)
  refine own_st st101 ?_
  show own_Go p e below s _ _ _ (T101.setTop (mkF m 6 #[.val (.ref a1), .val (.int cq), .val (.int cq), .unset] [(.ref aA)]))
  refine own_st (fun _ k => XS.iloadN X101.here hx rfl (hb hby d16_6) rfl k) ?_
  show own_Go p e below s _ _ _ (T101.setTop (mkF m 7 #[.val (.ref a1), .val (.int cq), .val (.int cq), .unset] [(.int cq), (.ref aA)]))
  obtain ⟨c102, Ar102, q102, S102, M102, H102, U102⟩ := id (VA.keep KZ nin0)
  have hi102 := inb_of (j := cq) S102 ⟨hc.1, (by have q := hc.2; rw [own_lt] at q ⊢; have e1 : (256 : Int32).toInt = 256 := rfl; have e2 : (255 : Int32).toInt = 255 := rfl; omega)⟩
  refine own_st (X101.iaload hx (j := cq) (v := (.int (own_PA.getD cq.toNatClampNeg 0))) (by rw [e101]; exact Ar102.1) (State.isArrayOf_alike hZ.alike Ar102.2.1) Ar102.2.2 hi102 (H102.at hi102 (own_gm _ _)) (g := (mkF m 7 #[.val (.ref a1), .val (.int cq), .val (.int cq), .unset] [(.int cq), (.ref aA)])) rfl rfl (hb hby d16_7)) ?_
  show own_Go p e below s _ _ _ (T101.setTop (mkF m 8 #[.val (.ref a1), .val (.int cq), .val (.int cq), .unset] [(.int (own_PA.getD cq.toNatClampNeg 0))]))
  refine own_st (fun _ k => XS.istoreN X101.here hx rfl (hb hby d16_8) rfl (l' := #[.val (.ref a1), .val (.int cq), .val (.int cq), .val (.int (own_PA.getD cq.toNatClampNeg 0))]) rfl k) ?_
  show own_Go p e below s _ _ _ (T101.setTop (mkF m 9 #[.val (.ref a1), .val (.int cq), .val (.int cq), .val (.int (own_PA.getD cq.toNatClampNeg 0))] []))
  refine own_st (fun _ k => XS.iloadN X101.here hx rfl (hb hby d16_9) rfl k) ?_
  show own_Go p e below s _ _ _ (T101.setTop (mkF m 10 #[.val (.ref a1), .val (.int cq), .val (.int cq), .val (.int (own_PA.getD cq.toNatClampNeg 0))] [(.int (own_PA.getD cq.toNatClampNeg 0))]))
  exact own_ret X101 hx hlk e101 hret rfl (Or.inl ⟨rfl, Or.inl rfl, _, rfl⟩) (hb hby d16_10) (by decide) (by decide) ⟨rfl, N0, rfl⟩
theorem d15_0 : decode jdk_116_method_26_code 0 = .ok (.aload_n 0, 1) := by decide +kernel
theorem d15_1 : decode jdk_116_method_26_code 1 = .ok (.iload_n 1, 1) := by decide +kernel
theorem pd__28I_29I : parseMethodDescriptor "(I)I" = some ⟨[.int], some .int⟩ := by decide +kernel
theorem d15_2 : decode jdk_116_method_26_code 2 = .ok (.invokevirtual 15, 3) := by decide +kernel
theorem d15_5 : decode jdk_116_method_26_code 5 = .ok (.istore_n 2, 1) := by decide +kernel
theorem d15_6 : decode jdk_116_method_26_code 6 = .ok (.iload_n 2, 1) := by decide +kernel
theorem d15_7 : decode jdk_116_method_26_code 7 = .ok (.sipush 28672, 3) := by decide +kernel
theorem d15_10 : decode jdk_116_method_26_code 10 = .ok (.iand, 1) := by decide +kernel
theorem d15_11 : decode jdk_116_method_26_code 11 = .ok (.sipush 16384, 3) := by decide +kernel
theorem d15_14 : decode jdk_116_method_26_code 14 = .ok (.if_icmp .ne 7, 3) := by decide +kernel
theorem d15_17 : decode jdk_116_method_26_code 17 = .ok (.iconst 1, 1) := by decide +kernel
theorem d15_18 : decode jdk_116_method_26_code 18 = .ok (.goto 4, 3) := by decide +kernel
theorem d15_22 : decode jdk_116_method_26_code 22 = .ok (.ireturn, 1) := by decide +kernel
theorem d15_21 : decode jdk_116_method_26_code 21 = .ok (.iconst 0, 1) := by decide +kernel
theorem ef_iwW (m : MethodId) (x0 : Addr) (x1 : Int32) : entryFrame m #[(.ref x0), (.int x1)] 3 = mkF m 0 #[.val (.ref x0), .val (.int x1), .unset] [] := by (first | (simp [entryFrame, mkF, argsToLocals, Value.category]; done) | rfl)
abbrev iwWR : Room := { frames := 1, cells := 0, slots := 0, locals := 15 }
set_option maxRecDepth 65536 in
set_option maxHeartbeats 40000000 in
theorem iwW (l : Launch) (Z : State) (a0 : Array Value) (hw : ∀ d ∈ tables_1, d.before a0 Z = true) (a1 : Nat) (cq : Int32) (h0 : Heap) (n0 : Nat) (O0 : Old Z n0 h0) (CDs : own_CD Z) (hc : ¬ cq < 0 ∧ ¬ (255 : Int32) < cq) (E1 : Exa Z h0 a1 "java/lang/CharacterDataLatin1") :
    own_C l Z (⟨"java/lang/CharacterDataLatin1", "isWhitespace", "(I)Z"⟩ : MethodName) jdk_116_method_26_code 3 (some .boolean) [] iwWR #[(.ref a1), (.int cq)] h0 (fun v h L => v = some (.int (if own_ws cq then 1 else 0)) ∧ Fr n0 L ∧ h = h0) := by
  refine own_body (plainFor_of_name pn_java_lang_CharacterDataLatin1) ?_
  intro p e s m below meth c T0 X0 hx hby hml hZ hown hnm hret hlk e0
  have N0 := Fr.nil n0
  have zO := own_old O0
  refine own_st (fun _ k => castTop (ef_iwW m a1 cq) k) ?_
  show own_Go p e below s _ _ _ (T0.setTop (mkF m 0 #[.val (.ref a1), .val (.int cq), .unset] []))
  refine own_st (fun _ k => XS.aloadN X0.here hx rfl (hb hby d15_0) rfl rfl k) ?_
  show own_Go p e below s _ _ _ (T0.setTop (mkF m 1 #[.val (.ref a1), .val (.int cq), .unset] [(.ref a1)]))
  refine own_st (fun _ k => XS.iloadN X0.here hx rfl (hb hby d15_1) rfl k) ?_
  show own_Go p e below s _ _ _ (T0.setTop (mkF m 2 #[.val (.ref a1), .val (.int cq), .unset] [(.int cq), (.ref a1)]))
  obtain ⟨T101, v101, L101, h101, X101, e101, q101, st101⟩ := own_callV X0 hx hZ (y := (⟨"java/lang/CharacterDataLatin1", "getProperties", "(I)I"⟩ : MethodName)) (z := (⟨"java/lang/CharacterDataLatin1", "getProperties", "(I)I"⟩ : MethodName)) hown (hw _ (List.mem_of_getElem? (i := 71) rfl)) (hw _ (List.mem_of_getElem? (i := 72) rfl)) (notFace_of_selects (args := #[]) (mvT hZ (hw _ (List.mem_of_getElem? (i := 74) rfl)))) (hw _ (List.mem_of_getElem? (i := 74) rfl)) (hw _ (List.mem_of_getElem? (i := 73) rfl)) (by decide) (own_bk (W := 0) (gpW l Z a0 hw a1 cq h0 n0 O0 CDs hc) hZ (hw _ (List.mem_of_getElem? (i := 75) rfl)) (hw _ (List.mem_of_getElem? (i := 65) rfl)) (by decide) (by decide)) e0 E1 (by decide) (by decide) (g := (mkF m 2 #[.val (.ref a1), .val (.int cq), .unset] [(.int cq), (.ref a1)])) rfl (by rw [hml]; rfl) (argsL := [(.int cq)]) (rest := []) (lenOf pd__28I_29I rfl) rfl rfl (by show 2 * 0 + _ ≤ _; exact Nat.le_of_eq rfl) (hb hby d15_2)
  obtain ⟨rfl, N101q, hq101⟩ := q101
  replace e101 := e101.trans hq101
  refine own_st st101 ?_
  have N101 := Fr.app N0 N101q
  show own_Go p e below s _ _ _ (T101.setTop (mkF m 5 #[.val (.ref a1), .val (.int cq), .unset] [(.int (own_PA.getD cq.toNatClampNeg 0))]))
  refine own_st (fun _ k => XS.istoreN X101.here hx rfl (hb hby d15_5) rfl (l' := #[.val (.ref a1), .val (.int cq), .val (.int (own_PA.getD cq.toNatClampNeg 0))]) rfl k) ?_
  show own_Go p e below s _ _ _ (T101.setTop (mkF m 6 #[.val (.ref a1), .val (.int cq), .val (.int (own_PA.getD cq.toNatClampNeg 0))] []))
  refine own_st (fun _ k => XS.iloadN X101.here hx rfl (hb hby d15_6) rfl k) ?_
  show own_Go p e below s _ _ _ (T101.setTop (mkF m 7 #[.val (.ref a1), .val (.int cq), .val (.int (own_PA.getD cq.toNatClampNeg 0))] [(.int (own_PA.getD cq.toNatClampNeg 0))]))
  refine own_st (fun _ k => XS.sipush X101.here hx rfl (hb hby d15_7) k) ?_
  show own_Go p e below s _ _ _ (T101.setTop (mkF m 10 #[.val (.ref a1), .val (.int cq), .val (.int (own_PA.getD cq.toNatClampNeg 0))] [(.int (28672 : Int32)), (.int (own_PA.getD cq.toNatClampNeg 0))]))
  refine own_st (fun _ k => XS.iand X101.here hx rfl (hb hby d15_10) rfl k) ?_
  show own_Go p e below s _ _ _ (T101.setTop (mkF m 11 #[.val (.ref a1), .val (.int cq), .val (.int (own_PA.getD cq.toNatClampNeg 0))] [(.int ((own_PA.getD cq.toNatClampNeg 0) &&& (28672 : Int32)))]))
  refine own_st (fun _ k => XS.sipush X101.here hx rfl (hb hby d15_11) k) ?_
  show own_Go p e below s _ _ _ (T101.setTop (mkF m 14 #[.val (.ref a1), .val (.int cq), .val (.int (own_PA.getD cq.toNatClampNeg 0))] [(.int (16384 : Int32)), (.int ((own_PA.getD cq.toNatClampNeg 0) &&& (28672 : Int32)))]))
  by_cases c102 : ((own_PA.getD cq.toNatClampNeg 0) &&& (28672 : Int32)) = (16384 : Int32)
  · refine own_st (fun _ k => XS.icmpNo X101.here hx rfl (hb hby d15_14) rfl (teq c102).2 k) ?_
    show own_Go p e below s _ _ _ (T101.setTop (mkF m 17 #[.val (.ref a1), .val (.int cq), .val (.int (own_PA.getD cq.toNatClampNeg 0))] []))
    refine own_st (fun _ k => XS.iconst X101.here hx rfl (hb hby d15_17) k) ?_
    show own_Go p e below s _ _ _ (T101.setTop (mkF m 18 #[.val (.ref a1), .val (.int cq), .val (.int (own_PA.getD cq.toNatClampNeg 0))] [(.int (1 : Int32))]))
    refine own_st (fun _ k => XS.goto X101.here hx rfl (pc0 := 18) (pc' := 22) rfl (hb hby d15_18) (by decide) (by decide) k) ?_
    show own_Go p e below s _ _ _ (T101.setTop (mkF m 22 #[.val (.ref a1), .val (.int cq), .val (.int (own_PA.getD cq.toNatClampNeg 0))] [(.int (1 : Int32))]))
    exact own_ret X101 hx hlk e101 hret (by decide) (Or.inl ⟨rfl, Or.inr (Or.inl rfl), _, rfl⟩) (hb hby d15_22) (by decide) (by decide) ⟨by rw [if_pos ((own_wsP hc).mp c102)], N101, rfl⟩
  · refine own_st (fun _ k => XS.icmpYes X101.here hx rfl (pc0 := 14) (pc' := 21) rfl (hb hby d15_14) rfl (feq c102).2 (by decide) (by decide) k) ?_
    show own_Go p e below s _ _ _ (T101.setTop (mkF m 21 #[.val (.ref a1), .val (.int cq), .val (.int (own_PA.getD cq.toNatClampNeg 0))] []))
    refine own_st (fun _ k => XS.iconst X101.here hx rfl (hb hby d15_21) k) ?_
    show own_Go p e below s _ _ _ (T101.setTop (mkF m 22 #[.val (.ref a1), .val (.int cq), .val (.int (own_PA.getD cq.toNatClampNeg 0))] [(.int (0 : Int32))]))
    exact own_ret X101 hx hlk e101 hret (by decide) (Or.inl ⟨rfl, Or.inr (Or.inl rfl), _, rfl⟩) (hb hby d15_22) (by decide) (by decide) ⟨by rw [if_neg (fun q => c102 ((own_wsP hc).mpr q))], N101, rfl⟩
theorem d14_0 : decode jdk_43_method_44_code 0 = .ok (.aload_n 0, 1) := by decide +kernel
theorem d14_1 : decode jdk_43_method_44_code 1 = .ok (.iload_n 1, 1) := by decide +kernel
theorem d14_2 : decode jdk_43_method_44_code 2 = .ok (.baload, 1) := by decide +kernel
theorem d14_3 : decode jdk_43_method_44_code 3 = .ok (.sipush 255, 3) := by decide +kernel
theorem d14_6 : decode jdk_43_method_44_code 6 = .ok (.iand, 1) := by decide +kernel
theorem d14_7 : decode jdk_43_method_44_code 7 = .ok (.i2c, 1) := by decide +kernel
theorem d14_8 : decode jdk_43_method_44_code 8 = .ok (.ireturn, 1) := by decide +kernel
theorem pn_java_lang_StringLatin1 : plainName "java/lang/StringLatin1" = true := by first | (simp [plainName, overriddenIn]; done) | decide +kernel
theorem ef_gcW (m : MethodId) (x0 : Addr) (x1 : Int32) : entryFrame m #[(.ref x0), (.int x1)] 2 = mkF m 0 #[.val (.ref x0), .val (.int x1)] [] := by (first | (simp [entryFrame, mkF, argsToLocals, Value.category]; done) | rfl)
abbrev gcWR : Room := { frames := 0, cells := 0, slots := 0, locals := 0 }
set_option maxRecDepth 65536 in
set_option maxHeartbeats 40000000 in
theorem gcW (l : Launch) (Z : State) (a0 : Array Value) (hw : ∀ d ∈ tables_1, d.before a0 Z = true) (a1 : Nat) (k1 : ClassId) (cs : List Int32) (i : Nat) (h0 : Heap) (n0 : Nat) (O0 : Old Z n0 h0) (hk : cs.length ≤ 4) (hbd : ∀ c ∈ cs, ¬ c < 0 ∧ ¬ (255 : Int32) < c) (V1 : Arv Z h0 a1 k1 .byte (Int32.ofNat cs.length) (cs.map fun c => Value.int (StrChars.lo8 c)) (.int 0)) (hi : i < cs.length) :
    own_C l Z (⟨"java/lang/StringLatin1", "getChar", "([BI)C"⟩ : MethodName) jdk_43_method_44_code 2 (some .char) [] gcWR #[(.ref a1), (.int (Int32.ofNat i))] h0 (fun v h L => v = some (.int (cs.getD i 0)) ∧ Fr n0 L ∧ h = h0) := by
  refine own_body (plainFor_of_name pn_java_lang_StringLatin1) ?_
  intro p e s m below meth c T0 X0 hx hby hml hZ hown hnm hret hlk e0
  have N0 := Fr.nil n0
  have zO := own_old O0
  refine own_st (fun _ k => castTop (ef_gcW m a1 (Int32.ofNat i)) k) ?_
  show own_Go p e below s _ _ _ (T0.setTop (mkF m 0 #[.val (.ref a1), .val (.int (Int32.ofNat i))] []))
  refine own_st (fun _ k => XS.aloadN X0.here hx rfl (hb hby d14_0) rfl rfl k) ?_
  show own_Go p e below s _ _ _ (T0.setTop (mkF m 1 #[.val (.ref a1), .val (.int (Int32.ofNat i))] [(.ref a1)]))
  refine own_st (fun _ k => XS.iloadN X0.here hx rfl (hb hby d14_1) rfl k) ?_
  show own_Go p e below s _ _ _ (T0.setTop (mkF m 2 #[.val (.ref a1), .val (.int (Int32.ofNat i))] [(.int (Int32.ofNat i)), (.ref a1)]))
  obtain ⟨c101, Ar101, q101, S101, M101, H101, U101⟩ := id V1
  have hi101 := inb_of (j := (Int32.ofNat i)) S101 ⟨own_nn (by omega), (own_nlt (by omega) (by omega)).mpr hi⟩
  refine own_st (X0.baloadBytes hx (j := (Int32.ofNat i)) (v := (.int (StrChars.lo8 (cs.getD i 0)))) (by rw [e0]; exact Ar101.1) (State.isArrayOf_alike hZ.alike Ar101.2.1) Ar101.2.2 hi101 (H101.at hi101 (by rw [own_tcn (by omega)]; exact own_gl cs hi)) (g := (mkF m 2 #[.val (.ref a1), .val (.int (Int32.ofNat i))] [(.int (Int32.ofNat i)), (.ref a1)])) rfl rfl (hb hby d14_2)) ?_
  show own_Go p e below s _ _ _ (T0.setTop (mkF m 3 #[.val (.ref a1), .val (.int (Int32.ofNat i))] [(.int (StrChars.lo8 (cs.getD i 0)))]))
  refine own_st (fun _ k => XS.sipush X0.here hx rfl (hb hby d14_3) k) ?_
  show own_Go p e below s _ _ _ (T0.setTop (mkF m 6 #[.val (.ref a1), .val (.int (Int32.ofNat i))] [(.int (255 : Int32)), (.int (StrChars.lo8 (cs.getD i 0)))]))
  refine own_st (fun _ k => XS.iand X0.here hx rfl (hb hby d14_6) rfl k) ?_
  show own_Go p e below s _ _ _ (T0.setTop (mkF m 7 #[.val (.ref a1), .val (.int (Int32.ofNat i))] [(.int ((StrChars.lo8 (cs.getD i 0)) &&& (255 : Int32)))]))
  refine own_st (fun _ k => XS.i2c X0.here hx rfl (hb hby d14_7) rfl k) ?_
  show own_Go p e below s _ _ _ (T0.setTop (mkF m 8 #[.val (.ref a1), .val (.int (Int32.ofNat i))] [(.int (((StrChars.lo8 (cs.getD i 0)) &&& (255 : Int32)).toUInt32.toUInt16.toUInt32.toInt32))]))
  rw [own_lo (own_gin hbd hi)]
  show own_Go p e below s _ _ _ (T0.setTop (mkF m 8 #[.val (.ref a1), .val (.int (Int32.ofNat i))] [(.int (cs.getD i 0))]))
  exact own_ret X0 hx hlk e0 hret (own_rc (own_gin hbd hi)) (Or.inl ⟨rfl, Or.inr (Or.inr (Or.inr (Or.inl rfl))), _, rfl⟩) (hb hby d14_8) (by decide) (by decide) ⟨rfl, N0, rfl⟩
theorem d13_0 : decode jdk_43_method_37_code 0 = .ok (.aload_n 0, 1) := by decide +kernel
theorem d13_1 : decode jdk_43_method_37_code 1 = .ok (.arraylength, 1) := by decide +kernel
theorem d13_2 : decode jdk_43_method_37_code 2 = .ok (.istore_n 1, 1) := by decide +kernel
theorem d13_3 : decode jdk_43_method_37_code 3 = .ok (.iconst 0, 1) := by decide +kernel
theorem d13_4 : decode jdk_43_method_37_code 4 = .ok (.istore_n 2, 1) := by decide +kernel
theorem d13_5 : decode jdk_43_method_37_code 5 = .ok (.iload_n 2, 1) := by decide +kernel
theorem d13_6 : decode jdk_43_method_37_code 6 = .ok (.iload_n 1, 1) := by decide +kernel
theorem d13_7 : decode jdk_43_method_37_code 7 = .ok (.if_icmp .ge 40, 3) := by decide +kernel
theorem d13_10 : decode jdk_43_method_37_code 10 = .ok (.aload_n 0, 1) := by decide +kernel
theorem d13_11 : decode jdk_43_method_37_code 11 = .ok (.iload_n 2, 1) := by decide +kernel
theorem pd__28_5bBI_29C : parseMethodDescriptor "([BI)C" = some ⟨[(.array .byte), .int], some .char⟩ := by decide +kernel
theorem d13_12 : decode jdk_43_method_37_code 12 = .ok (.invokestatic 50, 3) := by decide +kernel
theorem d13_15 : decode jdk_43_method_37_code 15 = .ok (.istore_n 3, 1) := by decide +kernel
theorem d13_16 : decode jdk_43_method_37_code 16 = .ok (.iload_n 3, 1) := by decide +kernel
theorem d13_17 : decode jdk_43_method_37_code 17 = .ok (.bipush 32, 2) := by decide +kernel
theorem d13_19 : decode jdk_43_method_37_code 19 = .ok (.if_icmp .eq 22, 3) := by decide +kernel
theorem d13_41 : decode jdk_43_method_37_code 41 = .ok (.iinc 2 1, 3) := by decide +kernel
theorem d13_44 : decode jdk_43_method_37_code 44 = .ok (.goto (-39), 3) := by decide +kernel
theorem d13_22 : decode jdk_43_method_37_code 22 = .ok (.iload_n 3, 1) := by decide +kernel
theorem d13_23 : decode jdk_43_method_37_code 23 = .ok (.bipush 9, 2) := by decide +kernel
theorem d13_25 : decode jdk_43_method_37_code 25 = .ok (.if_icmp .eq 16, 3) := by decide +kernel
theorem d13_28 : decode jdk_43_method_37_code 28 = .ok (.getstatic 66, 3) := by decide +kernel
theorem d13_31 : decode jdk_43_method_37_code 31 = .ok (.iload_n 3, 1) := by decide +kernel
theorem pd__28I_29Z : parseMethodDescriptor "(I)Z" = some ⟨[.int], some .boolean⟩ := by decide +kernel
theorem d13_32 : decode jdk_43_method_37_code 32 = .ok (.invokevirtual 211, 3) := by decide +kernel
theorem d13_35 : decode jdk_43_method_37_code 35 = .ok (.ifCond .ne 6, 3) := by decide +kernel
theorem d13_38 : decode jdk_43_method_37_code 38 = .ok (.goto 9, 3) := by decide +kernel
theorem d13_47 : decode jdk_43_method_37_code 47 = .ok (.iload_n 2, 1) := by decide +kernel
theorem d13_48 : decode jdk_43_method_37_code 48 = .ok (.ireturn, 1) := by decide +kernel
theorem ef_ixW (m : MethodId) (x0 : Addr) : entryFrame m #[(.ref x0)] 4 = mkF m 0 #[.val (.ref x0), .unset, .unset, .unset] [] := by (first | (simp [entryFrame, mkF, argsToLocals, Value.category]; done) | rfl)
abbrev ixWR : Room := { frames := 2, cells := 0, slots := 0, locals := 29 }
set_option maxRecDepth 65536 in
set_option maxHeartbeats 40000000 in
theorem ixW (l : Launch) (Z : State) (a0 : Array Value) (hw : ∀ d ∈ tables_1, d.before a0 Z = true) (a1 : Nat) (k1 : ClassId) (cs : List Int32) (f : Nat) (h0 : Heap) (n0 : Nat) (O0 : Old Z n0 h0) (CDs : own_CD Z) (hk : cs.length ≤ 4) (hbd : ∀ c ∈ cs, ¬ c < 0 ∧ ¬ (255 : Int32) < c) (V1 : Arv Z h0 a1 k1 .byte (Int32.ofNat cs.length) (cs.map fun c => Value.int (StrChars.lo8 c)) (.int 0)) (hf : f < cs.length) (hf1 : ∀ j, j < f → own_ws (cs.getD j 0)) (hf2 : ¬ own_ws (cs.getD f 0)) :
    own_C l Z (⟨"java/lang/StringLatin1", "indexOfNonWhitespace", "([B)I"⟩ : MethodName) jdk_43_method_37_code 4 (some .int) [] ixWR #[(.ref a1)] h0 (fun v h L => v = some (.int (Int32.ofNat f)) ∧ Fr n0 L ∧ h = h0) := by
  refine own_body (plainFor_of_name pn_java_lang_StringLatin1) ?_
  intro p e s m below meth c T0 X0 hx hby hml hZ hown hnm hret hlk e0
  have N0 := Fr.nil n0
  have zO := own_old O0
  obtain ⟨ai, aA, kA, Si, Ei, SA, VA⟩ := id CDs
  have KZ : Keep Z.heap h0 [] := (Keep.refl _ _).ext O0.2
  refine own_st (fun _ k => castTop (ef_ixW m a1) k) ?_
  show own_Go p e below s _ _ _ (T0.setTop (mkF m 0 #[.val (.ref a1), .unset, .unset, .unset] []))
  refine own_st (fun _ k => XS.aloadN X0.here hx rfl (hb hby d13_0) rfl rfl k) ?_
  show own_Go p e below s _ _ _ (T0.setTop (mkF m 1 #[.val (.ref a1), .unset, .unset, .unset] [(.ref a1)]))
  obtain ⟨c101, Ar101, q101, S101, M101, H101, U101⟩ := id V1
  refine own_st (X0.arraylength hx (by rw [e0]; exact Ar101.1) (State.isArrayOf_alike hZ.alike Ar101.2.1) (g := (mkF m 1 #[.val (.ref a1), .unset, .unset, .unset] [(.ref a1)])) rfl rfl (hb hby d13_1)) ?_
  rw [len_of S101 M101]
  show own_Go p e below s _ _ _ (T0.setTop (mkF m 2 #[.val (.ref a1), .unset, .unset, .unset] [(.int (Int32.ofNat cs.length))]))
  refine own_st (fun _ k => XS.istoreN X0.here hx rfl (hb hby d13_2) rfl (l' := #[.val (.ref a1), .val (.int (Int32.ofNat cs.length)), .unset, .unset]) rfl k) ?_
  show own_Go p e below s _ _ _ (T0.setTop (mkF m 3 #[.val (.ref a1), .val (.int (Int32.ofNat cs.length)), .unset, .unset] []))
  refine own_st (fun _ k => XS.iconst X0.here hx rfl (hb hby d13_3) k) ?_
  show own_Go p e below s _ _ _ (T0.setTop (mkF m 4 #[.val (.ref a1), .val (.int (Int32.ofNat cs.length)), .unset, .unset] [(.int (0 : Int32))]))
  refine own_st (fun _ k => XS.istoreN X0.here hx rfl (hb hby d13_4) rfl (l' := #[.val (.ref a1), .val (.int (Int32.ofNat cs.length)), .val (.int (0 : Int32)), .unset]) rfl k) ?_
  show own_Go p e below s _ _ _ (T0.setTop (mkF m 5 #[.val (.ref a1), .val (.int (Int32.ofNat cs.length)), .val (.int (0 : Int32)), .unset] []))
  have G102 : ∀ (r : Nat) (Tj : State) (Lj : List Loc)  (i : Nat) (sl3 : Slot), (f - i = r) → (i ≤ f) → (sl3 = .unset ∨ ∃ w, sl3 = .val w ∧ w.category = 1) → Stand p l e ixWR s m #[(.ref a1)] below meth c Tj Lj 0 0 → Tj.heap = h0 → Fr n0 Lj → own_Go p e below s (fun v h L => v = some (.int (Int32.ofNat f)) ∧ Fr n0 L ∧ h = h0) ixWR.cells ixWR.slots (Tj.setTop (mkF m 5 #[.val (.ref a1), .val (.int (Int32.ofNat cs.length)), .val (.int (Int32.ofNat i)), sl3] [])) := by
    intro r
    induction r using Nat.strongRecOn with
    | _ r ih =>
      intro TG102 LG102 i sl3 hm hif hsl3 XG102 eG102 NG102
      refine own_st (fun _ k => XS.iloadN XG102.here hx rfl (hb hby d13_5) rfl k) ?_
      show own_Go p e below s _ _ _ (TG102.setTop (mkF m 6 #[.val (.ref a1), .val (.int (Int32.ofNat cs.length)), .val (.int (Int32.ofNat i)), sl3] [(.int (Int32.ofNat i))]))
      refine own_st (fun _ k => XS.iloadN XG102.here hx rfl (hb hby d13_6) rfl k) ?_
      show own_Go p e below s _ _ _ (TG102.setTop (mkF m 7 #[.val (.ref a1), .val (.int (Int32.ofNat cs.length)), .val (.int (Int32.ofNat i)), sl3] [(.int (Int32.ofNat cs.length)), (.int (Int32.ofNat i))]))
      refine own_st (fun _ k => XS.icmpNo XG102.here hx rfl (hb hby d13_7) rfl (tlt ((own_nlt (by omega) (by omega)).mpr (by omega))).2.1 k) ?_
      show own_Go p e below s _ _ _ (TG102.setTop (mkF m 10 #[.val (.ref a1), .val (.int (Int32.ofNat cs.length)), .val (.int (Int32.ofNat i)), sl3] []))
      refine own_st (fun _ k => XS.aloadN XG102.here hx rfl (hb hby d13_10) rfl rfl k) ?_
      show own_Go p e below s _ _ _ (TG102.setTop (mkF m 11 #[.val (.ref a1), .val (.int (Int32.ofNat cs.length)), .val (.int (Int32.ofNat i)), sl3] [(.ref a1)]))
      refine own_st (fun _ k => XS.iloadN XG102.here hx rfl (hb hby d13_11) rfl k) ?_
      show own_Go p e below s _ _ _ (TG102.setTop (mkF m 12 #[.val (.ref a1), .val (.int (Int32.ofNat cs.length)), .val (.int (Int32.ofNat i)), sl3] [(.int (Int32.ofNat i)), (.ref a1)]))
      obtain ⟨T103, v103, L103, h103, X103, e103, q103, st103⟩ := own_callS XG102 hx hZ (y := (⟨"java/lang/StringLatin1", "getChar", "([BI)C"⟩ : MethodName)) hown (hw _ (List.mem_of_getElem? (i := 61) rfl)) (hw _ (List.mem_of_getElem? (i := 62) rfl)) (hw _ (List.mem_of_getElem? (i := 56) rfl)) (hw _ (List.mem_of_getElem? (i := 63) rfl)) (by decide) (own_bk (W := 0) (gcW l Z a0 hw a1 _ cs i h0 n0 O0 hk hbd V1 (by omega)) hZ (hw _ (List.mem_of_getElem? (i := 63) rfl)) (hw _ (List.mem_of_getElem? (i := 56) rfl)) (by decide) (by decide)) eG102 (by decide) (by decide) (g := (mkF m 12 #[.val (.ref a1), .val (.int (Int32.ofNat cs.length)), .val (.int (Int32.ofNat i)), sl3] [(.int (Int32.ofNat i)), (.ref a1)])) rfl (by rw [hml]; rfl) (argsL := [(.ref a1), (.int (Int32.ofNat i))]) (rest := []) (lenOf pd__28_5bBI_29C rfl) rfl rfl (by show 2 * 0 + _ ≤ _; exact Nat.le_of_eq rfl) (hb hby d13_12)
      obtain ⟨rfl, N103q, hq103⟩ := q103
      replace e103 := e103.trans hq103
      refine own_st st103 ?_
      have N103 := Fr.app NG102 N103q
      show own_Go p e below s _ _ _ (T103.setTop (mkF m 15 #[.val (.ref a1), .val (.int (Int32.ofNat cs.length)), .val (.int (Int32.ofNat i)), sl3] [(.int (cs.getD i 0))]))
      refine own_st (fun _ k => XS.istoreNS X103.here hx rfl (hb hby d13_15) rfl (o := sl3) rfl hsl3 k) ?_
      show own_Go p e below s _ _ _ (T103.setTop (mkF m 16 #[.val (.ref a1), .val (.int (Int32.ofNat cs.length)), .val (.int (Int32.ofNat i)), .val (.int (cs.getD i 0))] []))
      refine own_st (fun _ k => XS.iloadN X103.here hx rfl (hb hby d13_16) rfl k) ?_
      show own_Go p e below s _ _ _ (T103.setTop (mkF m 17 #[.val (.ref a1), .val (.int (Int32.ofNat cs.length)), .val (.int (Int32.ofNat i)), .val (.int (cs.getD i 0))] [(.int (cs.getD i 0))]))
      refine own_st (fun _ k => XS.bipush X103.here hx rfl (hb hby d13_17) k) ?_
      show own_Go p e below s _ _ _ (T103.setTop (mkF m 19 #[.val (.ref a1), .val (.int (Int32.ofNat cs.length)), .val (.int (Int32.ofNat i)), .val (.int (cs.getD i 0))] [(.int (32 : Int32)), (.int (cs.getD i 0))]))
      by_cases c104 : (cs.getD i 0) = (32 : Int32)
      · refine own_st (fun _ k => XS.icmpYes X103.here hx rfl (pc0 := 19) (pc' := 41) rfl (hb hby d13_19) rfl (teq c104).1 (by decide) (by decide) k) ?_
        show own_Go p e below s _ _ _ (T103.setTop (mkF m 41 #[.val (.ref a1), .val (.int (Int32.ofNat cs.length)), .val (.int (Int32.ofNat i)), .val (.int (cs.getD i 0))] []))
        refine own_st (fun _ k => XS.iinc X103.here hx rfl (hb hby d13_41) rfl (l' := #[.val (.ref a1), .val (.int (Int32.ofNat cs.length)), .val (.int ((Int32.ofNat i) + (1 : Int32))), .val (.int (cs.getD i 0))]) rfl k) ?_
        show own_Go p e below s _ _ _ (T103.setTop (mkF m 44 #[.val (.ref a1), .val (.int (Int32.ofNat cs.length)), .val (.int ((Int32.ofNat i) + (1 : Int32))), .val (.int (cs.getD i 0))] []))
        refine own_st (fun _ k => XS.goto X103.here hx rfl (pc0 := 44) (pc' := 5) rfl (hb hby d13_44) (by decide) (by decide) k) ?_
        show own_Go p e below s _ _ _ (T103.setTop (mkF m 5 #[.val (.ref a1), .val (.int (Int32.ofNat cs.length)), .val (.int ((Int32.ofNat i) + (1 : Int32))), .val (.int (cs.getD i 0))] []))
        have hlt : i < f := by
          have q : ¬ i = f := fun q => hf2 (q ▸ (show own_ws (cs.getD i 0) from (by rw [c104]; decide)))
          omega
        rw [show Int32.ofNat i + (1 : Int32) = Int32.ofNat (i + 1) from own_nadd (b := 1) (by omega)]
        show own_Go p e below s _ _ _ (T103.setTop (mkF m 5 #[.val (.ref a1), .val (.int (Int32.ofNat cs.length)), .val (.int (Int32.ofNat (i + 1))), .val (.int (cs.getD i 0))] []))
        exact ih _ (by omega) _ _ (i + 1) _ rfl hlt (Or.inr ⟨_, rfl, rfl⟩) X103 e103 N103
      · refine own_st (fun _ k => XS.icmpNo X103.here hx rfl (hb hby d13_19) rfl (feq c104).1 k) ?_
        show own_Go p e below s _ _ _ (T103.setTop (mkF m 22 #[.val (.ref a1), .val (.int (Int32.ofNat cs.length)), .val (.int (Int32.ofNat i)), .val (.int (cs.getD i 0))] []))
        refine own_st (fun _ k => XS.iloadN X103.here hx rfl (hb hby d13_22) rfl k) ?_
        show own_Go p e below s _ _ _ (T103.setTop (mkF m 23 #[.val (.ref a1), .val (.int (Int32.ofNat cs.length)), .val (.int (Int32.ofNat i)), .val (.int (cs.getD i 0))] [(.int (cs.getD i 0))]))
        refine own_st (fun _ k => XS.bipush X103.here hx rfl (hb hby d13_23) k) ?_
        show own_Go p e below s _ _ _ (T103.setTop (mkF m 25 #[.val (.ref a1), .val (.int (Int32.ofNat cs.length)), .val (.int (Int32.ofNat i)), .val (.int (cs.getD i 0))] [(.int (9 : Int32)), (.int (cs.getD i 0))]))
        by_cases c105 : (cs.getD i 0) = (9 : Int32)
        · refine own_st (fun _ k => XS.icmpYes X103.here hx rfl (pc0 := 25) (pc' := 41) rfl (hb hby d13_25) rfl (teq c105).1 (by decide) (by decide) k) ?_
          show own_Go p e below s _ _ _ (T103.setTop (mkF m 41 #[.val (.ref a1), .val (.int (Int32.ofNat cs.length)), .val (.int (Int32.ofNat i)), .val (.int (cs.getD i 0))] []))
          refine own_st (fun _ k => XS.iinc X103.here hx rfl (hb hby d13_41) rfl (l' := #[.val (.ref a1), .val (.int (Int32.ofNat cs.length)), .val (.int ((Int32.ofNat i) + (1 : Int32))), .val (.int (cs.getD i 0))]) rfl k) ?_
          show own_Go p e below s _ _ _ (T103.setTop (mkF m 44 #[.val (.ref a1), .val (.int (Int32.ofNat cs.length)), .val (.int ((Int32.ofNat i) + (1 : Int32))), .val (.int (cs.getD i 0))] []))
          refine own_st (fun _ k => XS.goto X103.here hx rfl (pc0 := 44) (pc' := 5) rfl (hb hby d13_44) (by decide) (by decide) k) ?_
          show own_Go p e below s _ _ _ (T103.setTop (mkF m 5 #[.val (.ref a1), .val (.int (Int32.ofNat cs.length)), .val (.int ((Int32.ofNat i) + (1 : Int32))), .val (.int (cs.getD i 0))] []))
          have hlt : i < f := by
            have q : ¬ i = f := fun q => hf2 (q ▸ (show own_ws (cs.getD i 0) from (by rw [c105]; decide)))
            omega
          rw [show Int32.ofNat i + (1 : Int32) = Int32.ofNat (i + 1) from own_nadd (b := 1) (by omega)]
          show own_Go p e below s _ _ _ (T103.setTop (mkF m 5 #[.val (.ref a1), .val (.int (Int32.ofNat cs.length)), .val (.int (Int32.ofNat (i + 1))), .val (.int (cs.getD i 0))] []))
          exact ih _ (by omega) _ _ (i + 1) _ rfl hlt (Or.inr ⟨_, rfl, rfl⟩) X103 e103 N103
        · refine own_st (fun _ k => XS.icmpNo X103.here hx rfl (hb hby d13_25) rfl (feq c105).1 k) ?_
          show own_Go p e below s _ _ _ (T103.setTop (mkF m 28 #[.val (.ref a1), .val (.int (Int32.ofNat cs.length)), .val (.int (Int32.ofNat i)), .val (.int (cs.getD i 0))] []))
          obtain ⟨T106, X106, e106, st106⟩ := getS2 X103 hx hZ hown (host := "") (Or.inl (hw _ (List.mem_of_getElem? (i := 64) rfl))) Via.refl e103 (Si.ext O0.2) (g := (mkF m 28 #[.val (.ref a1), .val (.int (Int32.ofNat cs.length)), .val (.int (Int32.ofNat i)), .val (.int (cs.getD i 0))] [])) rfl (hb hby d13_28)
          refine own_st st106 ?_
          show own_Go p e below s _ _ _ (T106.setTop (mkF m 31 #[.val (.ref a1), .val (.int (Int32.ofNat cs.length)), .val (.int (Int32.ofNat i)), .val (.int (cs.getD i 0))] [(.ref ai)]))
          refine own_st (fun _ k => XS.iloadN X106.here hx rfl (hb hby d13_31) rfl k) ?_
          show own_Go p e below s _ _ _ (T106.setTop (mkF m 32 #[.val (.ref a1), .val (.int (Int32.ofNat cs.length)), .val (.int (Int32.ofNat i)), .val (.int (cs.getD i 0))] [(.int (cs.getD i 0)), (.ref ai)]))
          obtain ⟨T107, v107, L107, h107, X107, e107, q107, st107⟩ := own_callV X106 hx hZ (y := (⟨"java/lang/CharacterDataLatin1", "isWhitespace", "(I)Z"⟩ : MethodName)) (z := (⟨"java/lang/CharacterDataLatin1", "isWhitespace", "(I)Z"⟩ : MethodName)) hown (hw _ (List.mem_of_getElem? (i := 66) rfl)) (hw _ (List.mem_of_getElem? (i := 67) rfl)) (notFace_of_selects (args := #[]) (mvT hZ (hw _ (List.mem_of_getElem? (i := 69) rfl)))) (hw _ (List.mem_of_getElem? (i := 69) rfl)) (hw _ (List.mem_of_getElem? (i := 68) rfl)) (by decide) (own_bk (W := 0) (iwW l Z a0 hw ai (cs.getD i 0) h0 n0 O0 CDs (own_gin hbd (by omega)) (Ei.keep KZ)) hZ (hw _ (List.mem_of_getElem? (i := 70) rfl)) (hw _ (List.mem_of_getElem? (i := 65) rfl)) (by decide) (by decide)) e106 (Ei.keep KZ) (by decide) (by decide) (g := (mkF m 32 #[.val (.ref a1), .val (.int (Int32.ofNat cs.length)), .val (.int (Int32.ofNat i)), .val (.int (cs.getD i 0))] [(.int (cs.getD i 0)), (.ref ai)])) rfl (by rw [hml]; rfl) (argsL := [(.int (cs.getD i 0))]) (rest := []) (lenOf pd__28I_29Z rfl) rfl rfl (by show 2 * 0 + _ ≤ _; exact Nat.le_of_eq rfl) (hb hby d13_32)
          obtain ⟨rfl, N107q, hq107⟩ := q107
          replace e107 := e107.trans hq107
          refine own_st st107 ?_
          have N107 := Fr.app N103 N107q
          show own_Go p e below s _ _ _ (T107.setTop (mkF m 35 #[.val (.ref a1), .val (.int (Int32.ofNat cs.length)), .val (.int (Int32.ofNat i)), .val (.int (cs.getD i 0))] [(.int (if own_ws (cs.getD i 0) then (1 : Int32) else 0))]))
          by_cases c108 : (if own_ws (cs.getD i 0) then (1 : Int32) else 0) = (0 : Int32)
          · refine own_st (fun _ k => XS.ifNo X107.here hx rfl (hb hby d13_35) rfl ((if0 _ _).trans (teq c108).2) k) ?_
            show own_Go p e below s _ _ _ (T107.setTop (mkF m 38 #[.val (.ref a1), .val (.int (Int32.ofNat cs.length)), .val (.int (Int32.ofNat i)), .val (.int (cs.getD i 0))] []))
            refine own_st (fun _ k => XS.goto X107.here hx rfl (pc0 := 38) (pc' := 47) rfl (hb hby d13_38) (by decide) (by decide) k) ?_
            show own_Go p e below s _ _ _ (T107.setTop (mkF m 47 #[.val (.ref a1), .val (.int (Int32.ofNat cs.length)), .val (.int (Int32.ofNat i)), .val (.int (cs.getD i 0))] []))
            refine own_st (fun _ k => XS.iloadN X107.here hx rfl (hb hby d13_47) rfl k) ?_
            show own_Go p e below s _ _ _ (T107.setTop (mkF m 48 #[.val (.ref a1), .val (.int (Int32.ofNat cs.length)), .val (.int (Int32.ofNat i)), .val (.int (cs.getD i 0))] [(.int (Int32.ofNat i))]))
            have hfi : f = i := by
              have q : ¬ i < f := fun q => (own_ifF c108) (hf1 i q)
              omega
            exact own_ret X107 hx hlk e107 hret rfl (Or.inl ⟨rfl, Or.inl rfl, _, rfl⟩) (hb hby d13_48) (by decide) (by decide) ⟨by rw [hfi], N107, rfl⟩
          · refine own_st (fun _ k => XS.ifYes X107.here hx rfl (pc0 := 35) (pc' := 41) rfl (hb hby d13_35) rfl ((if0 _ _).trans (feq c108).2) (by decide) (by decide) k) ?_
            show own_Go p e below s _ _ _ (T107.setTop (mkF m 41 #[.val (.ref a1), .val (.int (Int32.ofNat cs.length)), .val (.int (Int32.ofNat i)), .val (.int (cs.getD i 0))] []))
            refine own_st (fun _ k => XS.iinc X107.here hx rfl (hb hby d13_41) rfl (l' := #[.val (.ref a1), .val (.int (Int32.ofNat cs.length)), .val (.int ((Int32.ofNat i) + (1 : Int32))), .val (.int (cs.getD i 0))]) rfl k) ?_
            show own_Go p e below s _ _ _ (T107.setTop (mkF m 44 #[.val (.ref a1), .val (.int (Int32.ofNat cs.length)), .val (.int ((Int32.ofNat i) + (1 : Int32))), .val (.int (cs.getD i 0))] []))
            refine own_st (fun _ k => XS.goto X107.here hx rfl (pc0 := 44) (pc' := 5) rfl (hb hby d13_44) (by decide) (by decide) k) ?_
            show own_Go p e below s _ _ _ (T107.setTop (mkF m 5 #[.val (.ref a1), .val (.int (Int32.ofNat cs.length)), .val (.int ((Int32.ofNat i) + (1 : Int32))), .val (.int (cs.getD i 0))] []))
            have hlt : i < f := by
              have q : ¬ i = f := fun q => hf2 (q ▸ (show own_ws (cs.getD i 0) from (own_ifT c108)))
              omega
            rw [show Int32.ofNat i + (1 : Int32) = Int32.ofNat (i + 1) from own_nadd (b := 1) (by omega)]
            show own_Go p e below s _ _ _ (T107.setTop (mkF m 5 #[.val (.ref a1), .val (.int (Int32.ofNat cs.length)), .val (.int (Int32.ofNat (i + 1))), .val (.int (cs.getD i 0))] []))
            exact ih _ (by omega) _ _ (i + 1) _ rfl hlt (Or.inr ⟨_, rfl, rfl⟩) X107 e107 N107
  exact G102 _ _ _ 0 _ rfl (Nat.zero_le _) (Or.inl rfl) X0 e0 N0
theorem d17_0 : decode jdk_43_method_38_code 0 = .ok (.aload_n 0, 1) := by decide +kernel
theorem d17_1 : decode jdk_43_method_38_code 1 = .ok (.arraylength, 1) := by decide +kernel
theorem d17_2 : decode jdk_43_method_38_code 2 = .ok (.istore_n 1, 1) := by decide +kernel
theorem d17_3 : decode jdk_43_method_38_code 3 = .ok (.iload_n 1, 1) := by decide +kernel
theorem d17_4 : decode jdk_43_method_38_code 4 = .ok (.istore_n 2, 1) := by decide +kernel
theorem d17_5 : decode jdk_43_method_38_code 5 = .ok (.iconst 0, 1) := by decide +kernel
theorem d17_6 : decode jdk_43_method_38_code 6 = .ok (.iload_n 2, 1) := by decide +kernel
theorem d17_7 : decode jdk_43_method_38_code 7 = .ok (.if_icmp .ge 42, 3) := by decide +kernel
theorem d17_10 : decode jdk_43_method_38_code 10 = .ok (.aload_n 0, 1) := by decide +kernel
theorem d17_11 : decode jdk_43_method_38_code 11 = .ok (.iload_n 2, 1) := by decide +kernel
theorem d17_12 : decode jdk_43_method_38_code 12 = .ok (.iconst 1, 1) := by decide +kernel
theorem d17_13 : decode jdk_43_method_38_code 13 = .ok (.isub, 1) := by decide +kernel
theorem d17_14 : decode jdk_43_method_38_code 14 = .ok (.invokestatic 50, 3) := by decide +kernel
theorem d17_17 : decode jdk_43_method_38_code 17 = .ok (.istore_n 3, 1) := by decide +kernel
theorem d17_18 : decode jdk_43_method_38_code 18 = .ok (.iload_n 3, 1) := by decide +kernel
theorem d17_19 : decode jdk_43_method_38_code 19 = .ok (.bipush 32, 2) := by decide +kernel
theorem d17_21 : decode jdk_43_method_38_code 21 = .ok (.if_icmp .eq 22, 3) := by decide +kernel
theorem d17_43 : decode jdk_43_method_38_code 43 = .ok (.iinc 2 (-1), 3) := by decide +kernel
theorem d17_46 : decode jdk_43_method_38_code 46 = .ok (.goto (-41), 3) := by decide +kernel
theorem d17_24 : decode jdk_43_method_38_code 24 = .ok (.iload_n 3, 1) := by decide +kernel
theorem d17_25 : decode jdk_43_method_38_code 25 = .ok (.bipush 9, 2) := by decide +kernel
theorem d17_27 : decode jdk_43_method_38_code 27 = .ok (.if_icmp .eq 16, 3) := by decide +kernel
theorem d17_30 : decode jdk_43_method_38_code 30 = .ok (.getstatic 66, 3) := by decide +kernel
theorem d17_33 : decode jdk_43_method_38_code 33 = .ok (.iload_n 3, 1) := by decide +kernel
theorem d17_34 : decode jdk_43_method_38_code 34 = .ok (.invokevirtual 211, 3) := by decide +kernel
theorem d17_37 : decode jdk_43_method_38_code 37 = .ok (.ifCond .ne 6, 3) := by decide +kernel
theorem d17_40 : decode jdk_43_method_38_code 40 = .ok (.goto 9, 3) := by decide +kernel
theorem d17_49 : decode jdk_43_method_38_code 49 = .ok (.iload_n 2, 1) := by decide +kernel
theorem d17_50 : decode jdk_43_method_38_code 50 = .ok (.ireturn, 1) := by decide +kernel
theorem ef_lxW (m : MethodId) (x0 : Addr) : entryFrame m #[(.ref x0)] 4 = mkF m 0 #[.val (.ref x0), .unset, .unset, .unset] [] := by (first | (simp [entryFrame, mkF, argsToLocals, Value.category]; done) | rfl)
abbrev lxWR : Room := { frames := 2, cells := 0, slots := 0, locals := 29 }
set_option maxRecDepth 65536 in
set_option maxHeartbeats 40000000 in
theorem lxW (l : Launch) (Z : State) (a0 : Array Value) (hw : ∀ d ∈ tables_1, d.before a0 Z = true) (a1 : Nat) (k1 : ClassId) (cs : List Int32) (f l1 : Nat) (h0 : Heap) (n0 : Nat) (O0 : Old Z n0 h0) (CDs : own_CD Z) (hk : cs.length ≤ 4) (hbd : ∀ c ∈ cs, ¬ c < 0 ∧ ¬ (255 : Int32) < c) (V1 : Arv Z h0 a1 k1 .byte (Int32.ofNat cs.length) (cs.map fun c => Value.int (StrChars.lo8 c)) (.int 0)) (hl0 : f < l1) (hl : l1 ≤ cs.length) (hl1 : ∀ j, l1 ≤ j → j < cs.length → own_ws (cs.getD j 0)) (hl2 : ¬ own_ws (cs.getD (l1 - 1) 0)) :
    own_C l Z (⟨"java/lang/StringLatin1", "lastIndexOfNonWhitespace", "([B)I"⟩ : MethodName) jdk_43_method_38_code 4 (some .int) [] lxWR #[(.ref a1)] h0 (fun v h L => v = some (.int (Int32.ofNat l1)) ∧ Fr n0 L ∧ h = h0) := by
  refine own_body (plainFor_of_name pn_java_lang_StringLatin1) ?_
  intro p e s m below meth c T0 X0 hx hby hml hZ hown hnm hret hlk e0
  have N0 := Fr.nil n0
  have zO := own_old O0
  obtain ⟨ai, aA, kA, Si, Ei, SA, VA⟩ := id CDs
  have KZ : Keep Z.heap h0 [] := (Keep.refl _ _).ext O0.2
  refine own_st (fun _ k => castTop (ef_lxW m a1) k) ?_
  show own_Go p e below s _ _ _ (T0.setTop (mkF m 0 #[.val (.ref a1), .unset, .unset, .unset] []))
  refine own_st (fun _ k => XS.aloadN X0.here hx rfl (hb hby d17_0) rfl rfl k) ?_
  show own_Go p e below s _ _ _ (T0.setTop (mkF m 1 #[.val (.ref a1), .unset, .unset, .unset] [(.ref a1)]))
  obtain ⟨c101, Ar101, q101, S101, M101, H101, U101⟩ := id V1
  refine own_st (X0.arraylength hx (by rw [e0]; exact Ar101.1) (State.isArrayOf_alike hZ.alike Ar101.2.1) (g := (mkF m 1 #[.val (.ref a1), .unset, .unset, .unset] [(.ref a1)])) rfl rfl (hb hby d17_1)) ?_
  rw [len_of S101 M101]
  show own_Go p e below s _ _ _ (T0.setTop (mkF m 2 #[.val (.ref a1), .unset, .unset, .unset] [(.int (Int32.ofNat cs.length))]))
  refine own_st (fun _ k => XS.istoreN X0.here hx rfl (hb hby d17_2) rfl (l' := #[.val (.ref a1), .val (.int (Int32.ofNat cs.length)), .unset, .unset]) rfl k) ?_
  show own_Go p e below s _ _ _ (T0.setTop (mkF m 3 #[.val (.ref a1), .val (.int (Int32.ofNat cs.length)), .unset, .unset] []))
  refine own_st (fun _ k => XS.iloadN X0.here hx rfl (hb hby d17_3) rfl k) ?_
  show own_Go p e below s _ _ _ (T0.setTop (mkF m 4 #[.val (.ref a1), .val (.int (Int32.ofNat cs.length)), .unset, .unset] [(.int (Int32.ofNat cs.length))]))
  refine own_st (fun _ k => XS.istoreN X0.here hx rfl (hb hby d17_4) rfl (l' := #[.val (.ref a1), .val (.int (Int32.ofNat cs.length)), .val (.int (Int32.ofNat cs.length)), .unset]) rfl k) ?_
  show own_Go p e below s _ _ _ (T0.setTop (mkF m 5 #[.val (.ref a1), .val (.int (Int32.ofNat cs.length)), .val (.int (Int32.ofNat cs.length)), .unset] []))
  have G102 : ∀ (r : Nat) (Tj : State) (Lj : List Loc)  (i : Nat) (sl3 : Slot), (i = r) → (l1 ≤ i) → (i ≤ cs.length) → (sl3 = .unset ∨ ∃ w, sl3 = .val w ∧ w.category = 1) → Stand p l e lxWR s m #[(.ref a1)] below meth c Tj Lj 0 0 → Tj.heap = h0 → Fr n0 Lj → own_Go p e below s (fun v h L => v = some (.int (Int32.ofNat l1)) ∧ Fr n0 L ∧ h = h0) lxWR.cells lxWR.slots (Tj.setTop (mkF m 5 #[.val (.ref a1), .val (.int (Int32.ofNat cs.length)), .val (.int (Int32.ofNat i)), sl3] [])) := by
    intro r
    induction r using Nat.strongRecOn with
    | _ r ih =>
      intro TG102 LG102 i sl3 hm hil hin hsl3 XG102 eG102 NG102
      refine own_st (fun _ k => XS.iconst XG102.here hx rfl (hb hby d17_5) k) ?_
      show own_Go p e below s _ _ _ (TG102.setTop (mkF m 6 #[.val (.ref a1), .val (.int (Int32.ofNat cs.length)), .val (.int (Int32.ofNat i)), sl3] [(.int (0 : Int32))]))
      refine own_st (fun _ k => XS.iloadN XG102.here hx rfl (hb hby d17_6) rfl k) ?_
      show own_Go p e below s _ _ _ (TG102.setTop (mkF m 7 #[.val (.ref a1), .val (.int (Int32.ofNat cs.length)), .val (.int (Int32.ofNat i)), sl3] [(.int (Int32.ofNat i)), (.int (0 : Int32))]))
      refine own_st (fun _ k => XS.icmpNo XG102.here hx rfl (hb hby d17_7) rfl (tlt ((own_nlt (a := 0) (by omega) (by omega)).mpr (by omega))).2.1 k) ?_
      show own_Go p e below s _ _ _ (TG102.setTop (mkF m 10 #[.val (.ref a1), .val (.int (Int32.ofNat cs.length)), .val (.int (Int32.ofNat i)), sl3] []))
      refine own_st (fun _ k => XS.aloadN XG102.here hx rfl (hb hby d17_10) rfl rfl k) ?_
      show own_Go p e below s _ _ _ (TG102.setTop (mkF m 11 #[.val (.ref a1), .val (.int (Int32.ofNat cs.length)), .val (.int (Int32.ofNat i)), sl3] [(.ref a1)]))
      refine own_st (fun _ k => XS.iloadN XG102.here hx rfl (hb hby d17_11) rfl k) ?_
      show own_Go p e below s _ _ _ (TG102.setTop (mkF m 12 #[.val (.ref a1), .val (.int (Int32.ofNat cs.length)), .val (.int (Int32.ofNat i)), sl3] [(.int (Int32.ofNat i)), (.ref a1)]))
      refine own_st (fun _ k => XS.iconst XG102.here hx rfl (hb hby d17_12) k) ?_
      show own_Go p e below s _ _ _ (TG102.setTop (mkF m 13 #[.val (.ref a1), .val (.int (Int32.ofNat cs.length)), .val (.int (Int32.ofNat i)), sl3] [(.int (1 : Int32)), (.int (Int32.ofNat i)), (.ref a1)]))
      refine own_st (fun _ k => XS.isub XG102.here hx rfl (hb hby d17_13) rfl k) ?_
      show own_Go p e below s _ _ _ (TG102.setTop (mkF m 14 #[.val (.ref a1), .val (.int (Int32.ofNat cs.length)), .val (.int (Int32.ofNat i)), sl3] [(.int ((Int32.ofNat i) - (1 : Int32))), (.ref a1)]))
      rw [show Int32.ofNat i - (1 : Int32) = Int32.ofNat (i - 1) from own_nsub (a := 1) (by omega) (by omega)]
      show own_Go p e below s _ _ _ (TG102.setTop (mkF m 14 #[.val (.ref a1), .val (.int (Int32.ofNat cs.length)), .val (.int (Int32.ofNat i)), sl3] [(.int (Int32.ofNat (i - 1))), (.ref a1)]))
      obtain ⟨T103, v103, L103, h103, X103, e103, q103, st103⟩ := own_callS XG102 hx hZ (y := (⟨"java/lang/StringLatin1", "getChar", "([BI)C"⟩ : MethodName)) hown (hw _ (List.mem_of_getElem? (i := 61) rfl)) (hw _ (List.mem_of_getElem? (i := 62) rfl)) (hw _ (List.mem_of_getElem? (i := 56) rfl)) (hw _ (List.mem_of_getElem? (i := 63) rfl)) (by decide) (own_bk (W := 0) (gcW l Z a0 hw a1 _ cs (i - 1) h0 n0 O0 hk hbd V1 (by omega)) hZ (hw _ (List.mem_of_getElem? (i := 63) rfl)) (hw _ (List.mem_of_getElem? (i := 56) rfl)) (by decide) (by decide)) eG102 (by decide) (by decide) (g := (mkF m 14 #[.val (.ref a1), .val (.int (Int32.ofNat cs.length)), .val (.int (Int32.ofNat i)), sl3] [(.int (Int32.ofNat (i - 1))), (.ref a1)])) rfl (by rw [hml]; rfl) (argsL := [(.ref a1), (.int (Int32.ofNat (i - 1)))]) (rest := []) (lenOf pd__28_5bBI_29C rfl) rfl rfl (by show 2 * 0 + _ ≤ _; exact Nat.le_of_eq rfl) (hb hby d17_14)
      obtain ⟨rfl, N103q, hq103⟩ := q103
      replace e103 := e103.trans hq103
      refine own_st st103 ?_
      have N103 := Fr.app NG102 N103q
      show own_Go p e below s _ _ _ (T103.setTop (mkF m 17 #[.val (.ref a1), .val (.int (Int32.ofNat cs.length)), .val (.int (Int32.ofNat i)), sl3] [(.int (cs.getD (i - 1) 0))]))
      refine own_st (fun _ k => XS.istoreNS X103.here hx rfl (hb hby d17_17) rfl (o := sl3) rfl hsl3 k) ?_
      show own_Go p e below s _ _ _ (T103.setTop (mkF m 18 #[.val (.ref a1), .val (.int (Int32.ofNat cs.length)), .val (.int (Int32.ofNat i)), .val (.int (cs.getD (i - 1) 0))] []))
      refine own_st (fun _ k => XS.iloadN X103.here hx rfl (hb hby d17_18) rfl k) ?_
      show own_Go p e below s _ _ _ (T103.setTop (mkF m 19 #[.val (.ref a1), .val (.int (Int32.ofNat cs.length)), .val (.int (Int32.ofNat i)), .val (.int (cs.getD (i - 1) 0))] [(.int (cs.getD (i - 1) 0))]))
      refine own_st (fun _ k => XS.bipush X103.here hx rfl (hb hby d17_19) k) ?_
      show own_Go p e below s _ _ _ (T103.setTop (mkF m 21 #[.val (.ref a1), .val (.int (Int32.ofNat cs.length)), .val (.int (Int32.ofNat i)), .val (.int (cs.getD (i - 1) 0))] [(.int (32 : Int32)), (.int (cs.getD (i - 1) 0))]))
      by_cases c104 : (cs.getD (i - 1) 0) = (32 : Int32)
      · refine own_st (fun _ k => XS.icmpYes X103.here hx rfl (pc0 := 21) (pc' := 43) rfl (hb hby d17_21) rfl (teq c104).1 (by decide) (by decide) k) ?_
        show own_Go p e below s _ _ _ (T103.setTop (mkF m 43 #[.val (.ref a1), .val (.int (Int32.ofNat cs.length)), .val (.int (Int32.ofNat i)), .val (.int (cs.getD (i - 1) 0))] []))
        refine own_st (fun _ k => XS.iinc X103.here hx rfl (hb hby d17_43) rfl (l' := #[.val (.ref a1), .val (.int (Int32.ofNat cs.length)), .val (.int ((Int32.ofNat i) + (-1 : Int32))), .val (.int (cs.getD (i - 1) 0))]) rfl k) ?_
        show own_Go p e below s _ _ _ (T103.setTop (mkF m 46 #[.val (.ref a1), .val (.int (Int32.ofNat cs.length)), .val (.int ((Int32.ofNat i) + (-1 : Int32))), .val (.int (cs.getD (i - 1) 0))] []))
        refine own_st (fun _ k => XS.goto X103.here hx rfl (pc0 := 46) (pc' := 5) rfl (hb hby d17_46) (by decide) (by decide) k) ?_
        show own_Go p e below s _ _ _ (T103.setTop (mkF m 5 #[.val (.ref a1), .val (.int (Int32.ofNat cs.length)), .val (.int ((Int32.ofNat i) + (-1 : Int32))), .val (.int (cs.getD (i - 1) 0))] []))
        have hlt : l1 ≤ i - 1 := by
          have q : ¬ i = l1 := fun q => hl2 (q ▸ (show own_ws (cs.getD (i - 1) 0) from (by rw [c104]; decide)))
          omega
        rw [own_ndec (by omega) (by omega)]
        show own_Go p e below s _ _ _ (T103.setTop (mkF m 5 #[.val (.ref a1), .val (.int (Int32.ofNat cs.length)), .val (.int (Int32.ofNat (i - 1))), .val (.int (cs.getD (i - 1) 0))] []))
        exact ih _ (by omega) _ _ (i - 1) _ rfl hlt (by omega) (Or.inr ⟨_, rfl, rfl⟩) X103 e103 N103
      · refine own_st (fun _ k => XS.icmpNo X103.here hx rfl (hb hby d17_21) rfl (feq c104).1 k) ?_
        show own_Go p e below s _ _ _ (T103.setTop (mkF m 24 #[.val (.ref a1), .val (.int (Int32.ofNat cs.length)), .val (.int (Int32.ofNat i)), .val (.int (cs.getD (i - 1) 0))] []))
        refine own_st (fun _ k => XS.iloadN X103.here hx rfl (hb hby d17_24) rfl k) ?_
        show own_Go p e below s _ _ _ (T103.setTop (mkF m 25 #[.val (.ref a1), .val (.int (Int32.ofNat cs.length)), .val (.int (Int32.ofNat i)), .val (.int (cs.getD (i - 1) 0))] [(.int (cs.getD (i - 1) 0))]))
        refine own_st (fun _ k => XS.bipush X103.here hx rfl (hb hby d17_25) k) ?_
        show own_Go p e below s _ _ _ (T103.setTop (mkF m 27 #[.val (.ref a1), .val (.int (Int32.ofNat cs.length)), .val (.int (Int32.ofNat i)), .val (.int (cs.getD (i - 1) 0))] [(.int (9 : Int32)), (.int (cs.getD (i - 1) 0))]))
        by_cases c105 : (cs.getD (i - 1) 0) = (9 : Int32)
        · refine own_st (fun _ k => XS.icmpYes X103.here hx rfl (pc0 := 27) (pc' := 43) rfl (hb hby d17_27) rfl (teq c105).1 (by decide) (by decide) k) ?_
          show own_Go p e below s _ _ _ (T103.setTop (mkF m 43 #[.val (.ref a1), .val (.int (Int32.ofNat cs.length)), .val (.int (Int32.ofNat i)), .val (.int (cs.getD (i - 1) 0))] []))
          refine own_st (fun _ k => XS.iinc X103.here hx rfl (hb hby d17_43) rfl (l' := #[.val (.ref a1), .val (.int (Int32.ofNat cs.length)), .val (.int ((Int32.ofNat i) + (-1 : Int32))), .val (.int (cs.getD (i - 1) 0))]) rfl k) ?_
          show own_Go p e below s _ _ _ (T103.setTop (mkF m 46 #[.val (.ref a1), .val (.int (Int32.ofNat cs.length)), .val (.int ((Int32.ofNat i) + (-1 : Int32))), .val (.int (cs.getD (i - 1) 0))] []))
          refine own_st (fun _ k => XS.goto X103.here hx rfl (pc0 := 46) (pc' := 5) rfl (hb hby d17_46) (by decide) (by decide) k) ?_
          show own_Go p e below s _ _ _ (T103.setTop (mkF m 5 #[.val (.ref a1), .val (.int (Int32.ofNat cs.length)), .val (.int ((Int32.ofNat i) + (-1 : Int32))), .val (.int (cs.getD (i - 1) 0))] []))
          have hlt : l1 ≤ i - 1 := by
            have q : ¬ i = l1 := fun q => hl2 (q ▸ (show own_ws (cs.getD (i - 1) 0) from (by rw [c105]; decide)))
            omega
          rw [own_ndec (by omega) (by omega)]
          show own_Go p e below s _ _ _ (T103.setTop (mkF m 5 #[.val (.ref a1), .val (.int (Int32.ofNat cs.length)), .val (.int (Int32.ofNat (i - 1))), .val (.int (cs.getD (i - 1) 0))] []))
          exact ih _ (by omega) _ _ (i - 1) _ rfl hlt (by omega) (Or.inr ⟨_, rfl, rfl⟩) X103 e103 N103
        · refine own_st (fun _ k => XS.icmpNo X103.here hx rfl (hb hby d17_27) rfl (feq c105).1 k) ?_
          show own_Go p e below s _ _ _ (T103.setTop (mkF m 30 #[.val (.ref a1), .val (.int (Int32.ofNat cs.length)), .val (.int (Int32.ofNat i)), .val (.int (cs.getD (i - 1) 0))] []))
          obtain ⟨T106, X106, e106, st106⟩ := getS2 X103 hx hZ hown (host := "") (Or.inl (hw _ (List.mem_of_getElem? (i := 64) rfl))) Via.refl e103 (Si.ext O0.2) (g := (mkF m 30 #[.val (.ref a1), .val (.int (Int32.ofNat cs.length)), .val (.int (Int32.ofNat i)), .val (.int (cs.getD (i - 1) 0))] [])) rfl (hb hby d17_30)
          refine own_st st106 ?_
          show own_Go p e below s _ _ _ (T106.setTop (mkF m 33 #[.val (.ref a1), .val (.int (Int32.ofNat cs.length)), .val (.int (Int32.ofNat i)), .val (.int (cs.getD (i - 1) 0))] [(.ref ai)]))
          refine own_st (fun _ k => XS.iloadN X106.here hx rfl (hb hby d17_33) rfl k) ?_
          show own_Go p e below s _ _ _ (T106.setTop (mkF m 34 #[.val (.ref a1), .val (.int (Int32.ofNat cs.length)), .val (.int (Int32.ofNat i)), .val (.int (cs.getD (i - 1) 0))] [(.int (cs.getD (i - 1) 0)), (.ref ai)]))
          obtain ⟨T107, v107, L107, h107, X107, e107, q107, st107⟩ := own_callV X106 hx hZ (y := (⟨"java/lang/CharacterDataLatin1", "isWhitespace", "(I)Z"⟩ : MethodName)) (z := (⟨"java/lang/CharacterDataLatin1", "isWhitespace", "(I)Z"⟩ : MethodName)) hown (hw _ (List.mem_of_getElem? (i := 66) rfl)) (hw _ (List.mem_of_getElem? (i := 67) rfl)) (notFace_of_selects (args := #[]) (mvT hZ (hw _ (List.mem_of_getElem? (i := 69) rfl)))) (hw _ (List.mem_of_getElem? (i := 69) rfl)) (hw _ (List.mem_of_getElem? (i := 68) rfl)) (by decide) (own_bk (W := 0) (iwW l Z a0 hw ai (cs.getD (i - 1) 0) h0 n0 O0 CDs (own_gin hbd (by omega)) (Ei.keep KZ)) hZ (hw _ (List.mem_of_getElem? (i := 70) rfl)) (hw _ (List.mem_of_getElem? (i := 65) rfl)) (by decide) (by decide)) e106 (Ei.keep KZ) (by decide) (by decide) (g := (mkF m 34 #[.val (.ref a1), .val (.int (Int32.ofNat cs.length)), .val (.int (Int32.ofNat i)), .val (.int (cs.getD (i - 1) 0))] [(.int (cs.getD (i - 1) 0)), (.ref ai)])) rfl (by rw [hml]; rfl) (argsL := [(.int (cs.getD (i - 1) 0))]) (rest := []) (lenOf pd__28I_29Z rfl) rfl rfl (by show 2 * 0 + _ ≤ _; exact Nat.le_of_eq rfl) (hb hby d17_34)
          obtain ⟨rfl, N107q, hq107⟩ := q107
          replace e107 := e107.trans hq107
          refine own_st st107 ?_
          have N107 := Fr.app N103 N107q
          show own_Go p e below s _ _ _ (T107.setTop (mkF m 37 #[.val (.ref a1), .val (.int (Int32.ofNat cs.length)), .val (.int (Int32.ofNat i)), .val (.int (cs.getD (i - 1) 0))] [(.int (if own_ws (cs.getD (i - 1) 0) then (1 : Int32) else 0))]))
          by_cases c108 : (if own_ws (cs.getD (i - 1) 0) then (1 : Int32) else 0) = (0 : Int32)
          · refine own_st (fun _ k => XS.ifNo X107.here hx rfl (hb hby d17_37) rfl ((if0 _ _).trans (teq c108).2) k) ?_
            show own_Go p e below s _ _ _ (T107.setTop (mkF m 40 #[.val (.ref a1), .val (.int (Int32.ofNat cs.length)), .val (.int (Int32.ofNat i)), .val (.int (cs.getD (i - 1) 0))] []))
            refine own_st (fun _ k => XS.goto X107.here hx rfl (pc0 := 40) (pc' := 49) rfl (hb hby d17_40) (by decide) (by decide) k) ?_
            show own_Go p e below s _ _ _ (T107.setTop (mkF m 49 #[.val (.ref a1), .val (.int (Int32.ofNat cs.length)), .val (.int (Int32.ofNat i)), .val (.int (cs.getD (i - 1) 0))] []))
            refine own_st (fun _ k => XS.iloadN X107.here hx rfl (hb hby d17_49) rfl k) ?_
            show own_Go p e below s _ _ _ (T107.setTop (mkF m 50 #[.val (.ref a1), .val (.int (Int32.ofNat cs.length)), .val (.int (Int32.ofNat i)), .val (.int (cs.getD (i - 1) 0))] [(.int (Int32.ofNat i))]))
            have hfi : l1 = i := by
              have q : ¬ l1 ≤ i - 1 := fun q => (own_ifF c108) (hl1 (i - 1) q (by omega))
              omega
            exact own_ret X107 hx hlk e107 hret rfl (Or.inl ⟨rfl, Or.inl rfl, _, rfl⟩) (hb hby d17_50) (by decide) (by decide) ⟨by rw [hfi], N107, rfl⟩
          · refine own_st (fun _ k => XS.ifYes X107.here hx rfl (pc0 := 37) (pc' := 43) rfl (hb hby d17_37) rfl ((if0 _ _).trans (feq c108).2) (by decide) (by decide) k) ?_
            show own_Go p e below s _ _ _ (T107.setTop (mkF m 43 #[.val (.ref a1), .val (.int (Int32.ofNat cs.length)), .val (.int (Int32.ofNat i)), .val (.int (cs.getD (i - 1) 0))] []))
            refine own_st (fun _ k => XS.iinc X107.here hx rfl (hb hby d17_43) rfl (l' := #[.val (.ref a1), .val (.int (Int32.ofNat cs.length)), .val (.int ((Int32.ofNat i) + (-1 : Int32))), .val (.int (cs.getD (i - 1) 0))]) rfl k) ?_
            show own_Go p e below s _ _ _ (T107.setTop (mkF m 46 #[.val (.ref a1), .val (.int (Int32.ofNat cs.length)), .val (.int ((Int32.ofNat i) + (-1 : Int32))), .val (.int (cs.getD (i - 1) 0))] []))
            refine own_st (fun _ k => XS.goto X107.here hx rfl (pc0 := 46) (pc' := 5) rfl (hb hby d17_46) (by decide) (by decide) k) ?_
            show own_Go p e below s _ _ _ (T107.setTop (mkF m 5 #[.val (.ref a1), .val (.int (Int32.ofNat cs.length)), .val (.int ((Int32.ofNat i) + (-1 : Int32))), .val (.int (cs.getD (i - 1) 0))] []))
            have hlt : l1 ≤ i - 1 := by
              have q : ¬ i = l1 := fun q => hl2 (q ▸ (show own_ws (cs.getD (i - 1) 0) from (own_ifT c108)))
              omega
            rw [own_ndec (by omega) (by omega)]
            show own_Go p e below s _ _ _ (T107.setTop (mkF m 5 #[.val (.ref a1), .val (.int (Int32.ofNat cs.length)), .val (.int (Int32.ofNat (i - 1))), .val (.int (cs.getD (i - 1) 0))] []))
            exact ih _ (by omega) _ _ (i - 1) _ rfl hlt (by omega) (Or.inr ⟨_, rfl, rfl⟩) X107 e107 N107
  exact G102 _ _ _ cs.length _ rfl hl (Nat.le_refl _) (Or.inl rfl) X0 e0 N0
theorem d30_0 : decode jdk_29_method_69_code 0 = .ok (.iload_n 0, 1) := by decide +kernel
theorem d30_1 : decode jdk_29_method_69_code 1 = .ok (.iload_n 1, 1) := by decide +kernel
theorem d30_2 : decode jdk_29_method_69_code 2 = .ok (.if_icmp .gt 7, 3) := by decide +kernel
theorem d30_9 : decode jdk_29_method_69_code 9 = .ok (.iload_n 1, 1) := by decide +kernel
theorem d30_10 : decode jdk_29_method_69_code 10 = .ok (.ireturn, 1) := by decide +kernel
theorem d30_5 : decode jdk_29_method_69_code 5 = .ok (.iload_n 0, 1) := by decide +kernel
theorem d30_6 : decode jdk_29_method_69_code 6 = .ok (.goto 4, 3) := by decide +kernel
theorem ef_mnW (m : MethodId) (x0 : Int32) (x1 : Int32) : entryFrame m #[(.int x0), (.int x1)] 2 = mkF m 0 #[.val (.int x0), .val (.int x1)] [] := by (first | (simp [entryFrame, mkF, argsToLocals, Value.category]; done) | rfl)
abbrev mnWR : Room := { frames := 0, cells := 0, slots := 0, locals := 0 }
set_option maxRecDepth 65536 in
set_option maxHeartbeats 40000000 in
theorem mnW (l : Launch) (Z : State) (a0 : Array Value) (hw : ∀ d ∈ tables_1, d.before a0 Z = true) (p1 p2 : Int32) (h0 : Heap) (n0 : Nat) (O0 : Old Z n0 h0)  :
    own_C l Z (⟨"java/lang/Math", "min", "(II)I"⟩ : MethodName) jdk_29_method_69_code 2 (some .int) [] mnWR #[(.int p1), (.int p2)] h0 (fun v h L => v = some (.int (if p2 < p1 then p2 else p1)) ∧ Fr n0 L ∧ h = h0) := by
  refine own_body (Jvm.Free.JP.mathPlain rfl (by decide +kernel)) ?_
  intro p e s m below meth c T0 X0 hx hby hml hZ hown hnm hret hlk e0
  have N0 := Fr.nil n0
  have zO := own_old O0
  refine own_st (fun _ k => castTop (ef_mnW m p1 p2) k) ?_
  show own_Go p e below s _ _ _ (T0.setTop (mkF m 0 #[.val (.int p1), .val (.int p2)] []))
  refine own_st (fun _ k => XS.iloadN X0.here hx rfl (hb hby d30_0) rfl k) ?_
  show own_Go p e below s _ _ _ (T0.setTop (mkF m 1 #[.val (.int p1), .val (.int p2)] [(.int p1)]))
  refine own_st (fun _ k => XS.iloadN X0.here hx rfl (hb hby d30_1) rfl k) ?_
  show own_Go p e below s _ _ _ (T0.setTop (mkF m 2 #[.val (.int p1), .val (.int p2)] [(.int p2), (.int p1)]))
  by_cases c101 : p2 < p1
  · refine own_st (fun _ k => XS.icmpYes X0.here hx rfl (pc0 := 2) (pc' := 9) rfl (hb hby d30_2) rfl (tlt c101).2.2.1 (by decide) (by decide) k) ?_
    show own_Go p e below s _ _ _ (T0.setTop (mkF m 9 #[.val (.int p1), .val (.int p2)] []))
    refine own_st (fun _ k => XS.iloadN X0.here hx rfl (hb hby d30_9) rfl k) ?_
    show own_Go p e below s _ _ _ (T0.setTop (mkF m 10 #[.val (.int p1), .val (.int p2)] [(.int p2)]))
    exact own_ret X0 hx hlk e0 hret rfl (Or.inl ⟨rfl, Or.inl rfl, _, rfl⟩) (hb hby d30_10) (by decide) (by decide) ⟨by rw [if_pos c101], N0, rfl⟩
  · refine own_st (fun _ k => XS.icmpNo X0.here hx rfl (hb hby d30_2) rfl (flt c101).2.2.1 k) ?_
    show own_Go p e below s _ _ _ (T0.setTop (mkF m 5 #[.val (.int p1), .val (.int p2)] []))
    refine own_st (fun _ k => XS.iloadN X0.here hx rfl (hb hby d30_5) rfl k) ?_
    show own_Go p e below s _ _ _ (T0.setTop (mkF m 6 #[.val (.int p1), .val (.int p2)] [(.int p1)]))
    refine own_st (fun _ k => XS.goto X0.here hx rfl (pc0 := 6) (pc' := 10) rfl (hb hby d30_6) (by decide) (by decide) k) ?_
    show own_Go p e below s _ _ _ (T0.setTop (mkF m 10 #[.val (.int p1), .val (.int p2)] [(.int p1)]))
    exact own_ret X0 hx hlk e0 hret rfl (Or.inl ⟨rfl, Or.inl rfl, _, rfl⟩) (hb hby d30_10) (by decide) (by decide) ⟨by rw [if_neg c101], N0, rfl⟩
theorem d29_0 : decode jdk_65_method_131_code 0 = .ok (.iload_n 1, 1) := by decide +kernel
theorem d29_1 : decode jdk_65_method_131_code 1 = .ok (.iload_n 0, 1) := by decide +kernel
theorem d29_2 : decode jdk_65_method_131_code 2 = .ok (.if_icmp .ge 35, 3) := by decide +kernel
theorem d29_37 : decode jdk_65_method_131_code 37 = .ok (.return_, 1) := by decide +kernel
theorem pn_java_util_Arrays : plainName "java/util/Arrays" = true := by first | (simp [plainName, overriddenIn]; done) | decide +kernel
theorem ef_clW (m : MethodId) (x0 : Int32) (x1 : Int32) : entryFrame m #[(.int x0), (.int x1)] 2 = mkF m 0 #[.val (.int x0), .val (.int x1)] [] := by (first | (simp [entryFrame, mkF, argsToLocals, Value.category]; done) | rfl)
abbrev clWR : Room := { frames := 0, cells := 0, slots := 0, locals := 0 }
set_option maxRecDepth 65536 in
set_option maxHeartbeats 40000000 in
theorem clW (l : Launch) (Z : State) (a0 : Array Value) (hw : ∀ d ∈ tables_1, d.before a0 Z = true) (p1 p2 : Int32) (h0 : Heap) (n0 : Nat) (O0 : Old Z n0 h0) (hle : ¬ p2 < p1) :
    own_C l Z (⟨"java/util/Arrays", "checkLength", "(II)V"⟩ : MethodName) jdk_65_method_131_code 2 none [] clWR #[(.int p1), (.int p2)] h0 (fun v h L => v = none ∧ Fr n0 L ∧ h = h0) := by
  refine own_body (plainFor_of_name pn_java_util_Arrays) ?_
  intro p e s m below meth c T0 X0 hx hby hml hZ hown hnm hret hlk e0
  have N0 := Fr.nil n0
  have zO := own_old O0
  refine own_st (fun _ k => castTop (ef_clW m p1 p2) k) ?_
  show own_Go p e below s _ _ _ (T0.setTop (mkF m 0 #[.val (.int p1), .val (.int p2)] []))
  refine own_st (fun _ k => XS.iloadN X0.here hx rfl (hb hby d29_0) rfl k) ?_
  show own_Go p e below s _ _ _ (T0.setTop (mkF m 1 #[.val (.int p1), .val (.int p2)] [(.int p2)]))
  refine own_st (fun _ k => XS.iloadN X0.here hx rfl (hb hby d29_1) rfl k) ?_
  show own_Go p e below s _ _ _ (T0.setTop (mkF m 2 #[.val (.int p1), .val (.int p2)] [(.int p1), (.int p2)]))
  refine own_st (fun _ k => XS.icmpYes X0.here hx rfl (pc0 := 2) (pc' := 37) rfl (hb hby d29_2) rfl (flt hle).2.1 (by decide) (by decide) k) ?_
  show own_Go p e below s _ _ _ (T0.setTop (mkF m 37 #[.val (.int p1), .val (.int p2)] []))
  exact own_retV X0 hx hlk e0 hret (hb hby d29_37) (by decide) (by decide) ⟨rfl, N0, rfl⟩
theorem d11_0 : decode jdk_42_method_154_code 0 = .ok (.getstatic 38, 3) := by decide +kernel
theorem d11_3 : decode jdk_42_method_154_code 3 = .ok (.ifCond .eq 14, 3) := by decide +kernel
theorem d11_6 : decode jdk_42_method_154_code 6 = .ok (.aload_n 0, 1) := by decide +kernel
theorem d11_7 : decode jdk_42_method_154_code 7 = .ok (.getfield 15, 3) := by decide +kernel
theorem d11_10 : decode jdk_42_method_154_code 10 = .ok (.ifCond .ne 7, 3) := by decide +kernel
theorem d11_13 : decode jdk_42_method_154_code 13 = .ok (.iconst 1, 1) := by decide +kernel
theorem d11_14 : decode jdk_42_method_154_code 14 = .ok (.goto 4, 3) := by decide +kernel
theorem d11_18 : decode jdk_42_method_154_code 18 = .ok (.ireturn, 1) := by decide +kernel
theorem pn_java_lang_String : plainName "java/lang/String" = true := by first | (simp [plainName, overriddenIn]; done) | decide +kernel
theorem ef_ilW (m : MethodId) (x0 : Addr) : entryFrame m #[(.ref x0)] 1 = mkF m 0 #[.val (.ref x0)] [] := by (first | (simp [entryFrame, mkF, argsToLocals, Value.category]; done) | rfl)
abbrev ilWR : Room := { frames := 0, cells := 0, slots := 0, locals := 0 }
set_option maxRecDepth 65536 in
set_option maxHeartbeats 40000000 in
theorem ilW (l : Launch) (Z : State) (a0 : Array Value) (hw : ∀ d ∈ tables_1, d.before a0 Z = true) (a1 : Nat) (h0 : Heap) (n0 : Nat) (O0 : Old Z n0 h0) (CS : own_CS Z) (F1 : Fld Z h0 a1 "java/lang/String" "coder" "B" (.int 0)) :
    own_C l Z (⟨"java/lang/String", "isLatin1", "()Z"⟩ : MethodName) jdk_42_method_154_code 1 (some .boolean) [] ilWR #[(.ref a1)] h0 (fun v h L => v = some (.int 1) ∧ Fr n0 L ∧ h = h0) := by
  refine own_body (plainFor_of_name pn_java_lang_String) ?_
  intro p e s m below meth c T0 X0 hx hby hml hZ hown hnm hret hlk e0
  have N0 := Fr.nil n0
  have zO := own_old O0
  obtain ⟨zc, Sc, hzc⟩ := id CS
  refine own_st (fun _ k => castTop (ef_ilW m a1) k) ?_
  show own_Go p e below s _ _ _ (T0.setTop (mkF m 0 #[.val (.ref a1)] []))
  obtain ⟨T101, X101, e101, st101⟩ := getS2 X0 hx hZ hown (host := "") (Or.inl (hw _ (List.mem_of_getElem? (i := 14) rfl))) Via.refl e0 (Sc.ext O0.2) (g := (mkF m 0 #[.val (.ref a1)] [])) rfl (hb hby d11_0)
  refine own_st st101 ?_
  show own_Go p e below s _ _ _ (T101.setTop (mkF m 3 #[.val (.ref a1)] [(.int zc)]))
  refine own_st (fun _ k => XS.ifNo X101.here hx rfl (hb hby d11_3) rfl ((if0 _ _).trans (feq hzc).1) k) ?_
  show own_Go p e below s _ _ _ (T101.setTop (mkF m 6 #[.val (.ref a1)] []))
  refine own_st (fun _ k => XS.aloadN X101.here hx rfl (hb hby d11_6) rfl rfl k) ?_
  show own_Go p e below s _ _ _ (T101.setTop (mkF m 7 #[.val (.ref a1)] [(.ref a1)]))
  obtain ⟨T102, X102, e102, st102⟩ := getF X101 hx hZ hown (host := "") (Or.inl (hw _ (List.mem_of_getElem? (i := 26) rfl))) Via.refl e101 F1 (g := (mkF m 7 #[.val (.ref a1)] [(.ref a1)])) rfl rfl (hb hby d11_7)
  refine own_st st102 ?_
  show own_Go p e below s _ _ _ (T102.setTop (mkF m 10 #[.val (.ref a1)] [(.int (0 : Int32))]))
  refine own_st (fun _ k => XS.ifNo X102.here hx rfl (hb hby d11_10) rfl ((if0 _ _).trans (teq (by decide)).2) k) ?_
  show own_Go p e below s _ _ _ (T102.setTop (mkF m 13 #[.val (.ref a1)] []))
  refine own_st (fun _ k => XS.iconst X102.here hx rfl (hb hby d11_13) k) ?_
  show own_Go p e below s _ _ _ (T102.setTop (mkF m 14 #[.val (.ref a1)] [(.int (1 : Int32))]))
  refine own_st (fun _ k => XS.goto X102.here hx rfl (pc0 := 14) (pc' := 18) rfl (hb hby d11_14) (by decide) (by decide) k) ?_
  show own_Go p e below s _ _ _ (T102.setTop (mkF m 18 #[.val (.ref a1)] [(.int (1 : Int32))]))
  exact own_ret X102 hx hlk e102 hret (by decide) (Or.inl ⟨rfl, Or.inr (Or.inl rfl), _, rfl⟩) (hb hby d11_18) (by decide) (by decide) ⟨rfl, N0, rfl⟩
theorem own_cpy {vs : List Value} {dv : Value} {i j m : Nat} (hi : i ≤ j) (hj : j ≤ vs.length) : ∀ x, ((vs.drop i).take (j - i)).getD x (Value.int 0) = ((List.replicate m (Value.int 0)).take 0 ++ (List.range (j - i)).map (fun y => vs.getD (i + y) dv) ++ (List.replicate m (Value.int 0)).drop (0 + (j - i))).getD x (Value.int 0) := by
  intro x
  simp only [List.take_zero, List.nil_append]
  by_cases h : x < j - i
  · have h1 : i + x < vs.length := by omega
    simp [List.getD_eq_getElem?_getD, List.getElem?_append, h, List.getElem?_take, List.getElem?_drop, h1]
  · simp only [List.getD_eq_getElem?_getD, List.getElem?_append, List.length_map, List.length_range, h, if_false, List.getElem?_take, List.getElem?_drop, List.drop_replicate, List.getElem?_replicate]
    split <;> rfl
theorem own_mapdt {vs : List Int32} {f : Int32 → Value} {i n : Nat} : ((vs.map f).drop i).take n = ((vs.drop i).take n).map f := by rw [← List.map_drop, ← List.map_take]
theorem own_memdt {α : Type} {vs : List α} {i n : Nat} {c : α} (h : c ∈ (vs.drop i).take n) : c ∈ vs := List.mem_of_mem_drop (List.mem_of_mem_take h)
theorem d28_0 : decode jdk_65_method_133_code 0 = .ok (.iload_n 1, 1) := by decide +kernel
theorem d28_1 : decode jdk_65_method_133_code 1 = .ok (.iload_n 2, 1) := by decide +kernel
theorem pd__28II_29V : parseMethodDescriptor "(II)V" = some ⟨[.int, .int], none⟩ := by decide +kernel
theorem d28_2 : decode jdk_65_method_133_code 2 = .ok (.invokestatic 343, 3) := by decide +kernel
theorem d28_5 : decode jdk_65_method_133_code 5 = .ok (.iload_n 2, 1) := by decide +kernel
theorem d28_6 : decode jdk_65_method_133_code 6 = .ok (.iload_n 1, 1) := by decide +kernel
theorem d28_7 : decode jdk_65_method_133_code 7 = .ok (.isub, 1) := by decide +kernel
theorem d28_8 : decode jdk_65_method_133_code 8 = .ok (.istore_n 3, 1) := by decide +kernel
theorem d28_9 : decode jdk_65_method_133_code 9 = .ok (.iload_n 3, 1) := by decide +kernel
theorem d28_10 : decode jdk_65_method_133_code 10 = .ok (.newarray .byte, 2) := by decide +kernel
theorem d28_12 : decode jdk_65_method_133_code 12 = .ok (.astore 4, 2) := by decide +kernel
theorem d28_14 : decode jdk_65_method_133_code 14 = .ok (.aload_n 0, 1) := by decide +kernel
theorem d28_15 : decode jdk_65_method_133_code 15 = .ok (.iload_n 1, 1) := by decide +kernel
theorem d28_16 : decode jdk_65_method_133_code 16 = .ok (.aload 4, 2) := by decide +kernel
theorem d28_18 : decode jdk_65_method_133_code 18 = .ok (.iconst 0, 1) := by decide +kernel
theorem d28_19 : decode jdk_65_method_133_code 19 = .ok (.aload_n 0, 1) := by decide +kernel
theorem d28_20 : decode jdk_65_method_133_code 20 = .ok (.arraylength, 1) := by decide +kernel
theorem d28_21 : decode jdk_65_method_133_code 21 = .ok (.iload_n 1, 1) := by decide +kernel
theorem d28_22 : decode jdk_65_method_133_code 22 = .ok (.isub, 1) := by decide +kernel
theorem d28_23 : decode jdk_65_method_133_code 23 = .ok (.iload_n 3, 1) := by decide +kernel
theorem pd__28II_29I : parseMethodDescriptor "(II)I" = some ⟨[.int, .int], some .int⟩ := by decide +kernel
theorem d28_24 : decode jdk_65_method_133_code 24 = .ok (.invokestatic 304, 3) := by decide +kernel
theorem d28_27 : decode jdk_65_method_133_code 27 = .ok (.invokestatic 150, 3) := by decide +kernel
theorem d28_30 : decode jdk_65_method_133_code 30 = .ok (.aload 4, 2) := by decide +kernel
theorem d28_32 : decode jdk_65_method_133_code 32 = .ok (.areturn, 1) := by decide +kernel
theorem ef_crB (m : MethodId) (x0 : Addr) (x1 : Int32) (x2 : Int32) : entryFrame m #[(.ref x0), (.int x1), (.int x2)] 5 = mkF m 0 #[.val (.ref x0), .val (.int x1), .val (.int x2), .unset, .unset] [] := by (first | (simp [entryFrame, mkF, argsToLocals, Value.category]; done) | rfl)
abbrev crBR : Room := { frames := 1, cells := 1, slots := 4, locals := 40 }
set_option maxRecDepth 65536 in
set_option maxHeartbeats 40000000 in
theorem crB (l : Launch) (Z : State) (a0 : Array Value) (hw : ∀ d ∈ tables_1, d.before a0 Z = true) (a1 : Nat) (k1 : ClassId) (vs : List Value) (i j k : Nat) (h0 : Heap) (n0 : Nat) (O0 : Old Z n0 h0) (hi : i ≤ j) (hj : j ≤ k) (hk : k ≤ 4) (hv : vs.length = k) (V1 : Arv Z h0 a1 k1 .byte (Int32.ofNat k) vs (.int 0)) :
    own_C l Z (⟨"java/util/Arrays", "copyOfRangeByte", "([BII)[B"⟩ : MethodName) jdk_65_method_133_code 5 (some (.array .byte)) [] crBR #[(.ref a1), (.int (Int32.ofNat i)), (.int (Int32.ofNat j))] h0 (fun v h L => Fr n0 L ∧ ∃ (b : Nat) (kb : ClassId), v = some (.ref b) ∧ Keep h0 h [] ∧ h0.size ≤ b ∧ b < h.size ∧ Arv Z h b kb .byte (Int32.ofNat (j - i)) ((vs.drop i).take (j - i)) (.int 0)) := by
  refine own_body (plainFor_of_name pn_java_util_Arrays) ?_
  intro p e s m below meth c T0 X0 hx hby hml hZ hown hnm hret hlk e0
  have N0 := Fr.nil n0
  have zO := own_old O0
  refine own_st (fun _ k => castTop (ef_crB m a1 (Int32.ofNat i) (Int32.ofNat j)) k) ?_
  show own_Go p e below s _ _ _ (T0.setTop (mkF m 0 #[.val (.ref a1), .val (.int (Int32.ofNat i)), .val (.int (Int32.ofNat j)), .unset, .unset] []))
  refine own_st (fun _ k => XS.iloadN X0.here hx rfl (hb hby d28_0) rfl k) ?_
  show own_Go p e below s _ _ _ (T0.setTop (mkF m 1 #[.val (.ref a1), .val (.int (Int32.ofNat i)), .val (.int (Int32.ofNat j)), .unset, .unset] [(.int (Int32.ofNat i))]))
  refine own_st (fun _ k => XS.iloadN X0.here hx rfl (hb hby d28_1) rfl k) ?_
  show own_Go p e below s _ _ _ (T0.setTop (mkF m 2 #[.val (.ref a1), .val (.int (Int32.ofNat i)), .val (.int (Int32.ofNat j)), .unset, .unset] [(.int (Int32.ofNat j)), (.int (Int32.ofNat i))]))
  obtain ⟨T101, v101, L101, h101, X101, e101, q101, st101⟩ := own_callS X0 hx hZ (y := (⟨"java/util/Arrays", "checkLength", "(II)V"⟩ : MethodName)) hown (hw _ (List.mem_of_getElem? (i := 125) rfl)) (hw _ (List.mem_of_getElem? (i := 126) rfl)) (hw _ (List.mem_of_getElem? (i := 120) rfl)) (hw _ (List.mem_of_getElem? (i := 127) rfl)) (by decide) (own_bk (W := 0) (clW l Z a0 hw (Int32.ofNat i) (Int32.ofNat j) h0 n0 O0 (by rw [own_nlt (by omega) (by omega)]; omega)) hZ (hw _ (List.mem_of_getElem? (i := 127) rfl)) (hw _ (List.mem_of_getElem? (i := 120) rfl)) (by decide) (by decide)) e0 (by decide) (by decide) (g := (mkF m 2 #[.val (.ref a1), .val (.int (Int32.ofNat i)), .val (.int (Int32.ofNat j)), .unset, .unset] [(.int (Int32.ofNat j)), (.int (Int32.ofNat i))])) rfl (by rw [hml]; rfl) (argsL := [(.int (Int32.ofNat i)), (.int (Int32.ofNat j))]) (rest := []) (lenOf pd__28II_29V rfl) rfl rfl (by show 2 * 0 + _ ≤ _; exact Nat.le_of_eq rfl) (hb hby d28_2)
  obtain ⟨rfl, N101q, hq101⟩ := q101
  replace e101 := e101.trans hq101
  refine own_st st101 ?_
  have N101 := Fr.app N0 N101q
  show own_Go p e below s _ _ _ (T101.setTop (mkF m 5 #[.val (.ref a1), .val (.int (Int32.ofNat i)), .val (.int (Int32.ofNat j)), .unset, .unset] []))
  refine own_st (fun _ k => XS.iloadN X101.here hx rfl (hb hby d28_5) rfl k) ?_
  show own_Go p e below s _ _ _ (T101.setTop (mkF m 6 #[.val (.ref a1), .val (.int (Int32.ofNat i)), .val (.int (Int32.ofNat j)), .unset, .unset] [(.int (Int32.ofNat j))]))
  refine own_st (fun _ k => XS.iloadN X101.here hx rfl (hb hby d28_6) rfl k) ?_
  show own_Go p e below s _ _ _ (T101.setTop (mkF m 7 #[.val (.ref a1), .val (.int (Int32.ofNat i)), .val (.int (Int32.ofNat j)), .unset, .unset] [(.int (Int32.ofNat i)), (.int (Int32.ofNat j))]))
  refine own_st (fun _ k => XS.isub X101.here hx rfl (hb hby d28_7) rfl k) ?_
  show own_Go p e below s _ _ _ (T101.setTop (mkF m 8 #[.val (.ref a1), .val (.int (Int32.ofNat i)), .val (.int (Int32.ofNat j)), .unset, .unset] [(.int ((Int32.ofNat j) - (Int32.ofNat i)))]))
  rw [own_nsub hi (by omega)]
  show own_Go p e below s _ _ _ (T101.setTop (mkF m 8 #[.val (.ref a1), .val (.int (Int32.ofNat i)), .val (.int (Int32.ofNat j)), .unset, .unset] [(.int (Int32.ofNat (j - i)))]))
  refine own_st (fun _ k => XS.istoreN X101.here hx rfl (hb hby d28_8) rfl (l' := #[.val (.ref a1), .val (.int (Int32.ofNat i)), .val (.int (Int32.ofNat j)), .val (.int (Int32.ofNat (j - i))), .unset]) rfl k) ?_
  show own_Go p e below s _ _ _ (T101.setTop (mkF m 9 #[.val (.ref a1), .val (.int (Int32.ofNat i)), .val (.int (Int32.ofNat j)), .val (.int (Int32.ofNat (j - i))), .unset] []))
  refine own_st (fun _ k => XS.iloadN X101.here hx rfl (hb hby d28_9) rfl k) ?_
  show own_Go p e below s _ _ _ (T101.setTop (mkF m 10 #[.val (.ref a1), .val (.int (Int32.ofNat i)), .val (.int (Int32.ofNat j)), .val (.int (Int32.ofNat (j - i))), .unset] [(.int (Int32.ofNat (j - i)))]))
  obtain ⟨T102, h102, k102, X102, e102, E102, A102, st102⟩ := newP X101 hx hZ (hw _ (List.mem_of_getElem? (i := 19) rfl)) e101 (g := (mkF m 10 #[.val (.ref a1), .val (.int (Int32.ofNat i)), .val (.int (Int32.ofNat j)), .val (.int (Int32.ofNat (j - i))), .unset] [(.int (Int32.ofNat (j - i)))])) rfl (hb hby d28_10) rfl (own_nn (by omega)) (cap := 4) (by rw [own_tcn (by omega)]; omega) (by decide) (by decide) (by decide)
  obtain ⟨b102, g102⟩ : ∃ z, z = h0.size := ⟨_, rfl⟩
  rw [← g102] at A102 st102
  have K102 : Keep h0 h102 [] := (Keep.refl _ _).ext E102
  have l102 : b102 < h102.size := A102.lt
  refine own_st st102 ?_
  have zK102 := K102.1
  have V102 := Arv.new A102 (own_nn (by omega))
  show own_Go p e below s _ _ _ (T102.setTop (mkF m 12 #[.val (.ref a1), .val (.int (Int32.ofNat i)), .val (.int (Int32.ofNat j)), .val (.int (Int32.ofNat (j - i))), .unset] [(.ref b102)]))
  have V102p := V102.pad (pad_rep [] (.int (0 : Int32)) 4)
  refine own_st (fun _ k => XS.astore X102.here hx rfl (hb hby d28_12) rfl rfl (l' := #[.val (.ref a1), .val (.int (Int32.ofNat i)), .val (.int (Int32.ofNat j)), .val (.int (Int32.ofNat (j - i))), .val (.ref b102)]) rfl k) ?_
  show own_Go p e below s _ _ _ (T102.setTop (mkF m 14 #[.val (.ref a1), .val (.int (Int32.ofNat i)), .val (.int (Int32.ofNat j)), .val (.int (Int32.ofNat (j - i))), .val (.ref b102)] []))
  refine own_st (fun _ k => XS.aloadN X102.here hx rfl (hb hby d28_14) rfl rfl k) ?_
  show own_Go p e below s _ _ _ (T102.setTop (mkF m 15 #[.val (.ref a1), .val (.int (Int32.ofNat i)), .val (.int (Int32.ofNat j)), .val (.int (Int32.ofNat (j - i))), .val (.ref b102)] [(.ref a1)]))
  refine own_st (fun _ k => XS.iloadN X102.here hx rfl (hb hby d28_15) rfl k) ?_
  show own_Go p e below s _ _ _ (T102.setTop (mkF m 16 #[.val (.ref a1), .val (.int (Int32.ofNat i)), .val (.int (Int32.ofNat j)), .val (.int (Int32.ofNat (j - i))), .val (.ref b102)] [(.int (Int32.ofNat i)), (.ref a1)]))
  refine own_st (fun _ k => XS.aload X102.here hx rfl (hb hby d28_16) rfl rfl k) ?_
  show own_Go p e below s _ _ _ (T102.setTop (mkF m 18 #[.val (.ref a1), .val (.int (Int32.ofNat i)), .val (.int (Int32.ofNat j)), .val (.int (Int32.ofNat (j - i))), .val (.ref b102)] [(.ref b102), (.int (Int32.ofNat i)), (.ref a1)]))
  refine own_st (fun _ k => XS.iconst X102.here hx rfl (hb hby d28_18) k) ?_
  show own_Go p e below s _ _ _ (T102.setTop (mkF m 19 #[.val (.ref a1), .val (.int (Int32.ofNat i)), .val (.int (Int32.ofNat j)), .val (.int (Int32.ofNat (j - i))), .val (.ref b102)] [(.int (0 : Int32)), (.ref b102), (.int (Int32.ofNat i)), (.ref a1)]))
  refine own_st (fun _ k => XS.aloadN X102.here hx rfl (hb hby d28_19) rfl rfl k) ?_
  show own_Go p e below s _ _ _ (T102.setTop (mkF m 20 #[.val (.ref a1), .val (.int (Int32.ofNat i)), .val (.int (Int32.ofNat j)), .val (.int (Int32.ofNat (j - i))), .val (.ref b102)] [(.ref a1), (.int (0 : Int32)), (.ref b102), (.int (Int32.ofNat i)), (.ref a1)]))
  have f103 := (V1.keep ((Keep.refl h0 []).trans K102 all0) nin0)
  obtain ⟨c104, Ar104, q104, S104, M104, H104, U104⟩ := id f103
  refine own_st (X102.arraylength hx (by rw [e102]; exact Ar104.1) (State.isArrayOf_alike hZ.alike Ar104.2.1) (g := (mkF m 20 #[.val (.ref a1), .val (.int (Int32.ofNat i)), .val (.int (Int32.ofNat j)), .val (.int (Int32.ofNat (j - i))), .val (.ref b102)] [(.ref a1), (.int (0 : Int32)), (.ref b102), (.int (Int32.ofNat i)), (.ref a1)])) rfl rfl (hb hby d28_20)) ?_
  rw [len_of S104 M104]
  show own_Go p e below s _ _ _ (T102.setTop (mkF m 21 #[.val (.ref a1), .val (.int (Int32.ofNat i)), .val (.int (Int32.ofNat j)), .val (.int (Int32.ofNat (j - i))), .val (.ref b102)] [(.int (Int32.ofNat k)), (.int (0 : Int32)), (.ref b102), (.int (Int32.ofNat i)), (.ref a1)]))
  refine own_st (fun _ k => XS.iloadN X102.here hx rfl (hb hby d28_21) rfl k) ?_
  show own_Go p e below s _ _ _ (T102.setTop (mkF m 22 #[.val (.ref a1), .val (.int (Int32.ofNat i)), .val (.int (Int32.ofNat j)), .val (.int (Int32.ofNat (j - i))), .val (.ref b102)] [(.int (Int32.ofNat i)), (.int (Int32.ofNat k)), (.int (0 : Int32)), (.ref b102), (.int (Int32.ofNat i)), (.ref a1)]))
  refine own_st (fun _ k => XS.isub X102.here hx rfl (hb hby d28_22) rfl k) ?_
  show own_Go p e below s _ _ _ (T102.setTop (mkF m 23 #[.val (.ref a1), .val (.int (Int32.ofNat i)), .val (.int (Int32.ofNat j)), .val (.int (Int32.ofNat (j - i))), .val (.ref b102)] [(.int ((Int32.ofNat k) - (Int32.ofNat i))), (.int (0 : Int32)), (.ref b102), (.int (Int32.ofNat i)), (.ref a1)]))
  rw [own_nsub (Nat.le_trans hi hj) (by omega)]
  show own_Go p e below s _ _ _ (T102.setTop (mkF m 23 #[.val (.ref a1), .val (.int (Int32.ofNat i)), .val (.int (Int32.ofNat j)), .val (.int (Int32.ofNat (j - i))), .val (.ref b102)] [(.int (Int32.ofNat (k - i))), (.int (0 : Int32)), (.ref b102), (.int (Int32.ofNat i)), (.ref a1)]))
  refine own_st (fun _ k => XS.iloadN X102.here hx rfl (hb hby d28_23) rfl k) ?_
  show own_Go p e below s _ _ _ (T102.setTop (mkF m 24 #[.val (.ref a1), .val (.int (Int32.ofNat i)), .val (.int (Int32.ofNat j)), .val (.int (Int32.ofNat (j - i))), .val (.ref b102)] [(.int (Int32.ofNat (j - i))), (.int (Int32.ofNat (k - i))), (.int (0 : Int32)), (.ref b102), (.int (Int32.ofNat i)), (.ref a1)]))
  have O105 : Old Z n0 h102 := O0.keep ((Keep.refl h0 []).trans K102 all0) all0
  obtain ⟨T106, v106, L106, h106, X106, e106, q106, st106⟩ := own_callS X102 hx hZ (y := (⟨"java/lang/Math", "min", "(II)I"⟩ : MethodName)) hown (hw _ (List.mem_of_getElem? (i := 128) rfl)) (hw _ (List.mem_of_getElem? (i := 129) rfl)) (hw _ (List.mem_of_getElem? (i := 130) rfl)) (hw _ (List.mem_of_getElem? (i := 131) rfl)) (by decide) (own_bk (W := 4) (mnW l Z a0 hw (Int32.ofNat (k - i)) (Int32.ofNat (j - i)) h102 n0 O105) hZ (hw _ (List.mem_of_getElem? (i := 131) rfl)) (hw _ (List.mem_of_getElem? (i := 130) rfl)) (by decide) (by decide)) e102 (by decide) (by decide) (g := (mkF m 24 #[.val (.ref a1), .val (.int (Int32.ofNat i)), .val (.int (Int32.ofNat j)), .val (.int (Int32.ofNat (j - i))), .val (.ref b102)] [(.int (Int32.ofNat (j - i))), (.int (Int32.ofNat (k - i))), (.int (0 : Int32)), (.ref b102), (.int (Int32.ofNat i)), (.ref a1)])) rfl (by rw [hml]; rfl) (argsL := [(.int (Int32.ofNat (k - i))), (.int (Int32.ofNat (j - i)))]) (rest := [(.int (0 : Int32)), (.ref b102), (.int (Int32.ofNat i)), (.ref a1)]) (lenOf pd__28II_29I rfl) rfl rfl (by show 2 * 0 + _ ≤ _; exact Nat.le_of_eq rfl) (hb hby d28_24)
  obtain ⟨rfl, N106q, hq106⟩ := q106
  replace e106 := e106.trans hq106
  refine own_st st106 ?_
  have N106 := Fr.app N101 N106q
  show own_Go p e below s _ _ _ (T106.setTop (mkF m 27 #[.val (.ref a1), .val (.int (Int32.ofNat i)), .val (.int (Int32.ofNat j)), .val (.int (Int32.ofNat (j - i))), .val (.ref b102)] [(.int (if (Int32.ofNat (j - i)) < (Int32.ofNat (k - i)) then (Int32.ofNat (j - i)) else (Int32.ofNat (k - i)))), (.int (0 : Int32)), (.ref b102), (.int (Int32.ofNat i)), (.ref a1)]))
  rw [show (if Int32.ofNat (j - i) < Int32.ofNat (k - i) then Int32.ofNat (j - i) else Int32.ofNat (k - i)) = Int32.ofNat (j - i) from by
      split
      · rfl
      · rename_i q; rw [own_nlt (by omega) (by omega)] at q; rw [show k - i = j - i from by omega]]
  show own_Go p e below s _ _ _ (T106.setTop (mkF m 27 #[.val (.ref a1), .val (.int (Int32.ofNat i)), .val (.int (Int32.ofNat j)), .val (.int (Int32.ofNat (j - i))), .val (.ref b102)] [(.int (Int32.ofNat (j - i))), (.int (0 : Int32)), (.ref b102), (.int (Int32.ofNat i)), (.ref a1)]))
  obtain ⟨T107, h107, L107, X107, e107, N107, K107, V107, st107⟩ := cpA X106 hx hZ hown (hw _ (List.mem_of_getElem? (i := 132) rfl)) (hw _ (List.mem_of_getElem? (i := 135) rfl)) (hw _ (List.mem_of_getElem? (i := 133) rfl)) (hw _ (List.mem_of_getElem? (i := 134) rfl)) e106 f103 V102p (Or.inl ⟨rfl, rfl⟩) (own_nn (by omega)) (by decide) (own_nn (by omega)) (by rw [own_tcn (by omega), own_tcn (by omega), own_tcn (by omega)]; omega) (by rw [own_tcn (by omega)]; exact Nat.le_of_eq (Nat.zero_add _)) rfl (by rw [own_tcn (by omega)]; show 0 + (j - i) ≤ 4; omega) N106 (by omega : n0 ≤ b102) (g := (mkF m 27 #[.val (.ref a1), .val (.int (Int32.ofNat i)), .val (.int (Int32.ofNat j)), .val (.int (Int32.ofNat (j - i))), .val (.ref b102)] [(.int (Int32.ofNat (j - i))), (.int (0 : Int32)), (.ref b102), (.int (Int32.ofNat i)), (.ref a1)])) rfl (by rw [hml]; rfl) rfl (hb hby d28_27) (by decide) (W := 0) (by show 2 * 0 + _ ≤ _; exact Nat.le_of_eq rfl) (by decide)
  refine own_st st107 ?_
  have zK107 := K107.1
  rw [own_tcn (by omega : i < 2147483648), own_tcn (by omega : j - i < 2147483648)] at V107
  have V107c := V107.pad (own_cpy hi (by omega))
  show own_Go p e below s _ _ _ (T107.setTop (mkF m 30 #[.val (.ref a1), .val (.int (Int32.ofNat i)), .val (.int (Int32.ofNat j)), .val (.int (Int32.ofNat (j - i))), .val (.ref b102)] []))
  refine own_st (fun _ k => XS.aload X107.here hx rfl (hb hby d28_30) rfl rfl k) ?_
  show own_Go p e below s _ _ _ (T107.setTop (mkF m 32 #[.val (.ref a1), .val (.int (Int32.ofNat i)), .val (.int (Int32.ofNat j)), .val (.int (Int32.ofNat (j - i))), .val (.ref b102)] [(.ref b102)]))
  exact own_ret X107 hx hlk e107 hret rfl (Or.inr (Or.inr (Or.inr (Or.inr ⟨rfl, rfl, rfl⟩)))) (hb hby d28_32) (by decide) (by decide) ⟨N107, b102, _, rfl, (((Keep.refl h0 []).trans K102 all0).trans K107 (allS (Or.inr (by omega)) all0)), by omega, V107c.lt, V107c⟩
theorem d27_0 : decode jdk_65_method_132_code 0 = .ok (.iload_n 1, 1) := by decide +kernel
theorem d27_1 : decode jdk_65_method_132_code 1 = .ok (.ifCond .ne 9, 3) := by decide +kernel
theorem d27_4 : decode jdk_65_method_132_code 4 = .ok (.iload_n 2, 1) := by decide +kernel
theorem d27_5 : decode jdk_65_method_132_code 5 = .ok (.aload_n 0, 1) := by decide +kernel
theorem d27_6 : decode jdk_65_method_132_code 6 = .ok (.arraylength, 1) := by decide +kernel
theorem d27_7 : decode jdk_65_method_132_code 7 = .ok (.if_icmp .eq 10, 3) := by decide +kernel
theorem d27_10 : decode jdk_65_method_132_code 10 = .ok (.aload_n 0, 1) := by decide +kernel
theorem d27_11 : decode jdk_65_method_132_code 11 = .ok (.iload_n 1, 1) := by decide +kernel
theorem d27_12 : decode jdk_65_method_132_code 12 = .ok (.iload_n 2, 1) := by decide +kernel
theorem pd__28_5bBII_29_5bB : parseMethodDescriptor "([BII)[B" = some ⟨[(.array .byte), .int, .int], some (.array .byte)⟩ := by decide +kernel
theorem d27_13 : decode jdk_65_method_132_code 13 = .ok (.invokestatic 339, 3) := by decide +kernel
theorem d27_16 : decode jdk_65_method_132_code 16 = .ok (.areturn, 1) := by decide +kernel
theorem ef_crW (m : MethodId) (x0 : Addr) (x1 : Int32) (x2 : Int32) : entryFrame m #[(.ref x0), (.int x1), (.int x2)] 3 = mkF m 0 #[.val (.ref x0), .val (.int x1), .val (.int x2)] [] := by (first | (simp [entryFrame, mkF, argsToLocals, Value.category]; done) | rfl)
abbrev crWR : Room := { frames := 2, cells := 1, slots := 4, locals := 56 }
set_option maxRecDepth 65536 in
set_option maxHeartbeats 40000000 in
theorem crW (l : Launch) (Z : State) (a0 : Array Value) (hw : ∀ d ∈ tables_1, d.before a0 Z = true) (a1 : Nat) (k1 : ClassId) (vs : List Value) (i j k : Nat) (h0 : Heap) (n0 : Nat) (O0 : Old Z n0 h0) (hi : i ≤ j) (hj : j ≤ k) (hk : k ≤ 4) (hv : vs.length = k) (V1 : Arv Z h0 a1 k1 .byte (Int32.ofNat k) vs (.int 0)) (hne : ¬ (i = 0 ∧ j = k)) :
    own_C l Z (⟨"java/util/Arrays", "copyOfRange", "([BII)[B"⟩ : MethodName) jdk_65_method_132_code 3 (some (.array .byte)) [] crWR #[(.ref a1), (.int (Int32.ofNat i)), (.int (Int32.ofNat j))] h0 (fun v h L => Fr n0 L ∧ ∃ (b : Nat) (kb : ClassId), v = some (.ref b) ∧ Keep h0 h [] ∧ h0.size ≤ b ∧ b < h.size ∧ Arv Z h b kb .byte (Int32.ofNat (j - i)) ((vs.drop i).take (j - i)) (.int 0)) := by
  refine own_body (plainFor_of_name pn_java_util_Arrays) ?_
  intro p e s m below meth c T0 X0 hx hby hml hZ hown hnm hret hlk e0
  have N0 := Fr.nil n0
  have zO := own_old O0
  refine own_st (fun _ k => castTop (ef_crW m a1 (Int32.ofNat i) (Int32.ofNat j)) k) ?_
  show own_Go p e below s _ _ _ (T0.setTop (mkF m 0 #[.val (.ref a1), .val (.int (Int32.ofNat i)), .val (.int (Int32.ofNat j))] []))
  refine own_st (fun _ k => XS.iloadN X0.here hx rfl (hb hby d27_0) rfl k) ?_
  show own_Go p e below s _ _ _ (T0.setTop (mkF m 1 #[.val (.ref a1), .val (.int (Int32.ofNat i)), .val (.int (Int32.ofNat j))] [(.int (Int32.ofNat i))]))
  by_cases c101 : (Int32.ofNat i) = (0 : Int32)
  · refine own_st (fun _ k => XS.ifNo X0.here hx rfl (hb hby d27_1) rfl ((if0 _ _).trans (teq c101).2) k) ?_
    show own_Go p e below s _ _ _ (T0.setTop (mkF m 4 #[.val (.ref a1), .val (.int (Int32.ofNat i)), .val (.int (Int32.ofNat j))] []))
    refine own_st (fun _ k => XS.iloadN X0.here hx rfl (hb hby d27_4) rfl k) ?_
    show own_Go p e below s _ _ _ (T0.setTop (mkF m 5 #[.val (.ref a1), .val (.int (Int32.ofNat i)), .val (.int (Int32.ofNat j))] [(.int (Int32.ofNat j))]))
    refine own_st (fun _ k => XS.aloadN X0.here hx rfl (hb hby d27_5) rfl rfl k) ?_
    show own_Go p e below s _ _ _ (T0.setTop (mkF m 6 #[.val (.ref a1), .val (.int (Int32.ofNat i)), .val (.int (Int32.ofNat j))] [(.ref a1), (.int (Int32.ofNat j))]))
    obtain ⟨c102, Ar102, q102, S102, M102, H102, U102⟩ := id V1
    refine own_st (X0.arraylength hx (by rw [e0]; exact Ar102.1) (State.isArrayOf_alike hZ.alike Ar102.2.1) (g := (mkF m 6 #[.val (.ref a1), .val (.int (Int32.ofNat i)), .val (.int (Int32.ofNat j))] [(.ref a1), (.int (Int32.ofNat j))])) rfl rfl (hb hby d27_6)) ?_
    rw [len_of S102 M102]
    show own_Go p e below s _ _ _ (T0.setTop (mkF m 7 #[.val (.ref a1), .val (.int (Int32.ofNat i)), .val (.int (Int32.ofNat j))] [(.int (Int32.ofNat k)), (.int (Int32.ofNat j))]))
    refine own_st (fun _ k => XS.icmpNo X0.here hx rfl (hb hby d27_7) rfl (feq (fun q => hne ⟨(own_nin (by omega) (by omega)).mp c101, (own_nin (by omega) (by omega)).mp q⟩)).1 k) ?_
    show own_Go p e below s _ _ _ (T0.setTop (mkF m 10 #[.val (.ref a1), .val (.int (Int32.ofNat i)), .val (.int (Int32.ofNat j))] []))
    refine own_st (fun _ k => XS.aloadN X0.here hx rfl (hb hby d27_10) rfl rfl k) ?_
    show own_Go p e below s _ _ _ (T0.setTop (mkF m 11 #[.val (.ref a1), .val (.int (Int32.ofNat i)), .val (.int (Int32.ofNat j))] [(.ref a1)]))
    refine own_st (fun _ k => XS.iloadN X0.here hx rfl (hb hby d27_11) rfl k) ?_
    show own_Go p e below s _ _ _ (T0.setTop (mkF m 12 #[.val (.ref a1), .val (.int (Int32.ofNat i)), .val (.int (Int32.ofNat j))] [(.int (Int32.ofNat i)), (.ref a1)]))
    refine own_st (fun _ k => XS.iloadN X0.here hx rfl (hb hby d27_12) rfl k) ?_
    show own_Go p e below s _ _ _ (T0.setTop (mkF m 13 #[.val (.ref a1), .val (.int (Int32.ofNat i)), .val (.int (Int32.ofNat j))] [(.int (Int32.ofNat j)), (.int (Int32.ofNat i)), (.ref a1)]))
    obtain ⟨T103, v103, L103, h103, X103, e103, q103, st103⟩ := own_callS X0 hx hZ (y := (⟨"java/util/Arrays", "copyOfRangeByte", "([BII)[B"⟩ : MethodName)) hown (hw _ (List.mem_of_getElem? (i := 122) rfl)) (hw _ (List.mem_of_getElem? (i := 123) rfl)) (hw _ (List.mem_of_getElem? (i := 120) rfl)) (hw _ (List.mem_of_getElem? (i := 124) rfl)) (by decide) (own_bk (W := 0) (crB l Z a0 hw a1 _ vs i j k h0 n0 O0 hi hj hk hv V1) hZ (hw _ (List.mem_of_getElem? (i := 124) rfl)) (hw _ (List.mem_of_getElem? (i := 120) rfl)) (by decide) (by decide)) e0 (by decide) (by decide) (g := (mkF m 13 #[.val (.ref a1), .val (.int (Int32.ofNat i)), .val (.int (Int32.ofNat j))] [(.int (Int32.ofNat j)), (.int (Int32.ofNat i)), (.ref a1)])) rfl (by rw [hml]; rfl) (argsL := [(.ref a1), (.int (Int32.ofNat i)), (.int (Int32.ofNat j))]) (rest := []) (lenOf pd__28_5bBII_29_5bB rfl) rfl rfl (by show 2 * 0 + _ ≤ _; exact Nat.le_of_eq rfl) (hb hby d27_13)
    obtain ⟨N103q, b103, k103, rfl, K103, zb103, zc103, V103⟩ := q103
    refine own_st st103 ?_
    have zK103 := K103.1
    have N103 := Fr.app N0 N103q
    show own_Go p e below s _ _ _ (T103.setTop (mkF m 16 #[.val (.ref a1), .val (.int (Int32.ofNat i)), .val (.int (Int32.ofNat j))] [(.ref b103)]))
    exact own_ret X103 hx hlk e103 hret rfl (Or.inr (Or.inr (Or.inr (Or.inr ⟨rfl, rfl, rfl⟩)))) (hb hby d27_16) (by decide) (by decide) ⟨N103, b103, _, rfl, ((Keep.refl h0 []).trans K103 all0), by omega, V103.lt, V103⟩
  · refine own_st (fun _ k => XS.ifYes X0.here hx rfl (pc0 := 1) (pc' := 10) rfl (hb hby d27_1) rfl ((if0 _ _).trans (feq c101).2) (by decide) (by decide) k) ?_
    show own_Go p e below s _ _ _ (T0.setTop (mkF m 10 #[.val (.ref a1), .val (.int (Int32.ofNat i)), .val (.int (Int32.ofNat j))] []))
    refine own_st (fun _ k => XS.aloadN X0.here hx rfl (hb hby d27_10) rfl rfl k) ?_
    show own_Go p e below s _ _ _ (T0.setTop (mkF m 11 #[.val (.ref a1), .val (.int (Int32.ofNat i)), .val (.int (Int32.ofNat j))] [(.ref a1)]))
    refine own_st (fun _ k => XS.iloadN X0.here hx rfl (hb hby d27_11) rfl k) ?_
    show own_Go p e below s _ _ _ (T0.setTop (mkF m 12 #[.val (.ref a1), .val (.int (Int32.ofNat i)), .val (.int (Int32.ofNat j))] [(.int (Int32.ofNat i)), (.ref a1)]))
    refine own_st (fun _ k => XS.iloadN X0.here hx rfl (hb hby d27_12) rfl k) ?_
    show own_Go p e below s _ _ _ (T0.setTop (mkF m 13 #[.val (.ref a1), .val (.int (Int32.ofNat i)), .val (.int (Int32.ofNat j))] [(.int (Int32.ofNat j)), (.int (Int32.ofNat i)), (.ref a1)]))
    obtain ⟨T104, v104, L104, h104, X104, e104, q104, st104⟩ := own_callS X0 hx hZ (y := (⟨"java/util/Arrays", "copyOfRangeByte", "([BII)[B"⟩ : MethodName)) hown (hw _ (List.mem_of_getElem? (i := 122) rfl)) (hw _ (List.mem_of_getElem? (i := 123) rfl)) (hw _ (List.mem_of_getElem? (i := 120) rfl)) (hw _ (List.mem_of_getElem? (i := 124) rfl)) (by decide) (own_bk (W := 0) (crB l Z a0 hw a1 _ vs i j k h0 n0 O0 hi hj hk hv V1) hZ (hw _ (List.mem_of_getElem? (i := 124) rfl)) (hw _ (List.mem_of_getElem? (i := 120) rfl)) (by decide) (by decide)) e0 (by decide) (by decide) (g := (mkF m 13 #[.val (.ref a1), .val (.int (Int32.ofNat i)), .val (.int (Int32.ofNat j))] [(.int (Int32.ofNat j)), (.int (Int32.ofNat i)), (.ref a1)])) rfl (by rw [hml]; rfl) (argsL := [(.ref a1), (.int (Int32.ofNat i)), (.int (Int32.ofNat j))]) (rest := []) (lenOf pd__28_5bBII_29_5bB rfl) rfl rfl (by show 2 * 0 + _ ≤ _; exact Nat.le_of_eq rfl) (hb hby d27_13)
    obtain ⟨N104q, b104, k104, rfl, K104, zb104, zc104, V104⟩ := q104
    refine own_st st104 ?_
    have zK104 := K104.1
    have N104 := Fr.app N0 N104q
    show own_Go p e below s _ _ _ (T104.setTop (mkF m 16 #[.val (.ref a1), .val (.int (Int32.ofNat i)), .val (.int (Int32.ofNat j))] [(.ref b104)]))
    exact own_ret X104 hx hlk e104 hret rfl (Or.inr (Or.inr (Or.inr (Or.inr ⟨rfl, rfl, rfl⟩)))) (hb hby d27_16) (by decide) (by decide) ⟨N104, b104, _, rfl, ((Keep.refl h0 []).trans K104 all0), by omega, V104.lt, V104⟩
theorem d31_0 : decode jdk_42_method_151_code 0 = .ok (.aload_n 0, 1) := by decide +kernel
theorem d31_1 : decode jdk_42_method_151_code 1 = .ok (.invokespecial 1, 3) := by decide +kernel
theorem d31_4 : decode jdk_42_method_151_code 4 = .ok (.aload_n 0, 1) := by decide +kernel
theorem d31_5 : decode jdk_42_method_151_code 5 = .ok (.aload_n 1, 1) := by decide +kernel
theorem d31_6 : decode jdk_42_method_151_code 6 = .ok (.putfield 9, 3) := by decide +kernel
theorem d31_9 : decode jdk_42_method_151_code 9 = .ok (.aload_n 0, 1) := by decide +kernel
theorem d31_10 : decode jdk_42_method_151_code 10 = .ok (.iload_n 2, 1) := by decide +kernel
theorem d31_11 : decode jdk_42_method_151_code 11 = .ok (.putfield 15, 3) := by decide +kernel
theorem d31_14 : decode jdk_42_method_151_code 14 = .ok (.return_, 1) := by decide +kernel
theorem ef_sbI (m : MethodId) (x0 : Addr) (x1 : Addr) (x2 : Int32) : entryFrame m #[(.ref x0), (.ref x1), (.int x2)] 3 = mkF m 0 #[.val (.ref x0), .val (.ref x1), .val (.int x2)] [] := by (first | (simp [entryFrame, mkF, argsToLocals, Value.category]; done) | rfl)
abbrev sbIR : Room := { frames := 1, cells := 0, slots := 0, locals := 12 }
set_option maxRecDepth 65536 in
set_option maxHeartbeats 40000000 in
theorem sbI (l : Launch) (Z : State) (a0 : Array Value) (hw : ∀ d ∈ tables_1, d.before a0 Z = true) (a1 a2 : Nat) (u1 u2 : Value) (h0 : Heap) (n0 : Nat) (O0 : Old Z n0 h0) (E1 : Exa Z h0 a1 "java/lang/String") (g1 : n0 ≤ a1) (F1 : Fld Z h0 a1 "java/lang/String" "value" "[B" u1) (F2 : Fld Z h0 a1 "java/lang/String" "coder" "B" u2) :
    own_C l Z (⟨"java/lang/String", "<init>", "([BB)V"⟩ : MethodName) jdk_42_method_151_code 3 none [] sbIR #[(.ref a1), (.ref a2), (.int (0 : Int32))] h0 (fun v h L => v = none ∧ Fr n0 L ∧ Keep h0 h [a1] ∧ Exa Z h a1 "java/lang/String" ∧ Fld Z h a1 "java/lang/String" "value" "[B" (.ref a2) ∧ Fld Z h a1 "java/lang/String" "coder" "B" (.int 0)) := by
  refine own_body (plainFor_of_name pn_java_lang_String) ?_
  intro p e s m below meth c T0 X0 hx hby hml hZ hown hnm hret hlk e0
  have N0 := Fr.nil n0
  have zO := own_old O0
  refine own_st (fun _ k => castTop (ef_sbI m a1 a2 (0 : Int32)) k) ?_
  show own_Go p e below s _ _ _ (T0.setTop (mkF m 0 #[.val (.ref a1), .val (.ref a2), .val (.int (0 : Int32))] []))
  refine own_st (fun _ k => XS.aloadN X0.here hx rfl (hb hby d31_0) rfl rfl k) ?_
  show own_Go p e below s _ _ _ (T0.setTop (mkF m 1 #[.val (.ref a1), .val (.ref a2), .val (.int (0 : Int32))] [(.ref a1)]))
  obtain ⟨T101, X101, e101, st101⟩ := initO X0 hx hZ hown (hw _ (List.mem_of_getElem? (i := 11) rfl)) (hw _ (List.mem_of_getElem? (i := 12) rfl)) (hw _ (List.mem_of_getElem? (i := 13) rfl)) e0 (g := (mkF m 1 #[.val (.ref a1), .val (.ref a2), .val (.int (0 : Int32))] [(.ref a1)])) rfl (by rw [hml]; rfl) rfl (hb hby d31_1) (by decide) (W := 0) (by show 2 * 0 + _ ≤ _; exact Nat.le_of_eq rfl) (by decide)
  refine own_st st101 ?_
  show own_Go p e below s _ _ _ (T101.setTop (mkF m 4 #[.val (.ref a1), .val (.ref a2), .val (.int (0 : Int32))] []))
  refine own_st (fun _ k => XS.aloadN X101.here hx rfl (hb hby d31_4) rfl rfl k) ?_
  show own_Go p e below s _ _ _ (T101.setTop (mkF m 5 #[.val (.ref a1), .val (.ref a2), .val (.int (0 : Int32))] [(.ref a1)]))
  refine own_st (fun _ k => XS.aloadN X101.here hx rfl (hb hby d31_5) rfl rfl k) ?_
  show own_Go p e below s _ _ _ (T101.setTop (mkF m 6 #[.val (.ref a1), .val (.ref a2), .val (.int (0 : Int32))] [(.ref a2), (.ref a1)]))
  obtain ⟨T102, h102, X102, e102, W102, st102⟩ := putF X101 hx hZ hown (host := "") (Or.inl (hw _ (List.mem_of_getElem? (i := 28) rfl))) Via.refl e101 F1 E1 (Or.inr ⟨(hw _ (List.mem_of_getElem? (i := 29) rfl)), rfl, hnm⟩) (hw _ (List.mem_of_getElem? (i := 2) rfl)) (ty := (.array .byte)) (by decide) rfl rfl (g := (mkF m 6 #[.val (.ref a1), .val (.ref a2), .val (.int (0 : Int32))] [(.ref a2), (.ref a1)])) rfl rfl (hb hby d31_6)
  have F102 := F1.same W102
  have K102 := Keep.of_wr W102
  have N102 := Fr.snoc X102 N0 (by omega : n0 ≤ a1)
  refine own_st st102 ?_
  have zK102 := K102.1
  show own_Go p e below s _ _ _ (T102.setTop (mkF m 9 #[.val (.ref a1), .val (.ref a2), .val (.int (0 : Int32))] []))
  refine own_st (fun _ k => XS.aloadN X102.here hx rfl (hb hby d31_9) rfl rfl k) ?_
  show own_Go p e below s _ _ _ (T102.setTop (mkF m 10 #[.val (.ref a1), .val (.ref a2), .val (.int (0 : Int32))] [(.ref a1)]))
  refine own_st (fun _ k => XS.iloadN X102.here hx rfl (hb hby d31_10) rfl k) ?_
  show own_Go p e below s _ _ _ (T102.setTop (mkF m 11 #[.val (.ref a1), .val (.ref a2), .val (.int (0 : Int32))] [(.int (0 : Int32)), (.ref a1)]))
  have f103 := (F2.other W102 (Or.inr (slot_ne (Or.inr (hw _ (List.mem_of_getElem? (i := 27) rfl))) (Or.inr (hw _ (List.mem_of_getElem? (i := 29) rfl))) (by decide) (t := .byte) (t' := (.array .byte)) (by decide) (by decide))))
  have f104 := (E1.keep ((Keep.refl h0 [a1]).trans K102 (allS (Or.inl (by simp)) all0)))
  obtain ⟨T105, h105, X105, e105, W105, st105⟩ := putFN X102 hx hZ hown (hw _ (List.mem_of_getElem? (i := 26) rfl)) Via.refl e102 f103 f104 (Or.inr ⟨(hw _ (List.mem_of_getElem? (i := 27) rfl)), rfl, hnm⟩) (hw _ (List.mem_of_getElem? (i := 2) rfl)) (ty := .byte) (v' := (.int (0 : Int32))) (by decide) (by decide) (by decide) (g := (mkF m 11 #[.val (.ref a1), .val (.ref a2), .val (.int (0 : Int32))] [(.int (0 : Int32)), (.ref a1)])) rfl rfl (hb hby d31_11)
  have F105 := f103.same W105
  have K105 := Keep.of_wr W105
  have N105 := Fr.snoc X105 N102 (by omega : n0 ≤ a1)
  refine own_st st105 ?_
  have zK105 := K105.1
  show own_Go p e below s _ _ _ (T105.setTop (mkF m 14 #[.val (.ref a1), .val (.ref a2), .val (.int (0 : Int32))] []))
  have f106 := (f104.keep ((Keep.refl h102 [a1]).trans K105 (allS (Or.inl (by simp)) all0)))
  have f107 := (F102.other W105 (Or.inr (slot_ne (Or.inr (hw _ (List.mem_of_getElem? (i := 29) rfl))) (Or.inr (hw _ (List.mem_of_getElem? (i := 27) rfl))) (by decide) (t := (.array .byte)) (t' := .byte) (by decide) (by decide))))
  exact own_retV X105 hx hlk e105 hret (hb hby d31_14) (by decide) (by decide) ⟨rfl, N105, (((Keep.refl h0 [a1]).trans K102 (allS (Or.inl (by simp)) all0)).trans K105 (allS (Or.inl (by simp)) all0)), f106, f107, F105⟩
theorem d26_0 : decode jdk_43_method_47_code 0 = .ok (.iload_n 2, 1) := by decide +kernel
theorem d26_1 : decode jdk_43_method_47_code 1 = .ok (.ifCond .ne 6, 3) := by decide +kernel
theorem d26_7 : decode jdk_43_method_47_code 7 = .ok (.new 1, 3) := by decide +kernel
theorem d26_10 : decode jdk_43_method_47_code 10 = .ok (.dup, 1) := by decide +kernel
theorem d26_11 : decode jdk_43_method_47_code 11 = .ok (.aload_n 0, 1) := by decide +kernel
theorem d26_12 : decode jdk_43_method_47_code 12 = .ok (.iload_n 1, 1) := by decide +kernel
theorem d26_13 : decode jdk_43_method_47_code 13 = .ok (.iload_n 1, 1) := by decide +kernel
theorem d26_14 : decode jdk_43_method_47_code 14 = .ok (.iload_n 2, 1) := by decide +kernel
theorem d26_15 : decode jdk_43_method_47_code 15 = .ok (.iadd, 1) := by decide +kernel
theorem d26_16 : decode jdk_43_method_47_code 16 = .ok (.invokestatic 232, 3) := by decide +kernel
theorem d26_19 : decode jdk_43_method_47_code 19 = .ok (.iconst 0, 1) := by decide +kernel
theorem pd__28_5bBB_29V : parseMethodDescriptor "([BB)V" = some ⟨[(.array .byte), .byte], none⟩ := by decide +kernel
theorem d26_20 : decode jdk_43_method_47_code 20 = .ok (.invokespecial 112, 3) := by decide +kernel
theorem d26_23 : decode jdk_43_method_47_code 23 = .ok (.areturn, 1) := by decide +kernel
theorem ef_nsW (m : MethodId) (x0 : Addr) (x1 : Int32) (x2 : Int32) : entryFrame m #[(.ref x0), (.int x1), (.int x2)] 3 = mkF m 0 #[.val (.ref x0), .val (.int x1), .val (.int x2)] [] := by (first | (simp [entryFrame, mkF, argsToLocals, Value.category]; done) | rfl)
abbrev nsWR : Room := { frames := 3, cells := 2, slots := 8, locals := 72 }
set_option maxRecDepth 65536 in
set_option maxHeartbeats 40000000 in
theorem nsW (l : Launch) (Z : State) (a0 : Array Value) (hw : ∀ d ∈ tables_1, d.before a0 Z = true) (a1 : Nat) (k1 : ClassId) (cs : List Int32) (i n : Nat) (h0 : Heap) (n0 : Nat) (O0 : Old Z n0 h0) (hn : 0 < n) (hin : i + n ≤ cs.length) (hk : cs.length ≤ 4) (hne : ¬ (i = 0 ∧ n = cs.length)) (hbd : ∀ c ∈ cs, ¬ c < 0 ∧ ¬ (255 : Int32) < c) (V1 : Arv Z h0 a1 k1 .byte (Int32.ofNat cs.length) (cs.map fun c => Value.int (StrChars.lo8 c)) (.int 0)) :
    own_C l Z (⟨"java/lang/StringLatin1", "newString", "([BII)Ljava/lang/String;"⟩ : MethodName) jdk_43_method_47_code 3 (some (.object "java/lang/String")) [] nsWR #[(.ref a1), (.int (Int32.ofNat i)), (.int (Int32.ofNat n))] h0 (fun v h L => Fr n0 L ∧ ∃ b : Nat, v = some (.ref b) ∧ Keep h0 h [] ∧ h0.size ≤ b ∧ own_Str Z h b ((cs.drop i).take n)) := by
  refine own_body (plainFor_of_name pn_java_lang_StringLatin1) ?_
  intro p e s m below meth c T0 X0 hx hby hml hZ hown hnm hret hlk e0
  have N0 := Fr.nil n0
  have zO := own_old O0
  refine own_st (fun _ k => castTop (ef_nsW m a1 (Int32.ofNat i) (Int32.ofNat n)) k) ?_
  show own_Go p e below s _ _ _ (T0.setTop (mkF m 0 #[.val (.ref a1), .val (.int (Int32.ofNat i)), .val (.int (Int32.ofNat n))] []))
  refine own_st (fun _ k => XS.iloadN X0.here hx rfl (hb hby d26_0) rfl k) ?_
  show own_Go p e below s _ _ _ (T0.setTop (mkF m 1 #[.val (.ref a1), .val (.int (Int32.ofNat i)), .val (.int (Int32.ofNat n))] [(.int (Int32.ofNat n))]))
  refine own_st (fun _ k => XS.ifYes X0.here hx rfl (pc0 := 1) (pc' := 7) rfl (hb hby d26_1) rfl ((if0 _ _).trans (feq (fun q => absurd ((own_nin (by omega) (by omega : 0 < 2147483648)).mp q) (by omega))).2) (by decide) (by decide) k) ?_
  show own_Go p e below s _ _ _ (T0.setTop (mkF m 7 #[.val (.ref a1), .val (.int (Int32.ofNat i)), .val (.int (Int32.ofNat n))] []))
  obtain ⟨T101, h101, X101, e101, E101, A101, D101, -, st101⟩ := newO X0 hx hZ hown (hw _ (List.mem_of_getElem? (i := 117) rfl)) (hw _ (List.mem_of_getElem? (i := 2) rfl)) (hw _ (List.mem_of_getElem? (i := 3) rfl)) e0 (g := (mkF m 7 #[.val (.ref a1), .val (.int (Int32.ofNat i)), .val (.int (Int32.ofNat n))] [])) rfl (hb hby d26_7) (by decide) (by decide)
  obtain ⟨b101, g101⟩ : ∃ z, z = h0.size := ⟨_, rfl⟩
  rw [← g101] at A101 D101 st101
  have K101 : Keep h0 h101 [] := (Keep.refl _ _).ext E101
  have l101 : b101 < h101.size := A101.lt
  refine own_st st101 ?_
  have zK101 := K101.1
  show own_Go p e below s _ _ _ (T101.setTop (mkF m 10 #[.val (.ref a1), .val (.int (Int32.ofNat i)), .val (.int (Int32.ofNat n))] [(.ref b101)]))
  refine own_st (fun _ k => XS.dup X101.here hx rfl (hb hby d26_10) rfl rfl k) ?_
  show own_Go p e below s _ _ _ (T101.setTop (mkF m 11 #[.val (.ref a1), .val (.int (Int32.ofNat i)), .val (.int (Int32.ofNat n))] [(.ref b101), (.ref b101)]))
  refine own_st (fun _ k => XS.aloadN X101.here hx rfl (hb hby d26_11) rfl rfl k) ?_
  show own_Go p e below s _ _ _ (T101.setTop (mkF m 12 #[.val (.ref a1), .val (.int (Int32.ofNat i)), .val (.int (Int32.ofNat n))] [(.ref a1), (.ref b101), (.ref b101)]))
  refine own_st (fun _ k => XS.iloadN X101.here hx rfl (hb hby d26_12) rfl k) ?_
  show own_Go p e below s _ _ _ (T101.setTop (mkF m 13 #[.val (.ref a1), .val (.int (Int32.ofNat i)), .val (.int (Int32.ofNat n))] [(.int (Int32.ofNat i)), (.ref a1), (.ref b101), (.ref b101)]))
  refine own_st (fun _ k => XS.iloadN X101.here hx rfl (hb hby d26_13) rfl k) ?_
  show own_Go p e below s _ _ _ (T101.setTop (mkF m 14 #[.val (.ref a1), .val (.int (Int32.ofNat i)), .val (.int (Int32.ofNat n))] [(.int (Int32.ofNat i)), (.int (Int32.ofNat i)), (.ref a1), (.ref b101), (.ref b101)]))
  refine own_st (fun _ k => XS.iloadN X101.here hx rfl (hb hby d26_14) rfl k) ?_
  show own_Go p e below s _ _ _ (T101.setTop (mkF m 15 #[.val (.ref a1), .val (.int (Int32.ofNat i)), .val (.int (Int32.ofNat n))] [(.int (Int32.ofNat n)), (.int (Int32.ofNat i)), (.int (Int32.ofNat i)), (.ref a1), (.ref b101), (.ref b101)]))
  refine own_st (fun _ k => XS.iadd X101.here hx rfl (hb hby d26_15) rfl k) ?_
  show own_Go p e below s _ _ _ (T101.setTop (mkF m 16 #[.val (.ref a1), .val (.int (Int32.ofNat i)), .val (.int (Int32.ofNat n))] [(.int ((Int32.ofNat i) + (Int32.ofNat n))), (.int (Int32.ofNat i)), (.ref a1), (.ref b101), (.ref b101)]))
  rw [own_nadd (by omega)]
  show own_Go p e below s _ _ _ (T101.setTop (mkF m 16 #[.val (.ref a1), .val (.int (Int32.ofNat i)), .val (.int (Int32.ofNat n))] [(.int (Int32.ofNat (i + n))), (.int (Int32.ofNat i)), (.ref a1), (.ref b101), (.ref b101)]))
  have O102 : Old Z n0 h101 := O0.keep ((Keep.refl h0 []).trans K101 all0) all0
  have f103 := (V1.keep ((Keep.refl h0 []).trans K101 all0) nin0)
  obtain ⟨T104, v104, L104, h104, X104, e104, q104, st104⟩ := own_callS X101 hx hZ (y := (⟨"java/util/Arrays", "copyOfRange", "([BII)[B"⟩ : MethodName)) hown (hw _ (List.mem_of_getElem? (i := 118) rfl)) (hw _ (List.mem_of_getElem? (i := 119) rfl)) (hw _ (List.mem_of_getElem? (i := 120) rfl)) (hw _ (List.mem_of_getElem? (i := 121) rfl)) (by decide) (own_bk (W := 2) (crW l Z a0 hw a1 _ _ i (i + n) cs.length h101 n0 O102 (Nat.le_add_right _ _) hin hk (by simp) f103 (fun q => hne ⟨q.1, by omega⟩)) hZ (hw _ (List.mem_of_getElem? (i := 121) rfl)) (hw _ (List.mem_of_getElem? (i := 120) rfl)) (by decide) (by decide)) e101 (by decide) (by decide) (g := (mkF m 16 #[.val (.ref a1), .val (.int (Int32.ofNat i)), .val (.int (Int32.ofNat n))] [(.int (Int32.ofNat (i + n))), (.int (Int32.ofNat i)), (.ref a1), (.ref b101), (.ref b101)])) rfl (by rw [hml]; rfl) (argsL := [(.ref a1), (.int (Int32.ofNat i)), (.int (Int32.ofNat (i + n)))]) (rest := [(.ref b101), (.ref b101)]) (lenOf pd__28_5bBII_29_5bB rfl) rfl rfl (by show 2 * 0 + _ ≤ _; exact Nat.le_of_eq rfl) (hb hby d26_16)
  obtain ⟨N104q, b104, k104, rfl, K104, zb104, zc104, V104⟩ := q104
  refine own_st st104 ?_
  have zK104 := K104.1
  have N104 := Fr.app N0 N104q
  show own_Go p e below s _ _ _ (T104.setTop (mkF m 19 #[.val (.ref a1), .val (.int (Int32.ofNat i)), .val (.int (Int32.ofNat n))] [(.ref b104), (.ref b101), (.ref b101)]))
  refine own_st (fun _ k => XS.iconst X104.here hx rfl (hb hby d26_19) k) ?_
  show own_Go p e below s _ _ _ (T104.setTop (mkF m 20 #[.val (.ref a1), .val (.int (Int32.ofNat i)), .val (.int (Int32.ofNat n))] [(.int (0 : Int32)), (.ref b104), (.ref b101), (.ref b101)]))
  have O105 : Old Z n0 h104 := O102.keep ((Keep.refl h101 []).trans K104 all0) all0
  have F_value_b101 : Fld Z h101 b101 "java/lang/String" "value" "[B" .null := D101 (Or.inr (hw _ (List.mem_of_getElem? (i := 29) rfl))) (ty := (.array .byte)) (by decide)
  have F_coder_b101 : Fld Z h101 b101 "java/lang/String" "coder" "B" (.int (0 : Int32)) := D101 (Or.inr (hw _ (List.mem_of_getElem? (i := 27) rfl))) (ty := .byte) (by decide)
  have f106 := (A101.keep ((Keep.refl h101 []).trans K104 all0))
  have f107 := (F_value_b101.keep ((Keep.refl h101 []).trans K104 all0) nin0)
  have f108 := (F_coder_b101.keep ((Keep.refl h101 []).trans K104 all0) nin0)
  obtain ⟨T109, v109, L109, h109, X109, e109, q109, st109⟩ := own_callI X104 hx hZ (y := (⟨"java/lang/String", "<init>", "([BB)V"⟩ : MethodName)) rfl hown (hw _ (List.mem_of_getElem? (i := 136) rfl)) (hw _ (List.mem_of_getElem? (i := 137) rfl)) (hw _ (List.mem_of_getElem? (i := 138) rfl)) (by decide) (own_bk (W := 1) (sbI l Z a0 hw b101 b104 _ _ h104 n0 O105 f106 (by omega) f107 f108) hZ (hw _ (List.mem_of_getElem? (i := 138) rfl)) (hw _ (List.mem_of_getElem? (i := 3) rfl)) (by decide) (by decide)) e104 (by decide) (by decide) (g := (mkF m 20 #[.val (.ref a1), .val (.int (Int32.ofNat i)), .val (.int (Int32.ofNat n))] [(.int (0 : Int32)), (.ref b104), (.ref b101), (.ref b101)])) rfl (by rw [hml]; rfl) (a := b101) (argsL := [(.ref b104), (.int (0 : Int32))]) (rest := [(.ref b101)]) (lenOf pd__28_5bBB_29V rfl) rfl rfl (by show 2 * 0 + _ ≤ _; exact Nat.le_of_eq rfl) (hb hby d26_20)
  obtain ⟨rfl, N109q, K109, A109, Fa109, Fb109⟩ := q109
  refine own_st st109 ?_
  have zK109 := K109.1
  have N109 := Fr.app N104 N109q
  show own_Go p e below s _ _ _ (T109.setTop (mkF m 23 #[.val (.ref a1), .val (.int (Int32.ofNat i)), .val (.int (Int32.ofNat n))] [(.ref b101)]))
  have f111 := (V104.keep ((Keep.refl h104 [b101]).trans K109 (allS (Or.inl (by simp)) all0)) (own_ninS (by omega) nin0))
  have V110 := f111
  rw [Nat.add_sub_cancel_left, own_mapdt] at V110
  have elV110 : ((cs.drop i).take n).length = n := by rw [List.length_take, List.length_drop]; omega
  exact own_ret X109 hx hlk e109 hret rfl (Or.inr (Or.inr (Or.inr (Or.inr ⟨rfl, rfl, rfl⟩)))) (hb hby d26_23) (by decide) (by decide) ⟨N109, b101, rfl, ((((Keep.refl h0 []).trans K101 all0).trans K104 all0).trans K109 (allS (Or.inr (by omega)) all0)), by omega, A109, b104, _, 0, _, _, Fa109, Fb109, V110, Or.inl ⟨rfl, by rw [elV110], rfl, fun c hc => (hbd c (own_memdt hc)).2⟩, fun c hc => own_up1 (hbd c (own_memdt hc)), by omega⟩
theorem d12_0 : decode jdk_43_method_39_code 0 = .ok (.aload_n 0, 1) := by decide +kernel
theorem pd__28_5bB_29I : parseMethodDescriptor "([B)I" = some ⟨[(.array .byte)], some .int⟩ := by decide +kernel
theorem d12_1 : decode jdk_43_method_39_code 1 = .ok (.invokestatic 214, 3) := by decide +kernel
theorem d12_4 : decode jdk_43_method_39_code 4 = .ok (.istore_n 1, 1) := by decide +kernel
theorem d12_5 : decode jdk_43_method_39_code 5 = .ok (.iload_n 1, 1) := by decide +kernel
theorem d12_6 : decode jdk_43_method_39_code 6 = .ok (.aload_n 0, 1) := by decide +kernel
theorem d12_7 : decode jdk_43_method_39_code 7 = .ok (.arraylength, 1) := by decide +kernel
theorem d12_8 : decode jdk_43_method_39_code 8 = .ok (.if_icmp .ne 6, 3) := by decide +kernel
theorem d12_14 : decode jdk_43_method_39_code 14 = .ok (.aload_n 0, 1) := by decide +kernel
theorem d12_15 : decode jdk_43_method_39_code 15 = .ok (.invokestatic 217, 3) := by decide +kernel
theorem d12_18 : decode jdk_43_method_39_code 18 = .ok (.istore_n 2, 1) := by decide +kernel
theorem d12_19 : decode jdk_43_method_39_code 19 = .ok (.iload_n 1, 1) := by decide +kernel
theorem d12_20 : decode jdk_43_method_39_code 20 = .ok (.ifCond .gt 9, 3) := by decide +kernel
theorem d12_29 : decode jdk_43_method_39_code 29 = .ok (.iconst 1, 1) := by decide +kernel
theorem d12_30 : decode jdk_43_method_39_code 30 = .ok (.goto 4, 3) := by decide +kernel
theorem d12_34 : decode jdk_43_method_39_code 34 = .ok (.istore_n 3, 1) := by decide +kernel
theorem d12_35 : decode jdk_43_method_39_code 35 = .ok (.iload_n 3, 1) := by decide +kernel
theorem d12_36 : decode jdk_43_method_39_code 36 = .ok (.ifCond .eq 14, 3) := by decide +kernel
theorem d12_39 : decode jdk_43_method_39_code 39 = .ok (.aload_n 0, 1) := by decide +kernel
theorem d12_40 : decode jdk_43_method_39_code 40 = .ok (.iload_n 1, 1) := by decide +kernel
theorem d12_41 : decode jdk_43_method_39_code 41 = .ok (.iload_n 2, 1) := by decide +kernel
theorem d12_42 : decode jdk_43_method_39_code 42 = .ok (.iload_n 1, 1) := by decide +kernel
theorem d12_43 : decode jdk_43_method_39_code 43 = .ok (.isub, 1) := by decide +kernel
theorem pd__28_5bBII_29Ljava_2flang_2fString_3b : parseMethodDescriptor "([BII)Ljava/lang/String;" = some ⟨[(.array .byte), .int, .int], some (.object "java/lang/String")⟩ := by decide +kernel
theorem d12_44 : decode jdk_43_method_39_code 44 = .ok (.invokestatic 210, 3) := by decide +kernel
theorem d12_47 : decode jdk_43_method_39_code 47 = .ok (.goto 4, 3) := by decide +kernel
theorem d12_51 : decode jdk_43_method_39_code 51 = .ok (.areturn, 1) := by decide +kernel
theorem d12_23 : decode jdk_43_method_39_code 23 = .ok (.iload_n 2, 1) := by decide +kernel
theorem d12_24 : decode jdk_43_method_39_code 24 = .ok (.aload_n 0, 1) := by decide +kernel
theorem d12_25 : decode jdk_43_method_39_code 25 = .ok (.arraylength, 1) := by decide +kernel
theorem d12_26 : decode jdk_43_method_39_code 26 = .ok (.if_icmp .ge 7, 3) := by decide +kernel
theorem d12_33 : decode jdk_43_method_39_code 33 = .ok (.iconst 0, 1) := by decide +kernel
theorem d12_50 : decode jdk_43_method_39_code 50 = .ok (.aconst_null, 1) := by decide +kernel
theorem ef_sl1 (m : MethodId) (x0 : Addr) : entryFrame m #[(.ref x0)] 4 = mkF m 0 #[.val (.ref x0), .unset, .unset, .unset] [] := by (first | (simp [entryFrame, mkF, argsToLocals, Value.category]; done) | rfl)
abbrev sl1R : Room := { frames := 4, cells := 2, slots := 8, locals := 86 }
set_option maxRecDepth 65536 in
set_option maxHeartbeats 40000000 in
theorem sl1 (l : Launch) (Z : State) (a0 : Array Value) (hw : ∀ d ∈ tables_1, d.before a0 Z = true) (a1 : Nat) (k1 : ClassId) (cs : List Int32) (f l1 : Nat) (h0 : Heap) (n0 : Nat) (O0 : Old Z n0 h0) (CDs : own_CD Z) (hk : cs.length ≤ 4) (hbd : ∀ c ∈ cs, ¬ c < 0 ∧ ¬ (255 : Int32) < c) (V1 : Arv Z h0 a1 k1 .byte (Int32.ofNat cs.length) (cs.map fun c => Value.int (StrChars.lo8 c)) (.int 0)) (hf : f < cs.length) (hf1 : ∀ j, j < f → own_ws (cs.getD j 0)) (hf2 : ¬ own_ws (cs.getD f 0)) (hl0 : f < l1) (hl : l1 ≤ cs.length) (hl1 : ∀ j, l1 ≤ j → j < cs.length → own_ws (cs.getD j 0)) (hl2 : ¬ own_ws (cs.getD (l1 - 1) 0)) :
    own_C l Z (⟨"java/lang/StringLatin1", "strip", "([B)Ljava/lang/String;"⟩ : MethodName) jdk_43_method_39_code 4 (some (.object "java/lang/String")) [] sl1R #[(.ref a1)] h0 (fun v h L => Fr n0 L ∧ Keep h0 h [] ∧ ((f = 0 ∧ l1 = cs.length ∧ v = some .null) ∨ ∃ b : Nat, v = some (.ref b) ∧ own_Str Z h b ((cs.drop f).take (l1 - f)))) := by
  refine own_body (plainFor_of_name pn_java_lang_StringLatin1) ?_
  intro p e s m below meth c T0 X0 hx hby hml hZ hown hnm hret hlk e0
  have N0 := Fr.nil n0
  have zO := own_old O0
  refine own_st (fun _ k => castTop (ef_sl1 m a1) k) ?_
  show own_Go p e below s _ _ _ (T0.setTop (mkF m 0 #[.val (.ref a1), .unset, .unset, .unset] []))
  refine own_st (fun _ k => XS.aloadN X0.here hx rfl (hb hby d12_0) rfl rfl k) ?_
  show own_Go p e below s _ _ _ (T0.setTop (mkF m 1 #[.val (.ref a1), .unset, .unset, .unset] [(.ref a1)]))
  obtain ⟨T101, v101, L101, h101, X101, e101, q101, st101⟩ := own_callS X0 hx hZ (y := (⟨"java/lang/StringLatin1", "indexOfNonWhitespace", "([B)I"⟩ : MethodName)) hown (hw _ (List.mem_of_getElem? (i := 58) rfl)) (hw _ (List.mem_of_getElem? (i := 59) rfl)) (hw _ (List.mem_of_getElem? (i := 56) rfl)) (hw _ (List.mem_of_getElem? (i := 60) rfl)) (by decide) (own_bk (W := 0) (ixW l Z a0 hw a1 _ cs f h0 n0 O0 CDs hk hbd V1 hf hf1 hf2) hZ (hw _ (List.mem_of_getElem? (i := 60) rfl)) (hw _ (List.mem_of_getElem? (i := 56) rfl)) (by decide) (by decide)) e0 (by decide) (by decide) (g := (mkF m 1 #[.val (.ref a1), .unset, .unset, .unset] [(.ref a1)])) rfl (by rw [hml]; rfl) (argsL := [(.ref a1)]) (rest := []) (lenOf pd__28_5bB_29I rfl) rfl rfl (by show 2 * 0 + _ ≤ _; exact Nat.le_of_eq rfl) (hb hby d12_1)
  obtain ⟨rfl, N101q, hq101⟩ := q101
  replace e101 := e101.trans hq101
  refine own_st st101 ?_
  have N101 := Fr.app N0 N101q
  show own_Go p e below s _ _ _ (T101.setTop (mkF m 4 #[.val (.ref a1), .unset, .unset, .unset] [(.int (Int32.ofNat f))]))
  refine own_st (fun _ k => XS.istoreN X101.here hx rfl (hb hby d12_4) rfl (l' := #[.val (.ref a1), .val (.int (Int32.ofNat f)), .unset, .unset]) rfl k) ?_
  show own_Go p e below s _ _ _ (T101.setTop (mkF m 5 #[.val (.ref a1), .val (.int (Int32.ofNat f)), .unset, .unset] []))
  refine own_st (fun _ k => XS.iloadN X101.here hx rfl (hb hby d12_5) rfl k) ?_
  show own_Go p e below s _ _ _ (T101.setTop (mkF m 6 #[.val (.ref a1), .val (.int (Int32.ofNat f)), .unset, .unset] [(.int (Int32.ofNat f))]))
  refine own_st (fun _ k => XS.aloadN X101.here hx rfl (hb hby d12_6) rfl rfl k) ?_
  show own_Go p e below s _ _ _ (T101.setTop (mkF m 7 #[.val (.ref a1), .val (.int (Int32.ofNat f)), .unset, .unset] [(.ref a1), (.int (Int32.ofNat f))]))
  obtain ⟨c102, Ar102, q102, S102, M102, H102, U102⟩ := id V1
  refine own_st (X101.arraylength hx (by rw [e101]; exact Ar102.1) (State.isArrayOf_alike hZ.alike Ar102.2.1) (g := (mkF m 7 #[.val (.ref a1), .val (.int (Int32.ofNat f)), .unset, .unset] [(.ref a1), (.int (Int32.ofNat f))])) rfl rfl (hb hby d12_7)) ?_
  rw [len_of S102 M102]
  show own_Go p e below s _ _ _ (T101.setTop (mkF m 8 #[.val (.ref a1), .val (.int (Int32.ofNat f)), .unset, .unset] [(.int (Int32.ofNat cs.length)), (.int (Int32.ofNat f))]))
  refine own_st (fun _ k => XS.icmpYes X101.here hx rfl (pc0 := 8) (pc' := 14) rfl (hb hby d12_8) rfl (feq (fun q => absurd ((own_nin (by omega) (by omega)).mp q) (by omega))).2 (by decide) (by decide) k) ?_
  show own_Go p e below s _ _ _ (T101.setTop (mkF m 14 #[.val (.ref a1), .val (.int (Int32.ofNat f)), .unset, .unset] []))
  refine own_st (fun _ k => XS.aloadN X101.here hx rfl (hb hby d12_14) rfl rfl k) ?_
  show own_Go p e below s _ _ _ (T101.setTop (mkF m 15 #[.val (.ref a1), .val (.int (Int32.ofNat f)), .unset, .unset] [(.ref a1)]))
  obtain ⟨T103, v103, L103, h103, X103, e103, q103, st103⟩ := own_callS X101 hx hZ (y := (⟨"java/lang/StringLatin1", "lastIndexOfNonWhitespace", "([B)I"⟩ : MethodName)) hown (hw _ (List.mem_of_getElem? (i := 77) rfl)) (hw _ (List.mem_of_getElem? (i := 78) rfl)) (hw _ (List.mem_of_getElem? (i := 56) rfl)) (hw _ (List.mem_of_getElem? (i := 79) rfl)) (by decide) (own_bk (W := 0) (lxW l Z a0 hw a1 _ cs f l1 h0 n0 O0 CDs hk hbd V1 hl0 hl hl1 hl2) hZ (hw _ (List.mem_of_getElem? (i := 79) rfl)) (hw _ (List.mem_of_getElem? (i := 56) rfl)) (by decide) (by decide)) e101 (by decide) (by decide) (g := (mkF m 15 #[.val (.ref a1), .val (.int (Int32.ofNat f)), .unset, .unset] [(.ref a1)])) rfl (by rw [hml]; rfl) (argsL := [(.ref a1)]) (rest := []) (lenOf pd__28_5bB_29I rfl) rfl rfl (by show 2 * 0 + _ ≤ _; exact Nat.le_of_eq rfl) (hb hby d12_15)
  obtain ⟨rfl, N103q, hq103⟩ := q103
  replace e103 := e103.trans hq103
  refine own_st st103 ?_
  have N103 := Fr.app N101 N103q
  show own_Go p e below s _ _ _ (T103.setTop (mkF m 18 #[.val (.ref a1), .val (.int (Int32.ofNat f)), .unset, .unset] [(.int (Int32.ofNat l1))]))
  refine own_st (fun _ k => XS.istoreN X103.here hx rfl (hb hby d12_18) rfl (l' := #[.val (.ref a1), .val (.int (Int32.ofNat f)), .val (.int (Int32.ofNat l1)), .unset]) rfl k) ?_
  show own_Go p e below s _ _ _ (T103.setTop (mkF m 19 #[.val (.ref a1), .val (.int (Int32.ofNat f)), .val (.int (Int32.ofNat l1)), .unset] []))
  refine own_st (fun _ k => XS.iloadN X103.here hx rfl (hb hby d12_19) rfl k) ?_
  show own_Go p e below s _ _ _ (T103.setTop (mkF m 20 #[.val (.ref a1), .val (.int (Int32.ofNat f)), .val (.int (Int32.ofNat l1)), .unset] [(.int (Int32.ofNat f))]))
  by_cases c104 : (0 : Int32) < (Int32.ofNat f)
  · refine own_st (fun _ k => XS.ifYes X103.here hx rfl (pc0 := 20) (pc' := 29) rfl (hb hby d12_20) rfl ((if0 _ _).trans (tlt c104).2.2.1) (by decide) (by decide) k) ?_
    show own_Go p e below s _ _ _ (T103.setTop (mkF m 29 #[.val (.ref a1), .val (.int (Int32.ofNat f)), .val (.int (Int32.ofNat l1)), .unset] []))
    refine own_st (fun _ k => XS.iconst X103.here hx rfl (hb hby d12_29) k) ?_
    show own_Go p e below s _ _ _ (T103.setTop (mkF m 30 #[.val (.ref a1), .val (.int (Int32.ofNat f)), .val (.int (Int32.ofNat l1)), .unset] [(.int (1 : Int32))]))
    refine own_st (fun _ k => XS.goto X103.here hx rfl (pc0 := 30) (pc' := 34) rfl (hb hby d12_30) (by decide) (by decide) k) ?_
    show own_Go p e below s _ _ _ (T103.setTop (mkF m 34 #[.val (.ref a1), .val (.int (Int32.ofNat f)), .val (.int (Int32.ofNat l1)), .unset] [(.int (1 : Int32))]))
    refine own_st (fun _ k => XS.istoreN X103.here hx rfl (hb hby d12_34) rfl (l' := #[.val (.ref a1), .val (.int (Int32.ofNat f)), .val (.int (Int32.ofNat l1)), .val (.int (1 : Int32))]) rfl k) ?_
    show own_Go p e below s _ _ _ (T103.setTop (mkF m 35 #[.val (.ref a1), .val (.int (Int32.ofNat f)), .val (.int (Int32.ofNat l1)), .val (.int (1 : Int32))] []))
    refine own_st (fun _ k => XS.iloadN X103.here hx rfl (hb hby d12_35) rfl k) ?_
    show own_Go p e below s _ _ _ (T103.setTop (mkF m 36 #[.val (.ref a1), .val (.int (Int32.ofNat f)), .val (.int (Int32.ofNat l1)), .val (.int (1 : Int32))] [(.int (1 : Int32))]))
    refine own_st (fun _ k => XS.ifNo X103.here hx rfl (hb hby d12_36) rfl ((if0 _ _).trans (feq (by decide)).1) k) ?_
    show own_Go p e below s _ _ _ (T103.setTop (mkF m 39 #[.val (.ref a1), .val (.int (Int32.ofNat f)), .val (.int (Int32.ofNat l1)), .val (.int (1 : Int32))] []))
    have nc104 := (own_nlt (a := 0) (b := f) (by omega) (by omega)).mp c104
    refine own_st (fun _ k => XS.aloadN X103.here hx rfl (hb hby d12_39) rfl rfl k) ?_
    show own_Go p e below s _ _ _ (T103.setTop (mkF m 40 #[.val (.ref a1), .val (.int (Int32.ofNat f)), .val (.int (Int32.ofNat l1)), .val (.int (1 : Int32))] [(.ref a1)]))
    refine own_st (fun _ k => XS.iloadN X103.here hx rfl (hb hby d12_40) rfl k) ?_
    show own_Go p e below s _ _ _ (T103.setTop (mkF m 41 #[.val (.ref a1), .val (.int (Int32.ofNat f)), .val (.int (Int32.ofNat l1)), .val (.int (1 : Int32))] [(.int (Int32.ofNat f)), (.ref a1)]))
    refine own_st (fun _ k => XS.iloadN X103.here hx rfl (hb hby d12_41) rfl k) ?_
    show own_Go p e below s _ _ _ (T103.setTop (mkF m 42 #[.val (.ref a1), .val (.int (Int32.ofNat f)), .val (.int (Int32.ofNat l1)), .val (.int (1 : Int32))] [(.int (Int32.ofNat l1)), (.int (Int32.ofNat f)), (.ref a1)]))
    refine own_st (fun _ k => XS.iloadN X103.here hx rfl (hb hby d12_42) rfl k) ?_
    show own_Go p e below s _ _ _ (T103.setTop (mkF m 43 #[.val (.ref a1), .val (.int (Int32.ofNat f)), .val (.int (Int32.ofNat l1)), .val (.int (1 : Int32))] [(.int (Int32.ofNat f)), (.int (Int32.ofNat l1)), (.int (Int32.ofNat f)), (.ref a1)]))
    refine own_st (fun _ k => XS.isub X103.here hx rfl (hb hby d12_43) rfl k) ?_
    show own_Go p e below s _ _ _ (T103.setTop (mkF m 44 #[.val (.ref a1), .val (.int (Int32.ofNat f)), .val (.int (Int32.ofNat l1)), .val (.int (1 : Int32))] [(.int ((Int32.ofNat l1) - (Int32.ofNat f))), (.int (Int32.ofNat f)), (.ref a1)]))
    rw [own_nsub (show f ≤ l1 from by omega) (by omega)]
    show own_Go p e below s _ _ _ (T103.setTop (mkF m 44 #[.val (.ref a1), .val (.int (Int32.ofNat f)), .val (.int (Int32.ofNat l1)), .val (.int (1 : Int32))] [(.int (Int32.ofNat (l1 - f))), (.int (Int32.ofNat f)), (.ref a1)]))
    obtain ⟨T105, v105, L105, h105, X105, e105, q105, st105⟩ := own_callS X103 hx hZ (y := (⟨"java/lang/StringLatin1", "newString", "([BII)Ljava/lang/String;"⟩ : MethodName)) hown (hw _ (List.mem_of_getElem? (i := 114) rfl)) (hw _ (List.mem_of_getElem? (i := 115) rfl)) (hw _ (List.mem_of_getElem? (i := 56) rfl)) (hw _ (List.mem_of_getElem? (i := 116) rfl)) (by decide) (own_bk (W := 0) (nsW l Z a0 hw a1 _ cs f (l1 - f) h0 n0 O0 (by omega) (by omega) hk (by omega) hbd V1) hZ (hw _ (List.mem_of_getElem? (i := 116) rfl)) (hw _ (List.mem_of_getElem? (i := 56) rfl)) (by decide) (by decide)) e103 (by decide) (by decide) (g := (mkF m 44 #[.val (.ref a1), .val (.int (Int32.ofNat f)), .val (.int (Int32.ofNat l1)), .val (.int (1 : Int32))] [(.int (Int32.ofNat (l1 - f))), (.int (Int32.ofNat f)), (.ref a1)])) rfl (by rw [hml]; rfl) (argsL := [(.ref a1), (.int (Int32.ofNat f)), (.int (Int32.ofNat (l1 - f)))]) (rest := []) (lenOf pd__28_5bBII_29Ljava_2flang_2fString_3b rfl) rfl rfl (by show 2 * 0 + _ ≤ _; exact Nat.le_of_eq rfl) (hb hby d12_44)
    obtain ⟨N105q, b105, rfl, K105, zb105, S105⟩ := q105
    refine own_st st105 ?_
    have zK105 := K105.1
    have N105 := Fr.app N103 N105q
    have A105 := S105.1
    show own_Go p e below s _ _ _ (T105.setTop (mkF m 47 #[.val (.ref a1), .val (.int (Int32.ofNat f)), .val (.int (Int32.ofNat l1)), .val (.int (1 : Int32))] [(.ref b105)]))
    refine own_st (fun _ k => XS.goto X105.here hx rfl (pc0 := 47) (pc' := 51) rfl (hb hby d12_47) (by decide) (by decide) k) ?_
    show own_Go p e below s _ _ _ (T105.setTop (mkF m 51 #[.val (.ref a1), .val (.int (Int32.ofNat f)), .val (.int (Int32.ofNat l1)), .val (.int (1 : Int32))] [(.ref b105)]))
    exact own_ret X105 hx hlk e105 hret rfl (Or.inr (Or.inr (Or.inr (Or.inr ⟨rfl, rfl, rfl⟩)))) (hb hby d12_51) (by decide) (by decide) ⟨N105, ((Keep.refl h0 []).trans K105 all0), Or.inr ⟨b105, rfl, S105⟩⟩
  · refine own_st (fun _ k => XS.ifNo X103.here hx rfl (hb hby d12_20) rfl ((if0 _ _).trans (flt c104).2.2.1) k) ?_
    show own_Go p e below s _ _ _ (T103.setTop (mkF m 23 #[.val (.ref a1), .val (.int (Int32.ofNat f)), .val (.int (Int32.ofNat l1)), .unset] []))
    refine own_st (fun _ k => XS.iloadN X103.here hx rfl (hb hby d12_23) rfl k) ?_
    show own_Go p e below s _ _ _ (T103.setTop (mkF m 24 #[.val (.ref a1), .val (.int (Int32.ofNat f)), .val (.int (Int32.ofNat l1)), .unset] [(.int (Int32.ofNat l1))]))
    refine own_st (fun _ k => XS.aloadN X103.here hx rfl (hb hby d12_24) rfl rfl k) ?_
    show own_Go p e below s _ _ _ (T103.setTop (mkF m 25 #[.val (.ref a1), .val (.int (Int32.ofNat f)), .val (.int (Int32.ofNat l1)), .unset] [(.ref a1), (.int (Int32.ofNat l1))]))
    obtain ⟨c106, Ar106, q106, S106, M106, H106, U106⟩ := id V1
    refine own_st (X103.arraylength hx (by rw [e103]; exact Ar106.1) (State.isArrayOf_alike hZ.alike Ar106.2.1) (g := (mkF m 25 #[.val (.ref a1), .val (.int (Int32.ofNat f)), .val (.int (Int32.ofNat l1)), .unset] [(.ref a1), (.int (Int32.ofNat l1))])) rfl rfl (hb hby d12_25)) ?_
    rw [len_of S106 M106]
    show own_Go p e below s _ _ _ (T103.setTop (mkF m 26 #[.val (.ref a1), .val (.int (Int32.ofNat f)), .val (.int (Int32.ofNat l1)), .unset] [(.int (Int32.ofNat cs.length)), (.int (Int32.ofNat l1))]))
    by_cases c107 : (Int32.ofNat l1) < (Int32.ofNat cs.length)
    · refine own_st (fun _ k => XS.icmpNo X103.here hx rfl (hb hby d12_26) rfl (tlt c107).2.1 k) ?_
      show own_Go p e below s _ _ _ (T103.setTop (mkF m 29 #[.val (.ref a1), .val (.int (Int32.ofNat f)), .val (.int (Int32.ofNat l1)), .unset] []))
      refine own_st (fun _ k => XS.iconst X103.here hx rfl (hb hby d12_29) k) ?_
      show own_Go p e below s _ _ _ (T103.setTop (mkF m 30 #[.val (.ref a1), .val (.int (Int32.ofNat f)), .val (.int (Int32.ofNat l1)), .unset] [(.int (1 : Int32))]))
      refine own_st (fun _ k => XS.goto X103.here hx rfl (pc0 := 30) (pc' := 34) rfl (hb hby d12_30) (by decide) (by decide) k) ?_
      show own_Go p e below s _ _ _ (T103.setTop (mkF m 34 #[.val (.ref a1), .val (.int (Int32.ofNat f)), .val (.int (Int32.ofNat l1)), .unset] [(.int (1 : Int32))]))
      refine own_st (fun _ k => XS.istoreN X103.here hx rfl (hb hby d12_34) rfl (l' := #[.val (.ref a1), .val (.int (Int32.ofNat f)), .val (.int (Int32.ofNat l1)), .val (.int (1 : Int32))]) rfl k) ?_
      show own_Go p e below s _ _ _ (T103.setTop (mkF m 35 #[.val (.ref a1), .val (.int (Int32.ofNat f)), .val (.int (Int32.ofNat l1)), .val (.int (1 : Int32))] []))
      refine own_st (fun _ k => XS.iloadN X103.here hx rfl (hb hby d12_35) rfl k) ?_
      show own_Go p e below s _ _ _ (T103.setTop (mkF m 36 #[.val (.ref a1), .val (.int (Int32.ofNat f)), .val (.int (Int32.ofNat l1)), .val (.int (1 : Int32))] [(.int (1 : Int32))]))
      refine own_st (fun _ k => XS.ifNo X103.here hx rfl (hb hby d12_36) rfl ((if0 _ _).trans (feq (by decide)).1) k) ?_
      show own_Go p e below s _ _ _ (T103.setTop (mkF m 39 #[.val (.ref a1), .val (.int (Int32.ofNat f)), .val (.int (Int32.ofNat l1)), .val (.int (1 : Int32))] []))
      have nc104 := own_nltN (a := 0) (b := f) (by omega) (by omega) c104
      have nc107 := (own_nlt (by omega) (by omega)).mp c107
      refine own_st (fun _ k => XS.aloadN X103.here hx rfl (hb hby d12_39) rfl rfl k) ?_
      show own_Go p e below s _ _ _ (T103.setTop (mkF m 40 #[.val (.ref a1), .val (.int (Int32.ofNat f)), .val (.int (Int32.ofNat l1)), .val (.int (1 : Int32))] [(.ref a1)]))
      refine own_st (fun _ k => XS.iloadN X103.here hx rfl (hb hby d12_40) rfl k) ?_
      show own_Go p e below s _ _ _ (T103.setTop (mkF m 41 #[.val (.ref a1), .val (.int (Int32.ofNat f)), .val (.int (Int32.ofNat l1)), .val (.int (1 : Int32))] [(.int (Int32.ofNat f)), (.ref a1)]))
      refine own_st (fun _ k => XS.iloadN X103.here hx rfl (hb hby d12_41) rfl k) ?_
      show own_Go p e below s _ _ _ (T103.setTop (mkF m 42 #[.val (.ref a1), .val (.int (Int32.ofNat f)), .val (.int (Int32.ofNat l1)), .val (.int (1 : Int32))] [(.int (Int32.ofNat l1)), (.int (Int32.ofNat f)), (.ref a1)]))
      refine own_st (fun _ k => XS.iloadN X103.here hx rfl (hb hby d12_42) rfl k) ?_
      show own_Go p e below s _ _ _ (T103.setTop (mkF m 43 #[.val (.ref a1), .val (.int (Int32.ofNat f)), .val (.int (Int32.ofNat l1)), .val (.int (1 : Int32))] [(.int (Int32.ofNat f)), (.int (Int32.ofNat l1)), (.int (Int32.ofNat f)), (.ref a1)]))
      refine own_st (fun _ k => XS.isub X103.here hx rfl (hb hby d12_43) rfl k) ?_
      show own_Go p e below s _ _ _ (T103.setTop (mkF m 44 #[.val (.ref a1), .val (.int (Int32.ofNat f)), .val (.int (Int32.ofNat l1)), .val (.int (1 : Int32))] [(.int ((Int32.ofNat l1) - (Int32.ofNat f))), (.int (Int32.ofNat f)), (.ref a1)]))
      rw [own_nsub (show f ≤ l1 from by omega) (by omega)]
      show own_Go p e below s _ _ _ (T103.setTop (mkF m 44 #[.val (.ref a1), .val (.int (Int32.ofNat f)), .val (.int (Int32.ofNat l1)), .val (.int (1 : Int32))] [(.int (Int32.ofNat (l1 - f))), (.int (Int32.ofNat f)), (.ref a1)]))
      obtain ⟨T108, v108, L108, h108, X108, e108, q108, st108⟩ := own_callS X103 hx hZ (y := (⟨"java/lang/StringLatin1", "newString", "([BII)Ljava/lang/String;"⟩ : MethodName)) hown (hw _ (List.mem_of_getElem? (i := 114) rfl)) (hw _ (List.mem_of_getElem? (i := 115) rfl)) (hw _ (List.mem_of_getElem? (i := 56) rfl)) (hw _ (List.mem_of_getElem? (i := 116) rfl)) (by decide) (own_bk (W := 0) (nsW l Z a0 hw a1 _ cs f (l1 - f) h0 n0 O0 (by omega) (by omega) hk (by omega) hbd V1) hZ (hw _ (List.mem_of_getElem? (i := 116) rfl)) (hw _ (List.mem_of_getElem? (i := 56) rfl)) (by decide) (by decide)) e103 (by decide) (by decide) (g := (mkF m 44 #[.val (.ref a1), .val (.int (Int32.ofNat f)), .val (.int (Int32.ofNat l1)), .val (.int (1 : Int32))] [(.int (Int32.ofNat (l1 - f))), (.int (Int32.ofNat f)), (.ref a1)])) rfl (by rw [hml]; rfl) (argsL := [(.ref a1), (.int (Int32.ofNat f)), (.int (Int32.ofNat (l1 - f)))]) (rest := []) (lenOf pd__28_5bBII_29Ljava_2flang_2fString_3b rfl) rfl rfl (by show 2 * 0 + _ ≤ _; exact Nat.le_of_eq rfl) (hb hby d12_44)
      obtain ⟨N108q, b108, rfl, K108, zb108, S108⟩ := q108
      refine own_st st108 ?_
      have zK108 := K108.1
      have N108 := Fr.app N103 N108q
      have A108 := S108.1
      show own_Go p e below s _ _ _ (T108.setTop (mkF m 47 #[.val (.ref a1), .val (.int (Int32.ofNat f)), .val (.int (Int32.ofNat l1)), .val (.int (1 : Int32))] [(.ref b108)]))
      refine own_st (fun _ k => XS.goto X108.here hx rfl (pc0 := 47) (pc' := 51) rfl (hb hby d12_47) (by decide) (by decide) k) ?_
      show own_Go p e below s _ _ _ (T108.setTop (mkF m 51 #[.val (.ref a1), .val (.int (Int32.ofNat f)), .val (.int (Int32.ofNat l1)), .val (.int (1 : Int32))] [(.ref b108)]))
      exact own_ret X108 hx hlk e108 hret rfl (Or.inr (Or.inr (Or.inr (Or.inr ⟨rfl, rfl, rfl⟩)))) (hb hby d12_51) (by decide) (by decide) ⟨N108, ((Keep.refl h0 []).trans K108 all0), Or.inr ⟨b108, rfl, S108⟩⟩
    · refine own_st (fun _ k => XS.icmpYes X103.here hx rfl (pc0 := 26) (pc' := 33) rfl (hb hby d12_26) rfl (flt c107).2.1 (by decide) (by decide) k) ?_
      show own_Go p e below s _ _ _ (T103.setTop (mkF m 33 #[.val (.ref a1), .val (.int (Int32.ofNat f)), .val (.int (Int32.ofNat l1)), .unset] []))
      refine own_st (fun _ k => XS.iconst X103.here hx rfl (hb hby d12_33) k) ?_
      show own_Go p e below s _ _ _ (T103.setTop (mkF m 34 #[.val (.ref a1), .val (.int (Int32.ofNat f)), .val (.int (Int32.ofNat l1)), .unset] [(.int (0 : Int32))]))
      refine own_st (fun _ k => XS.istoreN X103.here hx rfl (hb hby d12_34) rfl (l' := #[.val (.ref a1), .val (.int (Int32.ofNat f)), .val (.int (Int32.ofNat l1)), .val (.int (0 : Int32))]) rfl k) ?_
      show own_Go p e below s _ _ _ (T103.setTop (mkF m 35 #[.val (.ref a1), .val (.int (Int32.ofNat f)), .val (.int (Int32.ofNat l1)), .val (.int (0 : Int32))] []))
      refine own_st (fun _ k => XS.iloadN X103.here hx rfl (hb hby d12_35) rfl k) ?_
      show own_Go p e below s _ _ _ (T103.setTop (mkF m 36 #[.val (.ref a1), .val (.int (Int32.ofNat f)), .val (.int (Int32.ofNat l1)), .val (.int (0 : Int32))] [(.int (0 : Int32))]))
      refine own_st (fun _ k => XS.ifYes X103.here hx rfl (pc0 := 36) (pc' := 50) rfl (hb hby d12_36) rfl ((if0 _ _).trans (teq (by decide)).1) (by decide) (by decide) k) ?_
      show own_Go p e below s _ _ _ (T103.setTop (mkF m 50 #[.val (.ref a1), .val (.int (Int32.ofNat f)), .val (.int (Int32.ofNat l1)), .val (.int (0 : Int32))] []))
      refine own_st (fun _ k => XS.aconstNull X103.here hx rfl (hb hby d12_50) k) ?_
      show own_Go p e below s _ _ _ (T103.setTop (mkF m 51 #[.val (.ref a1), .val (.int (Int32.ofNat f)), .val (.int (Int32.ofNat l1)), .val (.int (0 : Int32))] [.null]))
      have nc104 := own_nltN (a := 0) (b := f) (by omega) (by omega) c104
      have nc107 := own_nltN (by omega) (by omega) c107
      exact own_ret X103 hx hlk e103 hret rfl (Or.inr (Or.inr (Or.inr (Or.inr ⟨rfl, rfl, rfl⟩)))) (hb hby d12_51) (by decide) (by decide) ⟨N103, (Keep.refl h0 []), Or.inl ⟨by omega, by omega, rfl⟩⟩
theorem d10_0 : decode jdk_42_method_114_code 0 = .ok (.aload_n 0, 1) := by decide +kernel
theorem pd__28_29Z : parseMethodDescriptor "()Z" = some ⟨[], some .boolean⟩ := by decide +kernel
theorem d10_1 : decode jdk_42_method_114_code 1 = .ok (.invokevirtual 492, 3) := by decide +kernel
theorem d10_4 : decode jdk_42_method_114_code 4 = .ok (.ifCond .eq 13, 3) := by decide +kernel
theorem d10_7 : decode jdk_42_method_114_code 7 = .ok (.aload_n 0, 1) := by decide +kernel
theorem d10_8 : decode jdk_42_method_114_code 8 = .ok (.getfield 9, 3) := by decide +kernel
theorem pd__28_5bB_29Ljava_2flang_2fString_3b : parseMethodDescriptor "([B)Ljava/lang/String;" = some ⟨[(.array .byte)], some (.object "java/lang/String")⟩ := by decide +kernel
theorem d10_11 : decode jdk_42_method_114_code 11 = .ok (.invokestatic 864, 3) := by decide +kernel
theorem d10_14 : decode jdk_42_method_114_code 14 = .ok (.goto 10, 3) := by decide +kernel
theorem d10_24 : decode jdk_42_method_114_code 24 = .ok (.astore_n 1, 1) := by decide +kernel
theorem d10_25 : decode jdk_42_method_114_code 25 = .ok (.aload_n 1, 1) := by decide +kernel
theorem d10_26 : decode jdk_42_method_114_code 26 = .ok (.ifnonnull 7, 3) := by decide +kernel
theorem d10_29 : decode jdk_42_method_114_code 29 = .ok (.aload_n 0, 1) := by decide +kernel
theorem d10_30 : decode jdk_42_method_114_code 30 = .ok (.goto 4, 3) := by decide +kernel
theorem d10_34 : decode jdk_42_method_114_code 34 = .ok (.areturn, 1) := by decide +kernel
theorem d10_33 : decode jdk_42_method_114_code 33 = .ok (.aload_n 1, 1) := by decide +kernel
theorem ef_stW (m : MethodId) (x0 : Addr) : entryFrame m #[(.ref x0)] 2 = mkF m 0 #[.val (.ref x0), .unset] [] := by (first | (simp [entryFrame, mkF, argsToLocals, Value.category]; done) | rfl)
abbrev stWR : Room := { frames := 5, cells := 2, slots := 8, locals := 101 }
set_option maxRecDepth 65536 in
set_option maxHeartbeats 40000000 in
theorem stW (l : Launch) (Z : State) (a0 : Array Value) (hw : ∀ d ∈ tables_1, d.before a0 Z = true) (a1 : Nat) (cs : List Int32) (f l1 : Nat) (h0 : Heap) (n0 : Nat) (O0 : Old Z n0 h0) (CS : own_CS Z) (CDs : own_CD Z) (hk : cs.length ≤ 4) (hbd : ∀ c ∈ cs, ¬ c < 0 ∧ ¬ (255 : Int32) < c) (hf : f < cs.length) (hf1 : ∀ j, j < f → own_ws (cs.getD j 0)) (hf2 : ¬ own_ws (cs.getD f 0)) (hl0 : f < l1) (hl : l1 ≤ cs.length) (hl1 : ∀ j, l1 ≤ j → j < cs.length → own_ws (cs.getD j 0)) (hl2 : ¬ own_ws (cs.getD (l1 - 1) 0)) (S1 : own_Str Z h0 a1 cs) :
    own_C l Z (⟨"java/lang/String", "strip", "()Ljava/lang/String;"⟩ : MethodName) jdk_42_method_114_code 2 (some (.object "java/lang/String")) [] stWR #[(.ref a1)] h0 (fun v h L => Fr n0 L ∧ Keep h0 h [] ∧ ∃ b : Nat, v = some (.ref b) ∧ own_Str Z h b ((cs.drop f).take (l1 - f))) := by
  refine own_body (plainFor_of_name pn_java_lang_String) ?_
  intro p e s m below meth c T0 X0 hx hby hml hZ hown hnm hret hlk e0
  have N0 := Fr.nil n0
  have zO := own_old O0
  obtain ⟨E1, t1, kb1, cd1, N21, vs1, F1, F2, A1, r1, r2, r3⟩ := id S1
  obtain ⟨rfl, rfl, rfl, -⟩ : cd1 = 0 ∧ N21 = Int32.ofNat cs.length ∧ vs1 = (cs.map fun c => Value.int (StrChars.lo8 c)) ∧ True := by
    rcases r1 with ⟨q1, q2, q3, -⟩ | ⟨-, -, -, c, q1, q2⟩
    · exact ⟨q1, q2, q3, trivial⟩
    · exact absurd q2 (hbd c q1).2
  refine own_st (fun _ k => castTop (ef_stW m a1) k) ?_
  show own_Go p e below s _ _ _ (T0.setTop (mkF m 0 #[.val (.ref a1), .unset] []))
  refine own_st (fun _ k => XS.aloadN X0.here hx rfl (hb hby d10_0) rfl rfl k) ?_
  show own_Go p e below s _ _ _ (T0.setTop (mkF m 1 #[.val (.ref a1), .unset] [(.ref a1)]))
  obtain ⟨T101, v101, L101, h101, X101, e101, q101, st101⟩ := own_callV X0 hx hZ (y := (⟨"java/lang/String", "isLatin1", "()Z"⟩ : MethodName)) (z := (⟨"java/lang/String", "isLatin1", "()Z"⟩ : MethodName)) hown (hw _ (List.mem_of_getElem? (i := 49) rfl)) (hw _ (List.mem_of_getElem? (i := 50) rfl)) (notFace_of_selects (args := #[]) (mvT hZ (hw _ (List.mem_of_getElem? (i := 52) rfl)))) (hw _ (List.mem_of_getElem? (i := 52) rfl)) (hw _ (List.mem_of_getElem? (i := 51) rfl)) (by decide) (own_bk (W := 0) (ilW l Z a0 hw a1 h0 n0 O0 CS F2) hZ (hw _ (List.mem_of_getElem? (i := 53) rfl)) (hw _ (List.mem_of_getElem? (i := 3) rfl)) (by decide) (by decide)) e0 E1 (by decide) (by decide) (g := (mkF m 1 #[.val (.ref a1), .unset] [(.ref a1)])) rfl (by rw [hml]; rfl) (argsL := []) (rest := []) (lenOf pd__28_29Z rfl) rfl rfl (by show 2 * 0 + _ ≤ _; exact Nat.le_of_eq rfl) (hb hby d10_1)
  obtain ⟨rfl, N101q, hq101⟩ := q101
  replace e101 := e101.trans hq101
  refine own_st st101 ?_
  have N101 := Fr.app N0 N101q
  show own_Go p e below s _ _ _ (T101.setTop (mkF m 4 #[.val (.ref a1), .unset] [(.int (1 : Int32))]))
  refine own_st (fun _ k => XS.ifNo X101.here hx rfl (hb hby d10_4) rfl ((if0 _ _).trans (feq (by decide)).1) k) ?_
  show own_Go p e below s _ _ _ (T101.setTop (mkF m 7 #[.val (.ref a1), .unset] []))
  refine own_st (fun _ k => XS.aloadN X101.here hx rfl (hb hby d10_7) rfl rfl k) ?_
  show own_Go p e below s _ _ _ (T101.setTop (mkF m 8 #[.val (.ref a1), .unset] [(.ref a1)]))
  obtain ⟨T102, X102, e102, st102⟩ := getF X101 hx hZ hown (host := "") (Or.inl (hw _ (List.mem_of_getElem? (i := 28) rfl))) Via.refl e101 F1 (g := (mkF m 8 #[.val (.ref a1), .unset] [(.ref a1)])) rfl rfl (hb hby d10_8)
  refine own_st st102 ?_
  show own_Go p e below s _ _ _ (T102.setTop (mkF m 11 #[.val (.ref a1), .unset] [(.ref t1)]))
  obtain ⟨T103, v103, L103, h103, X103, e103, q103, st103⟩ := own_callS X102 hx hZ (y := (⟨"java/lang/StringLatin1", "strip", "([B)Ljava/lang/String;"⟩ : MethodName)) hown (hw _ (List.mem_of_getElem? (i := 54) rfl)) (hw _ (List.mem_of_getElem? (i := 55) rfl)) (hw _ (List.mem_of_getElem? (i := 56) rfl)) (hw _ (List.mem_of_getElem? (i := 57) rfl)) (by decide) (own_bk (W := 0) (sl1 l Z a0 hw t1 _ cs f l1 h0 n0 O0 CDs hk hbd A1 hf hf1 hf2 hl0 hl hl1 hl2) hZ (hw _ (List.mem_of_getElem? (i := 57) rfl)) (hw _ (List.mem_of_getElem? (i := 56) rfl)) (by decide) (by decide)) e102 (by decide) (by decide) (g := (mkF m 11 #[.val (.ref a1), .unset] [(.ref t1)])) rfl (by rw [hml]; rfl) (argsL := [(.ref t1)]) (rest := []) (lenOf pd__28_5bB_29Ljava_2flang_2fString_3b rfl) rfl rfl (by show 2 * 0 + _ ≤ _; exact Nat.le_of_eq rfl) (hb hby d10_11)
  obtain ⟨N103q, K103, hd103⟩ := q103
  refine own_st st103 ?_
  have zK103 := K103.1
  have N103 := Fr.app N101 N103q
  rcases hd103 with ⟨hz1, hz2, rfl⟩ | ⟨b103, rfl, S103⟩
  · show own_Go p e below s _ _ _ (T103.setTop (mkF m 14 #[.val (.ref a1), .unset] [.null]))
    refine own_st (fun _ k => XS.goto X103.here hx rfl (pc0 := 14) (pc' := 24) rfl (hb hby d10_14) (by decide) (by decide) k) ?_
    show own_Go p e below s _ _ _ (T103.setTop (mkF m 24 #[.val (.ref a1), .unset] [.null]))
    refine own_st (fun _ k => XS.astoreN X103.here hx rfl (hb hby d10_24) rfl rfl (l' := #[.val (.ref a1), .val .null]) rfl k) ?_
    show own_Go p e below s _ _ _ (T103.setTop (mkF m 25 #[.val (.ref a1), .val .null] []))
    refine own_st (fun _ k => XS.aloadN X103.here hx rfl (hb hby d10_25) rfl rfl k) ?_
    show own_Go p e below s _ _ _ (T103.setTop (mkF m 26 #[.val (.ref a1), .val .null] [.null]))
    refine own_st (fun _ k => XS.ifnonnullNo X103.here hx rfl (hb hby d10_26) rfl k) ?_
    show own_Go p e below s _ _ _ (T103.setTop (mkF m 29 #[.val (.ref a1), .val .null] []))
    refine own_st (fun _ k => XS.aloadN X103.here hx rfl (hb hby d10_29) rfl rfl k) ?_
    show own_Go p e below s _ _ _ (T103.setTop (mkF m 30 #[.val (.ref a1), .val .null] [(.ref a1)]))
    refine own_st (fun _ k => XS.goto X103.here hx rfl (pc0 := 30) (pc' := 34) rfl (hb hby d10_30) (by decide) (by decide) k) ?_
    show own_Go p e below s _ _ _ (T103.setTop (mkF m 34 #[.val (.ref a1), .val .null] [(.ref a1)]))
    have f104 := (S1.keep ((Keep.refl h0 []).trans K103 all0) nin0)
    exact own_ret X103 hx hlk e103 hret rfl (Or.inr (Or.inr (Or.inr (Or.inr ⟨rfl, rfl, rfl⟩)))) (hb hby d10_34) (by decide) (by decide) ⟨N103, ((Keep.refl h0 []).trans K103 all0), a1, rfl, (by rw [hz1, hz2]; simpa using f104)⟩
  · show own_Go p e below s _ _ _ (T103.setTop (mkF m 14 #[.val (.ref a1), .unset] [(.ref b103)]))
    refine own_st (fun _ k => XS.goto X103.here hx rfl (pc0 := 14) (pc' := 24) rfl (hb hby d10_14) (by decide) (by decide) k) ?_
    show own_Go p e below s _ _ _ (T103.setTop (mkF m 24 #[.val (.ref a1), .unset] [(.ref b103)]))
    refine own_st (fun _ k => XS.astoreN X103.here hx rfl (hb hby d10_24) rfl rfl (l' := #[.val (.ref a1), .val (.ref b103)]) rfl k) ?_
    show own_Go p e below s _ _ _ (T103.setTop (mkF m 25 #[.val (.ref a1), .val (.ref b103)] []))
    refine own_st (fun _ k => XS.aloadN X103.here hx rfl (hb hby d10_25) rfl rfl k) ?_
    show own_Go p e below s _ _ _ (T103.setTop (mkF m 26 #[.val (.ref a1), .val (.ref b103)] [(.ref b103)]))
    refine own_st (fun _ k => XS.ifnonnullYes X103.here hx rfl (pc0 := 26) (pc' := 33) rfl (hb hby d10_26) rfl (by decide) (by decide) k) ?_
    show own_Go p e below s _ _ _ (T103.setTop (mkF m 33 #[.val (.ref a1), .val (.ref b103)] []))
    refine own_st (fun _ k => XS.aloadN X103.here hx rfl (hb hby d10_33) rfl rfl k) ?_
    show own_Go p e below s _ _ _ (T103.setTop (mkF m 34 #[.val (.ref a1), .val (.ref b103)] [(.ref b103)]))
    exact own_ret X103 hx hlk e103 hret rfl (Or.inr (Or.inr (Or.inr (Or.inr ⟨rfl, rfl, rfl⟩)))) (hb hby d10_34) (by decide) (by decide) ⟨N103, ((Keep.refl h0 []).trans K103 all0), b103, rfl, S103⟩
theorem d9_0 : decode prog_35_method_2_code 0 = .ok (.aconst_null, 1) := by decide +kernel
theorem d9_1 : decode prog_35_method_2_code 1 = .ok (.aload_n 0, 1) := by decide +kernel
theorem d9_2 : decode prog_35_method_2_code 2 = .ok (.if_acmp .ne 8, 3) := by decide +kernel
theorem d9_10 : decode prog_35_method_2_code 10 = .ok (.aload_n 0, 1) := by decide +kernel
theorem pd__28_29Ljava_2flang_2fString_3b : parseMethodDescriptor "()Ljava/lang/String;" = some ⟨[], some (.object "java/lang/String")⟩ := by decide +kernel
theorem d9_11 : decode prog_35_method_2_code 11 = .ok (.invokevirtual 9, 3) := by decide +kernel
theorem d9_14 : decode prog_35_method_2_code 14 = .ok (.areturn, 1) := by decide +kernel
theorem pn_com_example_shelfproof_shelfproof_library_Requests : plainName "com/example/shelfproof/shelfproof/library/Requests" = true := by first | (simp [plainName, overriddenIn]; done) | decide +kernel
theorem ef_spW (m : MethodId) (x0 : Addr) : entryFrame m #[(.ref x0)] 1 = mkF m 0 #[.val (.ref x0)] [] := by (first | (simp [entryFrame, mkF, argsToLocals, Value.category]; done) | rfl)
abbrev spWR : Room := { frames := 6, cells := 2, slots := 8, locals := 114 }
set_option maxRecDepth 65536 in
set_option maxHeartbeats 40000000 in
theorem spW (l : Launch) (Z : State) (a0 : Array Value) (hw : ∀ d ∈ tables_1, d.before a0 Z = true) (a1 : Nat) (cs : List Int32) (f l1 : Nat) (h0 : Heap) (n0 : Nat) (O0 : Old Z n0 h0) (CS : own_CS Z) (CDs : own_CD Z) (hk : cs.length ≤ 4) (hbd : ∀ c ∈ cs, ¬ c < 0 ∧ ¬ (255 : Int32) < c) (hf : f < cs.length) (hf1 : ∀ j, j < f → own_ws (cs.getD j 0)) (hf2 : ¬ own_ws (cs.getD f 0)) (hl0 : f < l1) (hl : l1 ≤ cs.length) (hl1 : ∀ j, l1 ≤ j → j < cs.length → own_ws (cs.getD j 0)) (hl2 : ¬ own_ws (cs.getD (l1 - 1) 0)) (S1 : own_Str Z h0 a1 cs) :
    own_C l Z (⟨"com/example/shelfproof/shelfproof/library/Requests", "stripped", "(Ljava/lang/String;)Ljava/lang/String;"⟩ : MethodName) prog_35_method_2_code 1 (some (.object "java/lang/String")) [] spWR #[(.ref a1)] h0 (fun v h L => Fr n0 L ∧ Keep h0 h [] ∧ ∃ b : Nat, v = some (.ref b) ∧ own_Str Z h b ((cs.drop f).take (l1 - f))) := by
  refine own_body (plainFor_of_name pn_com_example_shelfproof_shelfproof_library_Requests) ?_
  intro p e s m below meth c T0 X0 hx hby hml hZ hown hnm hret hlk e0
  have N0 := Fr.nil n0
  have zO := own_old O0
  refine own_st (fun _ k => castTop (ef_spW m a1) k) ?_
  show own_Go p e below s _ _ _ (T0.setTop (mkF m 0 #[.val (.ref a1)] []))
  refine own_st (fun _ k => XS.aconstNull X0.here hx rfl (hb hby d9_0) k) ?_
  show own_Go p e below s _ _ _ (T0.setTop (mkF m 1 #[.val (.ref a1)] [.null]))
  refine own_st (fun _ k => XS.aloadN X0.here hx rfl (hb hby d9_1) rfl rfl k) ?_
  show own_Go p e below s _ _ _ (T0.setTop (mkF m 2 #[.val (.ref a1)] [(.ref a1), .null]))
  refine own_st (fun _ k => Jvm.RoadKit.acmp (g := (mkF m 2 #[.val (.ref a1)] [(.ref a1), .null])) X0 hx rfl rfl rfl (pc0 := 2) (pc' := 10) (same := false) rfl (hb hby d9_2) rfl (decide_eq_false nofun) (by decide) (by decide) k) ?_
  show own_Go p e below s _ _ _ (T0.setTop (mkF m 10 #[.val (.ref a1)] []))
  refine own_st (fun _ k => XS.aloadN X0.here hx rfl (hb hby d9_10) rfl rfl k) ?_
  show own_Go p e below s _ _ _ (T0.setTop (mkF m 11 #[.val (.ref a1)] [(.ref a1)]))
  obtain ⟨T101, v101, L101, h101, X101, e101, q101, st101⟩ := own_callV X0 hx hZ (y := (⟨"java/lang/String", "strip", "()Ljava/lang/String;"⟩ : MethodName)) (z := (⟨"java/lang/String", "strip", "()Ljava/lang/String;"⟩ : MethodName)) hown (hw _ (List.mem_of_getElem? (i := 44) rfl)) (hw _ (List.mem_of_getElem? (i := 45) rfl)) (notFace_of_selects (args := #[]) (mvT hZ (hw _ (List.mem_of_getElem? (i := 47) rfl)))) (hw _ (List.mem_of_getElem? (i := 47) rfl)) (hw _ (List.mem_of_getElem? (i := 46) rfl)) (by decide) (own_bk (W := 0) (stW l Z a0 hw a1 cs f l1 h0 n0 O0 CS CDs hk hbd hf hf1 hf2 hl0 hl hl1 hl2 S1) hZ (hw _ (List.mem_of_getElem? (i := 48) rfl)) (hw _ (List.mem_of_getElem? (i := 3) rfl)) (by decide) (by decide)) e0 S1.1 (by decide) (by decide) (g := (mkF m 11 #[.val (.ref a1)] [(.ref a1)])) rfl (by rw [hml]; rfl) (argsL := []) (rest := []) (lenOf pd__28_29Ljava_2flang_2fString_3b rfl) rfl rfl (by show 2 * 0 + _ ≤ _; exact Nat.le_of_eq rfl) (hb hby d9_11)
  obtain ⟨N101q, K101, b101, rfl, S101⟩ := q101
  refine own_st st101 ?_
  have zK101 := K101.1
  have N101 := Fr.app N0 N101q
  show own_Go p e below s _ _ _ (T101.setTop (mkF m 14 #[.val (.ref a1)] [(.ref b101)]))
  exact own_ret X101 hx hlk e101 hret rfl (Or.inr (Or.inr (Or.inr (Or.inr ⟨rfl, rfl, rfl⟩)))) (hb hby d9_14) (by decide) (by decide) ⟨N101, ((Keep.refl h0 []).trans K101 all0), b101, rfl, S101⟩
theorem d8_0 : decode prog_35_method_3_code 0 = .ok (.aload_n 0, 1) := by decide +kernel
theorem pd__28Ljava_2flang_2fString_3b_29Ljava_2flang_2fString_3b : parseMethodDescriptor "(Ljava/lang/String;)Ljava/lang/String;" = some ⟨[(.object "java/lang/String")], some (.object "java/lang/String")⟩ := by decide +kernel
theorem d8_1 : decode prog_35_method_3_code 1 = .ok (.invokestatic 15, 3) := by decide +kernel
theorem d8_4 : decode prog_35_method_3_code 4 = .ok (.astore_n 2, 1) := by decide +kernel
theorem d8_5 : decode prog_35_method_3_code 5 = .ok (.aload_n 2, 1) := by decide +kernel
theorem d8_6 : decode prog_35_method_3_code 6 = .ok (.invokevirtual 21, 3) := by decide +kernel
theorem d8_9 : decode prog_35_method_3_code 9 = .ok (.ifCond .eq 12, 3) := by decide +kernel
theorem d8_21 : decode prog_35_method_3_code 21 = .ok (.aload_n 2, 1) := by decide +kernel
theorem d8_22 : decode prog_35_method_3_code 22 = .ok (.areturn, 1) := by decide +kernel
theorem ef_rqW (m : MethodId) (x0 : Addr) (x1 : Addr) : entryFrame m #[(.ref x0), (.ref x1)] 3 = mkF m 0 #[.val (.ref x0), .val (.ref x1), .unset] [] := by (first | (simp [entryFrame, mkF, argsToLocals, Value.category]; done) | rfl)
abbrev rqWR : Room := { frames := 7, cells := 2, slots := 8, locals := 126 }
set_option maxRecDepth 65536 in
set_option maxHeartbeats 40000000 in
theorem rqW (l : Launch) (Z : State) (a0 : Array Value) (hw : ∀ d ∈ tables_1, d.before a0 Z = true) (a1 a2 : Nat) (cs : List Int32) (f l1 : Nat) (h0 : Heap) (n0 : Nat) (O0 : Old Z n0 h0) (CS : own_CS Z) (CDs : own_CD Z) (hk : cs.length ≤ 4) (hbd : ∀ c ∈ cs, ¬ c < 0 ∧ ¬ (255 : Int32) < c) (hf : f < cs.length) (hf1 : ∀ j, j < f → own_ws (cs.getD j 0)) (hf2 : ¬ own_ws (cs.getD f 0)) (hl0 : f < l1) (hl : l1 ≤ cs.length) (hl1 : ∀ j, l1 ≤ j → j < cs.length → own_ws (cs.getD j 0)) (hl2 : ¬ own_ws (cs.getD (l1 - 1) 0)) (S1 : own_Str Z h0 a1 cs) :
    own_C l Z (⟨"com/example/shelfproof/shelfproof/library/Requests", "required", "(Ljava/lang/String;Lcom/example/shelfproof/shelfproof/library/Refusal;)Ljava/lang/String;"⟩ : MethodName) prog_35_method_3_code 3 (some (.object "java/lang/String")) [] rqWR #[(.ref a1), (.ref a2)] h0 (fun v h L => Fr n0 L ∧ Keep h0 h [] ∧ ∃ b : Nat, v = some (.ref b) ∧ own_Str Z h b ((cs.drop f).take (l1 - f))) := by
  refine own_body (plainFor_of_name pn_com_example_shelfproof_shelfproof_library_Requests) ?_
  intro p e s m below meth c T0 X0 hx hby hml hZ hown hnm hret hlk e0
  have N0 := Fr.nil n0
  have zO := own_old O0
  refine own_st (fun _ k => castTop (ef_rqW m a1 a2) k) ?_
  show own_Go p e below s _ _ _ (T0.setTop (mkF m 0 #[.val (.ref a1), .val (.ref a2), .unset] []))
  refine own_st (fun _ k => XS.aloadN X0.here hx rfl (hb hby d8_0) rfl rfl k) ?_
  show own_Go p e below s _ _ _ (T0.setTop (mkF m 1 #[.val (.ref a1), .val (.ref a2), .unset] [(.ref a1)]))
  obtain ⟨T101, v101, L101, h101, X101, e101, q101, st101⟩ := own_callS X0 hx hZ (y := (⟨"com/example/shelfproof/shelfproof/library/Requests", "stripped", "(Ljava/lang/String;)Ljava/lang/String;"⟩ : MethodName)) hown (hw _ (List.mem_of_getElem? (i := 41) rfl)) (hw _ (List.mem_of_getElem? (i := 42) rfl)) (hw _ (List.mem_of_getElem? (i := 39) rfl)) (hw _ (List.mem_of_getElem? (i := 43) rfl)) (by decide) (own_bk (W := 0) (spW l Z a0 hw a1 cs f l1 h0 n0 O0 CS CDs hk hbd hf hf1 hf2 hl0 hl hl1 hl2 S1) hZ (hw _ (List.mem_of_getElem? (i := 43) rfl)) (hw _ (List.mem_of_getElem? (i := 39) rfl)) (by decide) (by decide)) e0 (by decide) (by decide) (g := (mkF m 1 #[.val (.ref a1), .val (.ref a2), .unset] [(.ref a1)])) rfl (by rw [hml]; rfl) (argsL := [(.ref a1)]) (rest := []) (lenOf pd__28Ljava_2flang_2fString_3b_29Ljava_2flang_2fString_3b rfl) rfl rfl (by show 2 * 0 + _ ≤ _; exact Nat.le_of_eq rfl) (hb hby d8_1)
  obtain ⟨N101q, K101, b101, rfl, S101⟩ := q101
  refine own_st st101 ?_
  have zK101 := K101.1
  have N101 := Fr.app N0 N101q
  show own_Go p e below s _ _ _ (T101.setTop (mkF m 4 #[.val (.ref a1), .val (.ref a2), .unset] [(.ref b101)]))
  refine own_st (fun _ k => XS.astoreN X101.here hx rfl (hb hby d8_4) rfl rfl (l' := #[.val (.ref a1), .val (.ref a2), .val (.ref b101)]) rfl k) ?_
  show own_Go p e below s _ _ _ (T101.setTop (mkF m 5 #[.val (.ref a1), .val (.ref a2), .val (.ref b101)] []))
  refine own_st (fun _ k => XS.aloadN X101.here hx rfl (hb hby d8_5) rfl rfl k) ?_
  show own_Go p e below s _ _ _ (T101.setTop (mkF m 6 #[.val (.ref a1), .val (.ref a2), .val (.ref b101)] [(.ref b101)]))
  obtain ⟨T102, v102, L102, h102, X102, e102, q102, st102⟩ := own_callV X101 hx hZ (y := (⟨"java/lang/String", "isEmpty", "()Z"⟩ : MethodName)) (z := (⟨"java/lang/String", "isEmpty", "()Z"⟩ : MethodName)) hown (hw _ (List.mem_of_getElem? (i := 80) rfl)) (hw _ (List.mem_of_getElem? (i := 81) rfl)) (notFace_of_selects (args := #[]) (mvT hZ (hw _ (List.mem_of_getElem? (i := 83) rfl)))) (hw _ (List.mem_of_getElem? (i := 83) rfl)) (hw _ (List.mem_of_getElem? (i := 82) rfl)) (by decide) (own_empB (W := 0) (n0 := n0) hZ (own_wEmp hw) (kI := 4) (hw _ (List.mem_of_getElem? (i := 2) rfl)) S101 (by decide) (by decide)) e101 S101.1 (by decide) (by decide) (g := (mkF m 6 #[.val (.ref a1), .val (.ref a2), .val (.ref b101)] [(.ref b101)])) rfl (by rw [hml]; rfl) (argsL := []) (rest := []) (lenOf pd__28_29Z rfl) rfl rfl (by show 2 * 0 + _ ≤ _; exact Nat.le_of_eq rfl) (hb hby d8_6)
  obtain ⟨rfl, N102q, hq102⟩ := q102
  replace e102 := e102.trans hq102
  refine own_st st102 ?_
  have N102 := Fr.app N101 N102q
  show own_Go p e below s _ _ _ (T102.setTop (mkF m 9 #[.val (.ref a1), .val (.ref a2), .val (.ref b101)] [(.int (if ((cs.drop f).take (l1 - f)).length = 0 then (1 : Int32) else 0))]))
  refine own_st (fun _ k => XS.ifYes X102.here hx rfl (pc0 := 9) (pc' := 21) rfl (hb hby d8_9) rfl ((if0 _ _).trans (teq (if_neg (by rw [List.length_take, List.length_drop]; omega))).1) (by decide) (by decide) k) ?_
  show own_Go p e below s _ _ _ (T102.setTop (mkF m 21 #[.val (.ref a1), .val (.ref a2), .val (.ref b101)] []))
  refine own_st (fun _ k => XS.aloadN X102.here hx rfl (hb hby d8_21) rfl rfl k) ?_
  show own_Go p e below s _ _ _ (T102.setTop (mkF m 22 #[.val (.ref a1), .val (.ref a2), .val (.ref b101)] [(.ref b101)]))
  exact own_ret X102 hx hlk e102 hret rfl (Or.inr (Or.inr (Or.inr (Or.inr ⟨rfl, rfl, rfl⟩)))) (hb hby d8_22) (by decide) (by decide) ⟨N102, ((Keep.refl h0 []).trans K101 all0), b101, rfl, S101⟩
theorem d7_0 : decode method_2_code 0 = .ok (.iload_n 0, 1) := by decide +kernel
theorem d7_1 : decode method_2_code 1 = .ok (.bipush 9, 2) := by decide +kernel
theorem d7_3 : decode method_2_code 3 = .ok (.if_icmp .lt 9, 3) := by decide +kernel
theorem d7_12 : decode method_2_code 12 = .ok (.iload_n 0, 1) := by decide +kernel
theorem d7_13 : decode method_2_code 13 = .ok (.bipush 28, 2) := by decide +kernel
theorem d7_15 : decode method_2_code 15 = .ok (.if_icmp .lt 13, 3) := by decide +kernel
theorem d7_28 : decode method_2_code 28 = .ok (.iconst 0, 1) := by decide +kernel
theorem d7_29 : decode method_2_code 29 = .ok (.ireturn, 1) := by decide +kernel
theorem d7_18 : decode method_2_code 18 = .ok (.iload_n 0, 1) := by decide +kernel
theorem d7_19 : decode method_2_code 19 = .ok (.bipush 32, 2) := by decide +kernel
theorem d7_21 : decode method_2_code 21 = .ok (.if_icmp .gt 7, 3) := by decide +kernel
theorem d7_24 : decode method_2_code 24 = .ok (.iconst 1, 1) := by decide +kernel
theorem d7_25 : decode method_2_code 25 = .ok (.goto 4, 3) := by decide +kernel
theorem d7_6 : decode method_2_code 6 = .ok (.iload_n 0, 1) := by decide +kernel
theorem d7_7 : decode method_2_code 7 = .ok (.bipush 13, 2) := by decide +kernel
theorem d7_9 : decode method_2_code 9 = .ok (.if_icmp .le 15, 3) := by decide +kernel
theorem pn_com_example_shelfproof_shelfproof_library_RequestsRequiredPinLaw : plainName "com/example/shelfproof/shelfproof/library/RequestsRequiredPinLaw" = true := by first | (simp [plainName, overriddenIn]; done) | decide +kernel
theorem ef_wsW (m : MethodId) (x0 : Int32) : entryFrame m #[(.int x0)] 1 = mkF m 0 #[.val (.int x0)] [] := by (first | (simp [entryFrame, mkF, argsToLocals, Value.category]; done) | rfl)
abbrev wsWR : Room := { frames := 0, cells := 0, slots := 0, locals := 0 }
set_option maxRecDepth 65536 in
set_option maxHeartbeats 40000000 in
theorem wsW (l : Launch) (Z : State) (a0 : Array Value) (hw : ∀ d ∈ tables_1, d.before a0 Z = true) (cq : Int32) (h0 : Heap) (n0 : Nat) (O0 : Old Z n0 h0)  :
    own_C l Z (⟨"com/example/shelfproof/shelfproof/library/RequestsRequiredPinLaw", "ws", "(C)Z"⟩ : MethodName) method_2_code 1 (some .boolean) [] wsWR #[(.int cq)] h0 (fun v h L => v = some (.int (if own_ws cq then 1 else 0)) ∧ Fr n0 L ∧ h = h0) := by
  refine own_body (plainFor_of_name pn_com_example_shelfproof_shelfproof_library_RequestsRequiredPinLaw) ?_
  intro p e s m below meth c T0 X0 hx hby hml hZ hown hnm hret hlk e0
  have N0 := Fr.nil n0
  have zO := own_old O0
  refine own_st (fun _ k => castTop (ef_wsW m cq) k) ?_
  show own_Go p e below s _ _ _ (T0.setTop (mkF m 0 #[.val (.int cq)] []))
  refine own_st (fun _ k => XS.iloadN X0.here hx rfl (hb hby d7_0) rfl k) ?_
  show own_Go p e below s _ _ _ (T0.setTop (mkF m 1 #[.val (.int cq)] [(.int cq)]))
  refine own_st (fun _ k => XS.bipush X0.here hx rfl (hb hby d7_1) k) ?_
  show own_Go p e below s _ _ _ (T0.setTop (mkF m 3 #[.val (.int cq)] [(.int (9 : Int32)), (.int cq)]))
  by_cases c101 : cq < (9 : Int32)
  · refine own_st (fun _ k => XS.icmpYes X0.here hx rfl (pc0 := 3) (pc' := 12) rfl (hb hby d7_3) rfl (tlt c101).1 (by decide) (by decide) k) ?_
    show own_Go p e below s _ _ _ (T0.setTop (mkF m 12 #[.val (.int cq)] []))
    refine own_st (fun _ k => XS.iloadN X0.here hx rfl (hb hby d7_12) rfl k) ?_
    show own_Go p e below s _ _ _ (T0.setTop (mkF m 13 #[.val (.int cq)] [(.int cq)]))
    refine own_st (fun _ k => XS.bipush X0.here hx rfl (hb hby d7_13) k) ?_
    show own_Go p e below s _ _ _ (T0.setTop (mkF m 15 #[.val (.int cq)] [(.int (28 : Int32)), (.int cq)]))
    by_cases c102 : cq < (28 : Int32)
    · refine own_st (fun _ k => XS.icmpYes X0.here hx rfl (pc0 := 15) (pc' := 28) rfl (hb hby d7_15) rfl (tlt c102).1 (by decide) (by decide) k) ?_
      show own_Go p e below s _ _ _ (T0.setTop (mkF m 28 #[.val (.int cq)] []))
      refine own_st (fun _ k => XS.iconst X0.here hx rfl (hb hby d7_28) k) ?_
      show own_Go p e below s _ _ _ (T0.setTop (mkF m 29 #[.val (.int cq)] [(.int (0 : Int32))]))
      exact own_ret X0 hx hlk e0 hret (by decide) (Or.inl ⟨rfl, Or.inr (Or.inl rfl), _, rfl⟩) (hb hby d7_29) (by decide) (by decide) ⟨by rw [if_neg (show ¬ own_ws cq from fun q => q.elim (fun q => q.1 c101) (fun q => q.1 c102))], N0, rfl⟩
    · refine own_st (fun _ k => XS.icmpNo X0.here hx rfl (hb hby d7_15) rfl (flt c102).1 k) ?_
      show own_Go p e below s _ _ _ (T0.setTop (mkF m 18 #[.val (.int cq)] []))
      refine own_st (fun _ k => XS.iloadN X0.here hx rfl (hb hby d7_18) rfl k) ?_
      show own_Go p e below s _ _ _ (T0.setTop (mkF m 19 #[.val (.int cq)] [(.int cq)]))
      refine own_st (fun _ k => XS.bipush X0.here hx rfl (hb hby d7_19) k) ?_
      show own_Go p e below s _ _ _ (T0.setTop (mkF m 21 #[.val (.int cq)] [(.int (32 : Int32)), (.int cq)]))
      by_cases c103 : (32 : Int32) < cq
      · refine own_st (fun _ k => XS.icmpYes X0.here hx rfl (pc0 := 21) (pc' := 28) rfl (hb hby d7_21) rfl (tlt c103).2.2.1 (by decide) (by decide) k) ?_
        show own_Go p e below s _ _ _ (T0.setTop (mkF m 28 #[.val (.int cq)] []))
        refine own_st (fun _ k => XS.iconst X0.here hx rfl (hb hby d7_28) k) ?_
        show own_Go p e below s _ _ _ (T0.setTop (mkF m 29 #[.val (.int cq)] [(.int (0 : Int32))]))
        exact own_ret X0 hx hlk e0 hret (by decide) (Or.inl ⟨rfl, Or.inr (Or.inl rfl), _, rfl⟩) (hb hby d7_29) (by decide) (by decide) ⟨by rw [if_neg (show ¬ own_ws cq from fun q => q.elim (fun q => q.1 c101) (fun q => q.2 c103))], N0, rfl⟩
      · refine own_st (fun _ k => XS.icmpNo X0.here hx rfl (hb hby d7_21) rfl (flt c103).2.2.1 k) ?_
        show own_Go p e below s _ _ _ (T0.setTop (mkF m 24 #[.val (.int cq)] []))
        refine own_st (fun _ k => XS.iconst X0.here hx rfl (hb hby d7_24) k) ?_
        show own_Go p e below s _ _ _ (T0.setTop (mkF m 25 #[.val (.int cq)] [(.int (1 : Int32))]))
        refine own_st (fun _ k => XS.goto X0.here hx rfl (pc0 := 25) (pc' := 29) rfl (hb hby d7_25) (by decide) (by decide) k) ?_
        show own_Go p e below s _ _ _ (T0.setTop (mkF m 29 #[.val (.int cq)] [(.int (1 : Int32))]))
        exact own_ret X0 hx hlk e0 hret (by decide) (Or.inl ⟨rfl, Or.inr (Or.inl rfl), _, rfl⟩) (hb hby d7_29) (by decide) (by decide) ⟨by rw [if_pos (show own_ws cq from Or.inr ⟨c102, c103⟩)], N0, rfl⟩
  · refine own_st (fun _ k => XS.icmpNo X0.here hx rfl (hb hby d7_3) rfl (flt c101).1 k) ?_
    show own_Go p e below s _ _ _ (T0.setTop (mkF m 6 #[.val (.int cq)] []))
    refine own_st (fun _ k => XS.iloadN X0.here hx rfl (hb hby d7_6) rfl k) ?_
    show own_Go p e below s _ _ _ (T0.setTop (mkF m 7 #[.val (.int cq)] [(.int cq)]))
    refine own_st (fun _ k => XS.bipush X0.here hx rfl (hb hby d7_7) k) ?_
    show own_Go p e below s _ _ _ (T0.setTop (mkF m 9 #[.val (.int cq)] [(.int (13 : Int32)), (.int cq)]))
    by_cases c104 : (13 : Int32) < cq
    · refine own_st (fun _ k => XS.icmpNo X0.here hx rfl (hb hby d7_9) rfl (tlt c104).2.2.2 k) ?_
      show own_Go p e below s _ _ _ (T0.setTop (mkF m 12 #[.val (.int cq)] []))
      refine own_st (fun _ k => XS.iloadN X0.here hx rfl (hb hby d7_12) rfl k) ?_
      show own_Go p e below s _ _ _ (T0.setTop (mkF m 13 #[.val (.int cq)] [(.int cq)]))
      refine own_st (fun _ k => XS.bipush X0.here hx rfl (hb hby d7_13) k) ?_
      show own_Go p e below s _ _ _ (T0.setTop (mkF m 15 #[.val (.int cq)] [(.int (28 : Int32)), (.int cq)]))
      by_cases c105 : cq < (28 : Int32)
      · refine own_st (fun _ k => XS.icmpYes X0.here hx rfl (pc0 := 15) (pc' := 28) rfl (hb hby d7_15) rfl (tlt c105).1 (by decide) (by decide) k) ?_
        show own_Go p e below s _ _ _ (T0.setTop (mkF m 28 #[.val (.int cq)] []))
        refine own_st (fun _ k => XS.iconst X0.here hx rfl (hb hby d7_28) k) ?_
        show own_Go p e below s _ _ _ (T0.setTop (mkF m 29 #[.val (.int cq)] [(.int (0 : Int32))]))
        exact own_ret X0 hx hlk e0 hret (by decide) (Or.inl ⟨rfl, Or.inr (Or.inl rfl), _, rfl⟩) (hb hby d7_29) (by decide) (by decide) ⟨by rw [if_neg (show ¬ own_ws cq from fun q => q.elim (fun q => q.2 c104) (fun q => q.1 c105))], N0, rfl⟩
      · refine own_st (fun _ k => XS.icmpNo X0.here hx rfl (hb hby d7_15) rfl (flt c105).1 k) ?_
        show own_Go p e below s _ _ _ (T0.setTop (mkF m 18 #[.val (.int cq)] []))
        refine own_st (fun _ k => XS.iloadN X0.here hx rfl (hb hby d7_18) rfl k) ?_
        show own_Go p e below s _ _ _ (T0.setTop (mkF m 19 #[.val (.int cq)] [(.int cq)]))
        refine own_st (fun _ k => XS.bipush X0.here hx rfl (hb hby d7_19) k) ?_
        show own_Go p e below s _ _ _ (T0.setTop (mkF m 21 #[.val (.int cq)] [(.int (32 : Int32)), (.int cq)]))
        by_cases c106 : (32 : Int32) < cq
        · refine own_st (fun _ k => XS.icmpYes X0.here hx rfl (pc0 := 21) (pc' := 28) rfl (hb hby d7_21) rfl (tlt c106).2.2.1 (by decide) (by decide) k) ?_
          show own_Go p e below s _ _ _ (T0.setTop (mkF m 28 #[.val (.int cq)] []))
          refine own_st (fun _ k => XS.iconst X0.here hx rfl (hb hby d7_28) k) ?_
          show own_Go p e below s _ _ _ (T0.setTop (mkF m 29 #[.val (.int cq)] [(.int (0 : Int32))]))
          exact own_ret X0 hx hlk e0 hret (by decide) (Or.inl ⟨rfl, Or.inr (Or.inl rfl), _, rfl⟩) (hb hby d7_29) (by decide) (by decide) ⟨by rw [if_neg (show ¬ own_ws cq from fun q => q.elim (fun q => q.2 c104) (fun q => q.2 c106))], N0, rfl⟩
        · refine own_st (fun _ k => XS.icmpNo X0.here hx rfl (hb hby d7_21) rfl (flt c106).2.2.1 k) ?_
          show own_Go p e below s _ _ _ (T0.setTop (mkF m 24 #[.val (.int cq)] []))
          refine own_st (fun _ k => XS.iconst X0.here hx rfl (hb hby d7_24) k) ?_
          show own_Go p e below s _ _ _ (T0.setTop (mkF m 25 #[.val (.int cq)] [(.int (1 : Int32))]))
          refine own_st (fun _ k => XS.goto X0.here hx rfl (pc0 := 25) (pc' := 29) rfl (hb hby d7_25) (by decide) (by decide) k) ?_
          show own_Go p e below s _ _ _ (T0.setTop (mkF m 29 #[.val (.int cq)] [(.int (1 : Int32))]))
          exact own_ret X0 hx hlk e0 hret (by decide) (Or.inl ⟨rfl, Or.inr (Or.inl rfl), _, rfl⟩) (hb hby d7_29) (by decide) (by decide) ⟨by rw [if_pos (show own_ws cq from Or.inr ⟨c105, c106⟩)], N0, rfl⟩
    · refine own_st (fun _ k => XS.icmpYes X0.here hx rfl (pc0 := 9) (pc' := 24) rfl (hb hby d7_9) rfl (flt c104).2.2.2 (by decide) (by decide) k) ?_
      show own_Go p e below s _ _ _ (T0.setTop (mkF m 24 #[.val (.int cq)] []))
      refine own_st (fun _ k => XS.iconst X0.here hx rfl (hb hby d7_24) k) ?_
      show own_Go p e below s _ _ _ (T0.setTop (mkF m 25 #[.val (.int cq)] [(.int (1 : Int32))]))
      refine own_st (fun _ k => XS.goto X0.here hx rfl (pc0 := 25) (pc' := 29) rfl (hb hby d7_25) (by decide) (by decide) k) ?_
      show own_Go p e below s _ _ _ (T0.setTop (mkF m 29 #[.val (.int cq)] [(.int (1 : Int32))]))
      exact own_ret X0 hx hlk e0 hret (by decide) (Or.inl ⟨rfl, Or.inr (Or.inl rfl), _, rfl⟩) (hb hby d7_29) (by decide) (by decide) ⟨by rw [if_pos (show own_ws cq from Or.inl ⟨c101, c104⟩)], N0, rfl⟩
theorem d21_0 : decode method_3_code 0 = .ok (.iload_n 2, 1) := by decide +kernel
theorem d21_1 : decode method_3_code 1 = .ok (.iload_n 3, 1) := by decide +kernel
theorem d21_2 : decode method_3_code 2 = .ok (.if_icmp .lt 9, 3) := by decide +kernel
theorem d21_11 : decode method_3_code 11 = .ok (.iconst 1, 1) := by decide +kernel
theorem d21_12 : decode method_3_code 12 = .ok (.ireturn, 1) := by decide +kernel
theorem d21_5 : decode method_3_code 5 = .ok (.iload_n 2, 1) := by decide +kernel
theorem d21_6 : decode method_3_code 6 = .ok (.iload 4, 2) := by decide +kernel
theorem d21_8 : decode method_3_code 8 = .ok (.if_icmp .le 5, 3) := by decide +kernel
theorem d21_13 : decode method_3_code 13 = .ok (.aload_n 0, 1) := by decide +kernel
theorem d21_14 : decode method_3_code 14 = .ok (.iload_n 2, 1) := by decide +kernel
theorem d21_15 : decode method_3_code 15 = .ok (.iload_n 3, 1) := by decide +kernel
theorem d21_16 : decode method_3_code 16 = .ok (.isub, 1) := by decide +kernel
theorem pd__28I_29C : parseMethodDescriptor "(I)C" = some ⟨[.int], some .char⟩ := by decide +kernel
theorem d21_17 : decode method_3_code 17 = .ok (.invokevirtual 7, 3) := by decide +kernel
theorem d21_20 : decode method_3_code 20 = .ok (.aload_n 1, 1) := by decide +kernel
theorem d21_21 : decode method_3_code 21 = .ok (.iload_n 2, 1) := by decide +kernel
theorem d21_22 : decode method_3_code 22 = .ok (.caload, 1) := by decide +kernel
theorem d21_23 : decode method_3_code 23 = .ok (.if_icmp .ne 7, 3) := by decide +kernel
theorem d21_26 : decode method_3_code 26 = .ok (.iconst 1, 1) := by decide +kernel
theorem d21_27 : decode method_3_code 27 = .ok (.goto 4, 3) := by decide +kernel
theorem d21_31 : decode method_3_code 31 = .ok (.ireturn, 1) := by decide +kernel
theorem ef_atW (m : MethodId) (x0 : Addr) (x1 : Addr) (x2 : Int32) (x3 : Int32) (x4 : Int32) : entryFrame m #[(.ref x0), (.ref x1), (.int x2), (.int x3), (.int x4)] 5 = mkF m 0 #[.val (.ref x0), .val (.ref x1), .val (.int x2), .val (.int x3), .val (.int x4)] [] := by (first | (simp [entryFrame, mkF, argsToLocals, Value.category]; done) | rfl)
abbrev atWR : Room := { frames := 4, cells := 0, slots := 0, locals := 53 }
set_option maxRecDepth 65536 in
set_option maxHeartbeats 40000000 in
theorem atW (l : Launch) (Z : State) (a0 : Array Value) (hw : ∀ d ∈ tables_1, d.before a0 Z = true) (a1 a2 : Nat) (k2 : ClassId) (cs ds : List Int32) (i f l2 : Nat) (h0 : Heap) (n0 : Nat) (O0 : Old Z n0 h0) (CS : own_CS Z) (FM : own_FM Z) (hds : ∀ j, f ≤ j → j ≤ l2 → j - f < ds.length ∧ ds.getD (j - f) 0 = cs.getD j 0) (hl : l2 < 4) (hc4 : cs.length = 4) (hi : i < 4) (hfl : f ≤ l2) (hbd : ∀ c ∈ ds, ¬ (255 : Int32) < c) (S1 : own_Str Z h0 a1 ds) (V2 : Arv Z h0 a2 k2 .char 4 (cs.map Value.int) (.int 0)) :
    own_C l Z (⟨"com/example/shelfproof/shelfproof/library/RequestsRequiredPinLaw", "at", "(Ljava/lang/String;[CIII)Z"⟩ : MethodName) method_3_code 5 (some .boolean) [] atWR #[(.ref a1), (.ref a2), (.int (Int32.ofNat i)), (.int (Int32.ofNat f)), (.int (Int32.ofNat l2))] h0 (fun v h L => v = some (.int 1) ∧ Fr n0 L ∧ h = h0) := by
  refine own_body (plainFor_of_name pn_com_example_shelfproof_shelfproof_library_RequestsRequiredPinLaw) ?_
  intro p e s m below meth c T0 X0 hx hby hml hZ hown hnm hret hlk e0
  have N0 := Fr.nil n0
  have zO := own_old O0
  refine own_st (fun _ k => castTop (ef_atW m a1 a2 (Int32.ofNat i) (Int32.ofNat f) (Int32.ofNat l2)) k) ?_
  show own_Go p e below s _ _ _ (T0.setTop (mkF m 0 #[.val (.ref a1), .val (.ref a2), .val (.int (Int32.ofNat i)), .val (.int (Int32.ofNat f)), .val (.int (Int32.ofNat l2))] []))
  refine own_st (fun _ k => XS.iloadN X0.here hx rfl (hb hby d21_0) rfl k) ?_
  show own_Go p e below s _ _ _ (T0.setTop (mkF m 1 #[.val (.ref a1), .val (.ref a2), .val (.int (Int32.ofNat i)), .val (.int (Int32.ofNat f)), .val (.int (Int32.ofNat l2))] [(.int (Int32.ofNat i))]))
  refine own_st (fun _ k => XS.iloadN X0.here hx rfl (hb hby d21_1) rfl k) ?_
  show own_Go p e below s _ _ _ (T0.setTop (mkF m 2 #[.val (.ref a1), .val (.ref a2), .val (.int (Int32.ofNat i)), .val (.int (Int32.ofNat f)), .val (.int (Int32.ofNat l2))] [(.int (Int32.ofNat f)), (.int (Int32.ofNat i))]))
  by_cases c101 : (Int32.ofNat i) < (Int32.ofNat f)
  · refine own_st (fun _ k => XS.icmpYes X0.here hx rfl (pc0 := 2) (pc' := 11) rfl (hb hby d21_2) rfl (tlt c101).1 (by decide) (by decide) k) ?_
    show own_Go p e below s _ _ _ (T0.setTop (mkF m 11 #[.val (.ref a1), .val (.ref a2), .val (.int (Int32.ofNat i)), .val (.int (Int32.ofNat f)), .val (.int (Int32.ofNat l2))] []))
    refine own_st (fun _ k => XS.iconst X0.here hx rfl (hb hby d21_11) k) ?_
    show own_Go p e below s _ _ _ (T0.setTop (mkF m 12 #[.val (.ref a1), .val (.ref a2), .val (.int (Int32.ofNat i)), .val (.int (Int32.ofNat f)), .val (.int (Int32.ofNat l2))] [(.int (1 : Int32))]))
    exact own_ret X0 hx hlk e0 hret (by decide) (Or.inl ⟨rfl, Or.inr (Or.inl rfl), _, rfl⟩) (hb hby d21_12) (by decide) (by decide) ⟨rfl, N0, rfl⟩
  · refine own_st (fun _ k => XS.icmpNo X0.here hx rfl (hb hby d21_2) rfl (flt c101).1 k) ?_
    show own_Go p e below s _ _ _ (T0.setTop (mkF m 5 #[.val (.ref a1), .val (.ref a2), .val (.int (Int32.ofNat i)), .val (.int (Int32.ofNat f)), .val (.int (Int32.ofNat l2))] []))
    refine own_st (fun _ k => XS.iloadN X0.here hx rfl (hb hby d21_5) rfl k) ?_
    show own_Go p e below s _ _ _ (T0.setTop (mkF m 6 #[.val (.ref a1), .val (.ref a2), .val (.int (Int32.ofNat i)), .val (.int (Int32.ofNat f)), .val (.int (Int32.ofNat l2))] [(.int (Int32.ofNat i))]))
    refine own_st (fun _ k => XS.iload X0.here hx rfl (hb hby d21_6) rfl k) ?_
    show own_Go p e below s _ _ _ (T0.setTop (mkF m 8 #[.val (.ref a1), .val (.ref a2), .val (.int (Int32.ofNat i)), .val (.int (Int32.ofNat f)), .val (.int (Int32.ofNat l2))] [(.int (Int32.ofNat l2)), (.int (Int32.ofNat i))]))
    by_cases c102 : (Int32.ofNat l2) < (Int32.ofNat i)
    · refine own_st (fun _ k => XS.icmpNo X0.here hx rfl (hb hby d21_8) rfl (tlt c102).2.2.2 k) ?_
      show own_Go p e below s _ _ _ (T0.setTop (mkF m 11 #[.val (.ref a1), .val (.ref a2), .val (.int (Int32.ofNat i)), .val (.int (Int32.ofNat f)), .val (.int (Int32.ofNat l2))] []))
      refine own_st (fun _ k => XS.iconst X0.here hx rfl (hb hby d21_11) k) ?_
      show own_Go p e below s _ _ _ (T0.setTop (mkF m 12 #[.val (.ref a1), .val (.ref a2), .val (.int (Int32.ofNat i)), .val (.int (Int32.ofNat f)), .val (.int (Int32.ofNat l2))] [(.int (1 : Int32))]))
      exact own_ret X0 hx hlk e0 hret (by decide) (Or.inl ⟨rfl, Or.inr (Or.inl rfl), _, rfl⟩) (hb hby d21_12) (by decide) (by decide) ⟨rfl, N0, rfl⟩
    · refine own_st (fun _ k => XS.icmpYes X0.here hx rfl (pc0 := 8) (pc' := 13) rfl (hb hby d21_8) rfl (flt c102).2.2.2 (by decide) (by decide) k) ?_
      show own_Go p e below s _ _ _ (T0.setTop (mkF m 13 #[.val (.ref a1), .val (.ref a2), .val (.int (Int32.ofNat i)), .val (.int (Int32.ofNat f)), .val (.int (Int32.ofNat l2))] []))
      have hif : f ≤ i := by
        have q := own_nltN (by omega) (by omega) c101
        omega
      have hil : i ≤ l2 := by
        have q := own_nltN (by omega) (by omega) c102
        omega
      refine own_st (fun _ k => XS.aloadN X0.here hx rfl (hb hby d21_13) rfl rfl k) ?_
      show own_Go p e below s _ _ _ (T0.setTop (mkF m 14 #[.val (.ref a1), .val (.ref a2), .val (.int (Int32.ofNat i)), .val (.int (Int32.ofNat f)), .val (.int (Int32.ofNat l2))] [(.ref a1)]))
      refine own_st (fun _ k => XS.iloadN X0.here hx rfl (hb hby d21_14) rfl k) ?_
      show own_Go p e below s _ _ _ (T0.setTop (mkF m 15 #[.val (.ref a1), .val (.ref a2), .val (.int (Int32.ofNat i)), .val (.int (Int32.ofNat f)), .val (.int (Int32.ofNat l2))] [(.int (Int32.ofNat i)), (.ref a1)]))
      refine own_st (fun _ k => XS.iloadN X0.here hx rfl (hb hby d21_15) rfl k) ?_
      show own_Go p e below s _ _ _ (T0.setTop (mkF m 16 #[.val (.ref a1), .val (.ref a2), .val (.int (Int32.ofNat i)), .val (.int (Int32.ofNat f)), .val (.int (Int32.ofNat l2))] [(.int (Int32.ofNat f)), (.int (Int32.ofNat i)), (.ref a1)]))
      refine own_st (fun _ k => XS.isub X0.here hx rfl (hb hby d21_16) rfl k) ?_
      show own_Go p e below s _ _ _ (T0.setTop (mkF m 17 #[.val (.ref a1), .val (.ref a2), .val (.int (Int32.ofNat i)), .val (.int (Int32.ofNat f)), .val (.int (Int32.ofNat l2))] [(.int ((Int32.ofNat i) - (Int32.ofNat f))), (.ref a1)]))
      obtain ⟨T103, v103, L103, h103, X103, e103, q103, st103⟩ := own_callV X0 hx hZ (y := (⟨"java/lang/String", "charAt", "(I)C"⟩ : MethodName)) (z := (⟨"java/lang/String", "charAt", "(I)C"⟩ : MethodName)) hown (hw _ (List.mem_of_getElem? (i := 98) rfl)) (hw _ (List.mem_of_getElem? (i := 99) rfl)) (notFace_of_selects (args := #[]) (mvT hZ (hw _ (List.mem_of_getElem? (i := 101) rfl)))) (hw _ (List.mem_of_getElem? (i := 101) rfl)) (hw _ (List.mem_of_getElem? (i := 100) rfl)) (by decide) (own_chB (W := 0) hZ (own_wCh hw) (kI := 4) (hw _ (List.mem_of_getElem? (i := 2) rfl)) (i := (i - f)) O0 CS FM S1 hbd (hds i hif hil).1 (own_nsub hif (by omega)) (by decide) (by decide)) e0 S1.1 (by decide) (by decide) (g := (mkF m 17 #[.val (.ref a1), .val (.ref a2), .val (.int (Int32.ofNat i)), .val (.int (Int32.ofNat f)), .val (.int (Int32.ofNat l2))] [(.int ((Int32.ofNat i) - (Int32.ofNat f))), (.ref a1)])) rfl (by rw [hml]; rfl) (argsL := [(.int ((Int32.ofNat i) - (Int32.ofNat f)))]) (rest := []) (lenOf pd__28I_29C rfl) rfl rfl (by show 2 * 0 + _ ≤ _; exact Nat.le_of_eq rfl) (hb hby d21_17)
      obtain ⟨rfl, N103q, hq103⟩ := q103
      replace e103 := e103.trans hq103
      refine own_st st103 ?_
      have N103 := Fr.app N0 N103q
      show own_Go p e below s _ _ _ (T103.setTop (mkF m 20 #[.val (.ref a1), .val (.ref a2), .val (.int (Int32.ofNat i)), .val (.int (Int32.ofNat f)), .val (.int (Int32.ofNat l2))] [(.int (ds.getD (i - f) 0))]))
      refine own_st (fun _ k => XS.aloadN X103.here hx rfl (hb hby d21_20) rfl rfl k) ?_
      show own_Go p e below s _ _ _ (T103.setTop (mkF m 21 #[.val (.ref a1), .val (.ref a2), .val (.int (Int32.ofNat i)), .val (.int (Int32.ofNat f)), .val (.int (Int32.ofNat l2))] [(.ref a2), (.int (ds.getD (i - f) 0))]))
      refine own_st (fun _ k => XS.iloadN X103.here hx rfl (hb hby d21_21) rfl k) ?_
      show own_Go p e below s _ _ _ (T103.setTop (mkF m 22 #[.val (.ref a1), .val (.ref a2), .val (.int (Int32.ofNat i)), .val (.int (Int32.ofNat f)), .val (.int (Int32.ofNat l2))] [(.int (Int32.ofNat i)), (.ref a2), (.int (ds.getD (i - f) 0))]))
      obtain ⟨c104, Ar104, q104, S104, M104, H104, U104⟩ := id V2
      have hi104 := inb_of (j := (Int32.ofNat i)) S104 ⟨own_nn (by omega), (own_nlt (b := 4) (by omega) (by omega)).mpr hi⟩
      refine own_st (X103.caload hx (j := (Int32.ofNat i)) (v := (.int (cs.getD i 0))) (by rw [e103]; exact Ar104.1) (State.isArrayOf_alike hZ.alike Ar104.2.1) Ar104.2.2 hi104 (H104.at hi104 (by rw [own_tcn (by omega)]; exact own_gm cs i)) (g := (mkF m 22 #[.val (.ref a1), .val (.ref a2), .val (.int (Int32.ofNat i)), .val (.int (Int32.ofNat f)), .val (.int (Int32.ofNat l2))] [(.int (Int32.ofNat i)), (.ref a2), (.int (ds.getD (i - f) 0))])) rfl rfl (hb hby d21_22)) ?_
      show own_Go p e below s _ _ _ (T103.setTop (mkF m 23 #[.val (.ref a1), .val (.ref a2), .val (.int (Int32.ofNat i)), .val (.int (Int32.ofNat f)), .val (.int (Int32.ofNat l2))] [(.int (cs.getD i 0)), (.int (ds.getD (i - f) 0))]))
      refine own_st (fun _ k => XS.icmpNo X103.here hx rfl (hb hby d21_23) rfl (teq (hds i hif hil).2).2 k) ?_
      show own_Go p e below s _ _ _ (T103.setTop (mkF m 26 #[.val (.ref a1), .val (.ref a2), .val (.int (Int32.ofNat i)), .val (.int (Int32.ofNat f)), .val (.int (Int32.ofNat l2))] []))
      refine own_st (fun _ k => XS.iconst X103.here hx rfl (hb hby d21_26) k) ?_
      show own_Go p e below s _ _ _ (T103.setTop (mkF m 27 #[.val (.ref a1), .val (.ref a2), .val (.int (Int32.ofNat i)), .val (.int (Int32.ofNat f)), .val (.int (Int32.ofNat l2))] [(.int (1 : Int32))]))
      refine own_st (fun _ k => XS.goto X103.here hx rfl (pc0 := 27) (pc' := 31) rfl (hb hby d21_27) (by decide) (by decide) k) ?_
      show own_Go p e below s _ _ _ (T103.setTop (mkF m 31 #[.val (.ref a1), .val (.ref a2), .val (.int (Int32.ofNat i)), .val (.int (Int32.ofNat f)), .val (.int (Int32.ofNat l2))] [(.int (1 : Int32))]))
      exact own_ret X103 hx hlk e103 hret (by decide) (Or.inl ⟨rfl, Or.inr (Or.inl rfl), _, rfl⟩) (hb hby d21_31) (by decide) (by decide) ⟨rfl, N103, rfl⟩
theorem own_n4 (n : Int32) : ((n &&& (3 : Int32)) + (1 : Int32)) = 1 ∨ ((n &&& (3 : Int32)) + (1 : Int32)) = 2 ∨ ((n &&& (3 : Int32)) + (1 : Int32)) = 3 ∨ ((n &&& (3 : Int32)) + (1 : Int32)) = 4 := by
  have q := c_mask n 3 2 (by decide) (by decide)
  obtain ⟨k, e, q2⟩ := own_exN (x := n &&& (3 : Int32)) (by omega)
  rw [e]
  have : k = 0 ∨ k = 1 ∨ k = 2 ∨ k = 3 := by omega
  rcases this with rfl | rfl | rfl | rfl <;> decide
theorem own_sub1 {l2 f : Nat} (h : f ≤ l2) (hl : l2 < 4) : Int32.ofNat l2 - Int32.ofNat f + (1 : Int32) = Int32.ofNat (l2 + 1 - f) := by
  rw [own_nsub h (by omega)]; exact (own_nadd (b := 1) (by omega)).trans (by rw [show l2 - f + 1 = l2 + 1 - f from by omega])
theorem pd__28_5bC_29V : parseMethodDescriptor "([C)V" = some ⟨[(.array .char)], none⟩ := by decide +kernel
theorem pd__28Ljava_2flang_2fString_3bLcom_2fexample_2fshelfproof_2fshelfproof_2flibrary_2fRefusal_3b_29Ljava_2flang_2fString_3b : parseMethodDescriptor "(Ljava/lang/String;Lcom/example/shelfproof/shelfproof/library/Refusal;)Ljava/lang/String;" = some ⟨[(.object "java/lang/String"), (.object "com/example/shelfproof/shelfproof/library/Refusal")], some (.object "java/lang/String")⟩ := by decide +kernel
theorem pd__28_29I : parseMethodDescriptor "()I" = some ⟨[], some .int⟩ := by decide +kernel
theorem pd__28Ljava_2flang_2fString_3b_5bCIII_29Z : parseMethodDescriptor "(Ljava/lang/String;[CIII)Z" = some ⟨[(.object "java/lang/String"), (.array .char), .int, .int, .int], some .boolean⟩ := by decide +kernel
theorem pd__28C_29Z : parseMethodDescriptor "(C)Z" = some ⟨[.char], some .boolean⟩ := by decide +kernel
theorem ef_lawW (m : MethodId) (x0 : Int32) (x1 : Int32) (x2 : Int32) (x3 : Int32) (x4 : Int32) : entryFrame m #[(.int x0), (.int x1), (.int x2), (.int x3), (.int x4)] maxLocals = mkF m 0 #[.val (.int x0), .val (.int x1), .val (.int x2), .val (.int x3), .val (.int x4), .unset, .unset, .unset, .unset, .unset, .unset, .unset, .unset, .unset, .unset, .unset] [] := by (first | (simp [entryFrame, mkF, argsToLocals, Value.category, maxLocals]; done) | rfl)
set_option maxRecDepth 65536 in
set_option maxHeartbeats 40000000 in
theorem lawW (l : Launch) (Z : State) (a0 : Array Value) (hw : ∀ d ∈ tables_1, d.before a0 Z = true) (ws : List Jvm.Cond) (pa pb pd pe pn : Int32) (h0 : Heap) (n0 : Nat) (O0 : Old Z n0 h0) (CS : own_CS Z) (FM : own_FM Z) (CDs : own_CD Z) (RS : ∃ a : Nat, Sta Z Z.heap "com/example/shelfproof/shelfproof/library/Refusal" "MISSING_TITLE" "Lcom/example/shelfproof/shelfproof/library/Refusal;" (.ref a)) :
    own_C l Z x code maxLocals ret ws room_1 #[(.int pa), (.int pb), (.int pd), (.int pe), (.int pn)] h0 (fun v h L => v = some (.int 1) ∧ Fr n0 L) := by
  refine own_body (plainFor_of_name pn_com_example_shelfproof_shelfproof_library_RequestsRequiredPinLaw) ?_
  intro p e s m below meth c T0 X0 hx hby hml hZ hown hnm hret hlk e0
  have N0 := Fr.nil n0
  have zO := own_old O0
  obtain ⟨ar, Sr⟩ := RS
  refine own_st (fun _ k => castTop (ef_lawW m pa pb pd pe pn) k) ?_
  show own_Go p e below s _ _ _ (T0.setTop (mkF m 0 #[.val (.int pa), .val (.int pb), .val (.int pd), .val (.int pe), .val (.int pn), .unset, .unset, .unset, .unset, .unset, .unset, .unset, .unset, .unset, .unset, .unset] []))
  refine own_st (fun _ k => XS.iload X0.here hx rfl (hb hby at_0) rfl k) ?_
  show own_Go p e below s _ _ _ (T0.setTop (mkF m 2 #[.val (.int pa), .val (.int pb), .val (.int pd), .val (.int pe), .val (.int pn), .unset, .unset, .unset, .unset, .unset, .unset, .unset, .unset, .unset, .unset, .unset] [(.int pn)]))
  refine own_st (fun _ k => XS.iconst X0.here hx rfl (hb hby at_2) k) ?_
  show own_Go p e below s _ _ _ (T0.setTop (mkF m 3 #[.val (.int pa), .val (.int pb), .val (.int pd), .val (.int pe), .val (.int pn), .unset, .unset, .unset, .unset, .unset, .unset, .unset, .unset, .unset, .unset, .unset] [(.int (3 : Int32)), (.int pn)]))
  refine own_st (fun _ k => XS.iand X0.here hx rfl (hb hby at_3) rfl k) ?_
  show own_Go p e below s _ _ _ (T0.setTop (mkF m 4 #[.val (.int pa), .val (.int pb), .val (.int pd), .val (.int pe), .val (.int pn), .unset, .unset, .unset, .unset, .unset, .unset, .unset, .unset, .unset, .unset, .unset] [(.int (pn &&& (3 : Int32)))]))
  refine own_st (fun _ k => XS.iconst X0.here hx rfl (hb hby at_4) k) ?_
  show own_Go p e below s _ _ _ (T0.setTop (mkF m 5 #[.val (.int pa), .val (.int pb), .val (.int pd), .val (.int pe), .val (.int pn), .unset, .unset, .unset, .unset, .unset, .unset, .unset, .unset, .unset, .unset, .unset] [(.int (1 : Int32)), (.int (pn &&& (3 : Int32)))]))
  refine own_st (fun _ k => XS.iadd X0.here hx rfl (hb hby at_5) rfl k) ?_
  show own_Go p e below s _ _ _ (T0.setTop (mkF m 6 #[.val (.int pa), .val (.int pb), .val (.int pd), .val (.int pe), .val (.int pn), .unset, .unset, .unset, .unset, .unset, .unset, .unset, .unset, .unset, .unset, .unset] [(.int ((pn &&& (3 : Int32)) + (1 : Int32)))]))
  have hn4 : ((pn &&& (3 : Int32)) + (1 : Int32)) = 1 ∨ ((pn &&& (3 : Int32)) + (1 : Int32)) = 2 ∨ ((pn &&& (3 : Int32)) + (1 : Int32)) = 3 ∨ ((pn &&& (3 : Int32)) + (1 : Int32)) = 4 := own_n4 pn
  rcases hn4 with hn1 | hn2 | hn3 | hn4
  · rw [hn1]
    show own_Go p e below s _ _ _ (T0.setTop (mkF m 6 #[.val (.int pa), .val (.int pb), .val (.int pd), .val (.int pe), .val (.int pn), .unset, .unset, .unset, .unset, .unset, .unset, .unset, .unset, .unset, .unset, .unset] [(.int (1 : Int32))]))
    refine own_st (fun _ k => XS.istore X0.here hx rfl (hb hby at_6) rfl (l' := #[.val (.int pa), .val (.int pb), .val (.int pd), .val (.int pe), .val (.int pn), .val (.int (1 : Int32)), .unset, .unset, .unset, .unset, .unset, .unset, .unset, .unset, .unset, .unset]) rfl k) ?_
    show own_Go p e below s _ _ _ (T0.setTop (mkF m 8 #[.val (.int pa), .val (.int pb), .val (.int pd), .val (.int pe), .val (.int pn), .val (.int (1 : Int32)), .unset, .unset, .unset, .unset, .unset, .unset, .unset, .unset, .unset, .unset] []))
    refine own_st (fun _ k => XS.iloadN X0.here hx rfl (hb hby at_8) rfl k) ?_
    show own_Go p e below s _ _ _ (T0.setTop (mkF m 9 #[.val (.int pa), .val (.int pb), .val (.int pd), .val (.int pe), .val (.int pn), .val (.int (1 : Int32)), .unset, .unset, .unset, .unset, .unset, .unset, .unset, .unset, .unset, .unset] [(.int pa)]))
    refine own_st (fun _ k => XS.sipush X0.here hx rfl (hb hby at_9) k) ?_
    show own_Go p e below s _ _ _ (T0.setTop (mkF m 12 #[.val (.int pa), .val (.int pb), .val (.int pd), .val (.int pe), .val (.int pn), .val (.int (1 : Int32)), .unset, .unset, .unset, .unset, .unset, .unset, .unset, .unset, .unset, .unset] [(.int (255 : Int32)), (.int pa)]))
    refine own_st (fun _ k => XS.iand X0.here hx rfl (hb hby at_12) rfl k) ?_
    show own_Go p e below s _ _ _ (T0.setTop (mkF m 13 #[.val (.int pa), .val (.int pb), .val (.int pd), .val (.int pe), .val (.int pn), .val (.int (1 : Int32)), .unset, .unset, .unset, .unset, .unset, .unset, .unset, .unset, .unset, .unset] [(.int (pa &&& (255 : Int32)))]))
    refine own_st (fun _ k => XS.i2c X0.here hx rfl (hb hby at_13) rfl k) ?_
    show own_Go p e below s _ _ _ (T0.setTop (mkF m 14 #[.val (.int pa), .val (.int pb), .val (.int pd), .val (.int pe), .val (.int pn), .val (.int (1 : Int32)), .unset, .unset, .unset, .unset, .unset, .unset, .unset, .unset, .unset, .unset] [(.int ((pa &&& (255 : Int32)).toUInt32.toUInt16.toUInt32.toInt32))]))
    obtain ⟨c0, ec0, hc0⟩ : ∃ c : Int32, ((pa &&& (255 : Int32)).toUInt32.toUInt16.toUInt32.toInt32) = c ∧ (¬ c < 0 ∧ ¬ (255 : Int32) < c) := ⟨_, rfl, by rw [own_i2cm]; exact own_m255 _⟩
    rw [ec0]
    show own_Go p e below s _ _ _ (T0.setTop (mkF m 14 #[.val (.int pa), .val (.int pb), .val (.int pd), .val (.int pe), .val (.int pn), .val (.int (1 : Int32)), .unset, .unset, .unset, .unset, .unset, .unset, .unset, .unset, .unset, .unset] [(.int c0)]))
    refine own_st (fun _ k => XS.istore X0.here hx rfl (hb hby at_14) rfl (l' := #[.val (.int pa), .val (.int pb), .val (.int pd), .val (.int pe), .val (.int pn), .val (.int (1 : Int32)), .val (.int c0), .unset, .unset, .unset, .unset, .unset, .unset, .unset, .unset, .unset]) rfl k) ?_
    show own_Go p e below s _ _ _ (T0.setTop (mkF m 16 #[.val (.int pa), .val (.int pb), .val (.int pd), .val (.int pe), .val (.int pn), .val (.int (1 : Int32)), .val (.int c0), .unset, .unset, .unset, .unset, .unset, .unset, .unset, .unset, .unset] []))
    refine own_st (fun _ k => XS.iloadN X0.here hx rfl (hb hby at_16) rfl k) ?_
    show own_Go p e below s _ _ _ (T0.setTop (mkF m 17 #[.val (.int pa), .val (.int pb), .val (.int pd), .val (.int pe), .val (.int pn), .val (.int (1 : Int32)), .val (.int c0), .unset, .unset, .unset, .unset, .unset, .unset, .unset, .unset, .unset] [(.int pb)]))
    refine own_st (fun _ k => XS.sipush X0.here hx rfl (hb hby at_17) k) ?_
    show own_Go p e below s _ _ _ (T0.setTop (mkF m 20 #[.val (.int pa), .val (.int pb), .val (.int pd), .val (.int pe), .val (.int pn), .val (.int (1 : Int32)), .val (.int c0), .unset, .unset, .unset, .unset, .unset, .unset, .unset, .unset, .unset] [(.int (255 : Int32)), (.int pb)]))
    refine own_st (fun _ k => XS.iand X0.here hx rfl (hb hby at_20) rfl k) ?_
    show own_Go p e below s _ _ _ (T0.setTop (mkF m 21 #[.val (.int pa), .val (.int pb), .val (.int pd), .val (.int pe), .val (.int pn), .val (.int (1 : Int32)), .val (.int c0), .unset, .unset, .unset, .unset, .unset, .unset, .unset, .unset, .unset] [(.int (pb &&& (255 : Int32)))]))
    refine own_st (fun _ k => XS.i2c X0.here hx rfl (hb hby at_21) rfl k) ?_
    show own_Go p e below s _ _ _ (T0.setTop (mkF m 22 #[.val (.int pa), .val (.int pb), .val (.int pd), .val (.int pe), .val (.int pn), .val (.int (1 : Int32)), .val (.int c0), .unset, .unset, .unset, .unset, .unset, .unset, .unset, .unset, .unset] [(.int ((pb &&& (255 : Int32)).toUInt32.toUInt16.toUInt32.toInt32))]))
    obtain ⟨c1, ec1, hc1⟩ : ∃ c : Int32, ((pb &&& (255 : Int32)).toUInt32.toUInt16.toUInt32.toInt32) = c ∧ (¬ c < 0 ∧ ¬ (255 : Int32) < c) := ⟨_, rfl, by rw [own_i2cm]; exact own_m255 _⟩
    rw [ec1]
    show own_Go p e below s _ _ _ (T0.setTop (mkF m 22 #[.val (.int pa), .val (.int pb), .val (.int pd), .val (.int pe), .val (.int pn), .val (.int (1 : Int32)), .val (.int c0), .unset, .unset, .unset, .unset, .unset, .unset, .unset, .unset, .unset] [(.int c1)]))
    refine own_st (fun _ k => XS.istore X0.here hx rfl (hb hby at_22) rfl (l' := #[.val (.int pa), .val (.int pb), .val (.int pd), .val (.int pe), .val (.int pn), .val (.int (1 : Int32)), .val (.int c0), .val (.int c1), .unset, .unset, .unset, .unset, .unset, .unset, .unset, .unset]) rfl k) ?_
    show own_Go p e below s _ _ _ (T0.setTop (mkF m 24 #[.val (.int pa), .val (.int pb), .val (.int pd), .val (.int pe), .val (.int pn), .val (.int (1 : Int32)), .val (.int c0), .val (.int c1), .unset, .unset, .unset, .unset, .unset, .unset, .unset, .unset] []))
    refine own_st (fun _ k => XS.iloadN X0.here hx rfl (hb hby at_24) rfl k) ?_
    show own_Go p e below s _ _ _ (T0.setTop (mkF m 25 #[.val (.int pa), .val (.int pb), .val (.int pd), .val (.int pe), .val (.int pn), .val (.int (1 : Int32)), .val (.int c0), .val (.int c1), .unset, .unset, .unset, .unset, .unset, .unset, .unset, .unset] [(.int pd)]))
    refine own_st (fun _ k => XS.sipush X0.here hx rfl (hb hby at_25) k) ?_
    show own_Go p e below s _ _ _ (T0.setTop (mkF m 28 #[.val (.int pa), .val (.int pb), .val (.int pd), .val (.int pe), .val (.int pn), .val (.int (1 : Int32)), .val (.int c0), .val (.int c1), .unset, .unset, .unset, .unset, .unset, .unset, .unset, .unset] [(.int (255 : Int32)), (.int pd)]))
    refine own_st (fun _ k => XS.iand X0.here hx rfl (hb hby at_28) rfl k) ?_
    show own_Go p e below s _ _ _ (T0.setTop (mkF m 29 #[.val (.int pa), .val (.int pb), .val (.int pd), .val (.int pe), .val (.int pn), .val (.int (1 : Int32)), .val (.int c0), .val (.int c1), .unset, .unset, .unset, .unset, .unset, .unset, .unset, .unset] [(.int (pd &&& (255 : Int32)))]))
    refine own_st (fun _ k => XS.i2c X0.here hx rfl (hb hby at_29) rfl k) ?_
    show own_Go p e below s _ _ _ (T0.setTop (mkF m 30 #[.val (.int pa), .val (.int pb), .val (.int pd), .val (.int pe), .val (.int pn), .val (.int (1 : Int32)), .val (.int c0), .val (.int c1), .unset, .unset, .unset, .unset, .unset, .unset, .unset, .unset] [(.int ((pd &&& (255 : Int32)).toUInt32.toUInt16.toUInt32.toInt32))]))
    obtain ⟨c2, ec2, hc2⟩ : ∃ c : Int32, ((pd &&& (255 : Int32)).toUInt32.toUInt16.toUInt32.toInt32) = c ∧ (¬ c < 0 ∧ ¬ (255 : Int32) < c) := ⟨_, rfl, by rw [own_i2cm]; exact own_m255 _⟩
    rw [ec2]
    show own_Go p e below s _ _ _ (T0.setTop (mkF m 30 #[.val (.int pa), .val (.int pb), .val (.int pd), .val (.int pe), .val (.int pn), .val (.int (1 : Int32)), .val (.int c0), .val (.int c1), .unset, .unset, .unset, .unset, .unset, .unset, .unset, .unset] [(.int c2)]))
    refine own_st (fun _ k => XS.istore X0.here hx rfl (hb hby at_30) rfl (l' := #[.val (.int pa), .val (.int pb), .val (.int pd), .val (.int pe), .val (.int pn), .val (.int (1 : Int32)), .val (.int c0), .val (.int c1), .val (.int c2), .unset, .unset, .unset, .unset, .unset, .unset, .unset]) rfl k) ?_
    show own_Go p e below s _ _ _ (T0.setTop (mkF m 32 #[.val (.int pa), .val (.int pb), .val (.int pd), .val (.int pe), .val (.int pn), .val (.int (1 : Int32)), .val (.int c0), .val (.int c1), .val (.int c2), .unset, .unset, .unset, .unset, .unset, .unset, .unset] []))
    refine own_st (fun _ k => XS.iloadN X0.here hx rfl (hb hby at_32) rfl k) ?_
    show own_Go p e below s _ _ _ (T0.setTop (mkF m 33 #[.val (.int pa), .val (.int pb), .val (.int pd), .val (.int pe), .val (.int pn), .val (.int (1 : Int32)), .val (.int c0), .val (.int c1), .val (.int c2), .unset, .unset, .unset, .unset, .unset, .unset, .unset] [(.int pe)]))
    refine own_st (fun _ k => XS.sipush X0.here hx rfl (hb hby at_33) k) ?_
    show own_Go p e below s _ _ _ (T0.setTop (mkF m 36 #[.val (.int pa), .val (.int pb), .val (.int pd), .val (.int pe), .val (.int pn), .val (.int (1 : Int32)), .val (.int c0), .val (.int c1), .val (.int c2), .unset, .unset, .unset, .unset, .unset, .unset, .unset] [(.int (255 : Int32)), (.int pe)]))
    refine own_st (fun _ k => XS.iand X0.here hx rfl (hb hby at_36) rfl k) ?_
    show own_Go p e below s _ _ _ (T0.setTop (mkF m 37 #[.val (.int pa), .val (.int pb), .val (.int pd), .val (.int pe), .val (.int pn), .val (.int (1 : Int32)), .val (.int c0), .val (.int c1), .val (.int c2), .unset, .unset, .unset, .unset, .unset, .unset, .unset] [(.int (pe &&& (255 : Int32)))]))
    refine own_st (fun _ k => XS.i2c X0.here hx rfl (hb hby at_37) rfl k) ?_
    show own_Go p e below s _ _ _ (T0.setTop (mkF m 38 #[.val (.int pa), .val (.int pb), .val (.int pd), .val (.int pe), .val (.int pn), .val (.int (1 : Int32)), .val (.int c0), .val (.int c1), .val (.int c2), .unset, .unset, .unset, .unset, .unset, .unset, .unset] [(.int ((pe &&& (255 : Int32)).toUInt32.toUInt16.toUInt32.toInt32))]))
    obtain ⟨c3, ec3, hc3⟩ : ∃ c : Int32, ((pe &&& (255 : Int32)).toUInt32.toUInt16.toUInt32.toInt32) = c ∧ (¬ c < 0 ∧ ¬ (255 : Int32) < c) := ⟨_, rfl, by rw [own_i2cm]; exact own_m255 _⟩
    rw [ec3]
    show own_Go p e below s _ _ _ (T0.setTop (mkF m 38 #[.val (.int pa), .val (.int pb), .val (.int pd), .val (.int pe), .val (.int pn), .val (.int (1 : Int32)), .val (.int c0), .val (.int c1), .val (.int c2), .unset, .unset, .unset, .unset, .unset, .unset, .unset] [(.int c3)]))
    refine own_st (fun _ k => XS.istore X0.here hx rfl (hb hby at_38) rfl (l' := #[.val (.int pa), .val (.int pb), .val (.int pd), .val (.int pe), .val (.int pn), .val (.int (1 : Int32)), .val (.int c0), .val (.int c1), .val (.int c2), .val (.int c3), .unset, .unset, .unset, .unset, .unset, .unset]) rfl k) ?_
    show own_Go p e below s _ _ _ (T0.setTop (mkF m 40 #[.val (.int pa), .val (.int pb), .val (.int pd), .val (.int pe), .val (.int pn), .val (.int (1 : Int32)), .val (.int c0), .val (.int c1), .val (.int c2), .val (.int c3), .unset, .unset, .unset, .unset, .unset, .unset] []))
    refine own_st (fun _ k => XS.iconst X0.here hx rfl (hb hby at_40) k) ?_
    show own_Go p e below s _ _ _ (T0.setTop (mkF m 41 #[.val (.int pa), .val (.int pb), .val (.int pd), .val (.int pe), .val (.int pn), .val (.int (1 : Int32)), .val (.int c0), .val (.int c1), .val (.int c2), .val (.int c3), .unset, .unset, .unset, .unset, .unset, .unset] [(.int (4 : Int32))]))
    obtain ⟨T101, h101, k101, X101, e101, E101, A101, st101⟩ := newP X0 hx hZ (hw _ (List.mem_of_getElem? (i := 0) rfl)) e0 (g := (mkF m 41 #[.val (.int pa), .val (.int pb), .val (.int pd), .val (.int pe), .val (.int pn), .val (.int (1 : Int32)), .val (.int c0), .val (.int c1), .val (.int c2), .val (.int c3), .unset, .unset, .unset, .unset, .unset, .unset] [(.int (4 : Int32))])) rfl (hb hby at_41) rfl (by decide) (cap := 4) (by decide) (by decide) (by decide) (by decide)
    obtain ⟨b101, g101⟩ : ∃ z, z = h0.size := ⟨_, rfl⟩
    rw [← g101] at A101 st101
    have K101 : Keep h0 h101 [] := (Keep.refl _ _).ext E101
    have l101 : b101 < h101.size := A101.lt
    refine own_st st101 ?_
    have zK101 := K101.1
    have V101 : Arv Z h101 b101 k101 .char (4 : Int32) [(.int (0 : Int32)), (.int (0 : Int32)), (.int (0 : Int32)), (.int (0 : Int32))] (.int (0 : Int32)) := (Arv.new A101 (by decide)).pad (pad_rep [] (.int (0 : Int32)) 4)
    show own_Go p e below s _ _ _ (T101.setTop (mkF m 43 #[.val (.int pa), .val (.int pb), .val (.int pd), .val (.int pe), .val (.int pn), .val (.int (1 : Int32)), .val (.int c0), .val (.int c1), .val (.int c2), .val (.int c3), .unset, .unset, .unset, .unset, .unset, .unset] [(.ref b101)]))
    refine own_st (fun _ k => XS.dup X101.here hx rfl (hb hby at_43) rfl rfl k) ?_
    show own_Go p e below s _ _ _ (T101.setTop (mkF m 44 #[.val (.int pa), .val (.int pb), .val (.int pd), .val (.int pe), .val (.int pn), .val (.int (1 : Int32)), .val (.int c0), .val (.int c1), .val (.int c2), .val (.int c3), .unset, .unset, .unset, .unset, .unset, .unset] [(.ref b101), (.ref b101)]))
    refine own_st (fun _ k => XS.iconst X101.here hx rfl (hb hby at_44) k) ?_
    show own_Go p e below s _ _ _ (T101.setTop (mkF m 45 #[.val (.int pa), .val (.int pb), .val (.int pd), .val (.int pe), .val (.int pn), .val (.int (1 : Int32)), .val (.int c0), .val (.int c1), .val (.int c2), .val (.int c3), .unset, .unset, .unset, .unset, .unset, .unset] [(.int (0 : Int32)), (.ref b101), (.ref b101)]))
    refine own_st (fun _ k => XS.iload X101.here hx rfl (hb hby at_45) rfl k) ?_
    show own_Go p e below s _ _ _ (T101.setTop (mkF m 47 #[.val (.int pa), .val (.int pb), .val (.int pd), .val (.int pe), .val (.int pn), .val (.int (1 : Int32)), .val (.int c0), .val (.int c1), .val (.int c2), .val (.int c3), .unset, .unset, .unset, .unset, .unset, .unset] [(.int c0), (.int (0 : Int32)), (.ref b101), (.ref b101)]))
    obtain ⟨c102, Ar102, q102, S102, M102, H102, U102⟩ := V101
    obtain ⟨T102, h102, X102, e102, W102, st102⟩ := stC X101 hx hZ e101 Ar102 (j := (0 : Int32)) (inb_of S102 ⟨by decide, by decide⟩) (g := (mkF m 47 #[.val (.int pa), .val (.int pb), .val (.int pd), .val (.int pe), .val (.int pn), .val (.int (1 : Int32)), .val (.int c0), .val (.int c1), .val (.int c2), .val (.int c3), .unset, .unset, .unset, .unset, .unset, .unset] [(.int c0), (.int (0 : Int32)), (.ref b101), (.ref b101)])) rfl rfl (hb hby at_47)
    have V102 : Arv Z h102 b101 k101 .char (4 : Int32) [(.int c0), (.int (0 : Int32)), (.int (0 : Int32)), (.int (0 : Int32))] (.int (0 : Int32)) := by
      have q := Arv.set Ar102 q102 S102 M102 H102 U102 (fits_nar_char _) W102 0 rfl (Nat.le_of_ble_eq_true rfl)
      rw [own_narC (own_up1 hc0)] at q
      exact q
    have K102 := Keep.of_wr W102
    have N102 := Fr.snoc X102 N0 (by omega : n0 ≤ b101)
    refine own_st st102 ?_
    have zK102 := K102.1
    show own_Go p e below s _ _ _ (T102.setTop (mkF m 48 #[.val (.int pa), .val (.int pb), .val (.int pd), .val (.int pe), .val (.int pn), .val (.int (1 : Int32)), .val (.int c0), .val (.int c1), .val (.int c2), .val (.int c3), .unset, .unset, .unset, .unset, .unset, .unset] [(.ref b101)]))
    refine own_st (fun _ k => XS.dup X102.here hx rfl (hb hby at_48) rfl rfl k) ?_
    show own_Go p e below s _ _ _ (T102.setTop (mkF m 49 #[.val (.int pa), .val (.int pb), .val (.int pd), .val (.int pe), .val (.int pn), .val (.int (1 : Int32)), .val (.int c0), .val (.int c1), .val (.int c2), .val (.int c3), .unset, .unset, .unset, .unset, .unset, .unset] [(.ref b101), (.ref b101)]))
    refine own_st (fun _ k => XS.iconst X102.here hx rfl (hb hby at_49) k) ?_
    show own_Go p e below s _ _ _ (T102.setTop (mkF m 50 #[.val (.int pa), .val (.int pb), .val (.int pd), .val (.int pe), .val (.int pn), .val (.int (1 : Int32)), .val (.int c0), .val (.int c1), .val (.int c2), .val (.int c3), .unset, .unset, .unset, .unset, .unset, .unset] [(.int (1 : Int32)), (.ref b101), (.ref b101)]))
    refine own_st (fun _ k => XS.iload X102.here hx rfl (hb hby at_50) rfl k) ?_
    show own_Go p e below s _ _ _ (T102.setTop (mkF m 52 #[.val (.int pa), .val (.int pb), .val (.int pd), .val (.int pe), .val (.int pn), .val (.int (1 : Int32)), .val (.int c0), .val (.int c1), .val (.int c2), .val (.int c3), .unset, .unset, .unset, .unset, .unset, .unset] [(.int c1), (.int (1 : Int32)), (.ref b101), (.ref b101)]))
    obtain ⟨c103, Ar103, q103, S103, M103, H103, U103⟩ := V102
    obtain ⟨T103, h103, X103, e103, W103, st103⟩ := stC X102 hx hZ e102 Ar103 (j := (1 : Int32)) (inb_of S103 ⟨by decide, by decide⟩) (g := (mkF m 52 #[.val (.int pa), .val (.int pb), .val (.int pd), .val (.int pe), .val (.int pn), .val (.int (1 : Int32)), .val (.int c0), .val (.int c1), .val (.int c2), .val (.int c3), .unset, .unset, .unset, .unset, .unset, .unset] [(.int c1), (.int (1 : Int32)), (.ref b101), (.ref b101)])) rfl rfl (hb hby at_52)
    have V103 : Arv Z h103 b101 k101 .char (4 : Int32) [(.int c0), (.int c1), (.int (0 : Int32)), (.int (0 : Int32))] (.int (0 : Int32)) := by
      have q := Arv.set Ar103 q103 S103 M103 H103 U103 (fits_nar_char _) W103 1 rfl (Nat.le_of_ble_eq_true rfl)
      rw [own_narC (own_up1 hc1)] at q
      exact q
    have K103 := Keep.of_wr W103
    have N103 := Fr.snoc X103 N102 (by omega : n0 ≤ b101)
    refine own_st st103 ?_
    have zK103 := K103.1
    show own_Go p e below s _ _ _ (T103.setTop (mkF m 53 #[.val (.int pa), .val (.int pb), .val (.int pd), .val (.int pe), .val (.int pn), .val (.int (1 : Int32)), .val (.int c0), .val (.int c1), .val (.int c2), .val (.int c3), .unset, .unset, .unset, .unset, .unset, .unset] [(.ref b101)]))
    refine own_st (fun _ k => XS.dup X103.here hx rfl (hb hby at_53) rfl rfl k) ?_
    show own_Go p e below s _ _ _ (T103.setTop (mkF m 54 #[.val (.int pa), .val (.int pb), .val (.int pd), .val (.int pe), .val (.int pn), .val (.int (1 : Int32)), .val (.int c0), .val (.int c1), .val (.int c2), .val (.int c3), .unset, .unset, .unset, .unset, .unset, .unset] [(.ref b101), (.ref b101)]))
    refine own_st (fun _ k => XS.iconst X103.here hx rfl (hb hby at_54) k) ?_
    show own_Go p e below s _ _ _ (T103.setTop (mkF m 55 #[.val (.int pa), .val (.int pb), .val (.int pd), .val (.int pe), .val (.int pn), .val (.int (1 : Int32)), .val (.int c0), .val (.int c1), .val (.int c2), .val (.int c3), .unset, .unset, .unset, .unset, .unset, .unset] [(.int (2 : Int32)), (.ref b101), (.ref b101)]))
    refine own_st (fun _ k => XS.iload X103.here hx rfl (hb hby at_55) rfl k) ?_
    show own_Go p e below s _ _ _ (T103.setTop (mkF m 57 #[.val (.int pa), .val (.int pb), .val (.int pd), .val (.int pe), .val (.int pn), .val (.int (1 : Int32)), .val (.int c0), .val (.int c1), .val (.int c2), .val (.int c3), .unset, .unset, .unset, .unset, .unset, .unset] [(.int c2), (.int (2 : Int32)), (.ref b101), (.ref b101)]))
    obtain ⟨c104, Ar104, q104, S104, M104, H104, U104⟩ := V103
    obtain ⟨T104, h104, X104, e104, W104, st104⟩ := stC X103 hx hZ e103 Ar104 (j := (2 : Int32)) (inb_of S104 ⟨by decide, by decide⟩) (g := (mkF m 57 #[.val (.int pa), .val (.int pb), .val (.int pd), .val (.int pe), .val (.int pn), .val (.int (1 : Int32)), .val (.int c0), .val (.int c1), .val (.int c2), .val (.int c3), .unset, .unset, .unset, .unset, .unset, .unset] [(.int c2), (.int (2 : Int32)), (.ref b101), (.ref b101)])) rfl rfl (hb hby at_57)
    have V104 : Arv Z h104 b101 k101 .char (4 : Int32) [(.int c0), (.int c1), (.int c2), (.int (0 : Int32))] (.int (0 : Int32)) := by
      have q := Arv.set Ar104 q104 S104 M104 H104 U104 (fits_nar_char _) W104 2 rfl (Nat.le_of_ble_eq_true rfl)
      rw [own_narC (own_up1 hc2)] at q
      exact q
    have K104 := Keep.of_wr W104
    have N104 := Fr.snoc X104 N103 (by omega : n0 ≤ b101)
    refine own_st st104 ?_
    have zK104 := K104.1
    show own_Go p e below s _ _ _ (T104.setTop (mkF m 58 #[.val (.int pa), .val (.int pb), .val (.int pd), .val (.int pe), .val (.int pn), .val (.int (1 : Int32)), .val (.int c0), .val (.int c1), .val (.int c2), .val (.int c3), .unset, .unset, .unset, .unset, .unset, .unset] [(.ref b101)]))
    refine own_st (fun _ k => XS.dup X104.here hx rfl (hb hby at_58) rfl rfl k) ?_
    show own_Go p e below s _ _ _ (T104.setTop (mkF m 59 #[.val (.int pa), .val (.int pb), .val (.int pd), .val (.int pe), .val (.int pn), .val (.int (1 : Int32)), .val (.int c0), .val (.int c1), .val (.int c2), .val (.int c3), .unset, .unset, .unset, .unset, .unset, .unset] [(.ref b101), (.ref b101)]))
    refine own_st (fun _ k => XS.iconst X104.here hx rfl (hb hby at_59) k) ?_
    show own_Go p e below s _ _ _ (T104.setTop (mkF m 60 #[.val (.int pa), .val (.int pb), .val (.int pd), .val (.int pe), .val (.int pn), .val (.int (1 : Int32)), .val (.int c0), .val (.int c1), .val (.int c2), .val (.int c3), .unset, .unset, .unset, .unset, .unset, .unset] [(.int (3 : Int32)), (.ref b101), (.ref b101)]))
    refine own_st (fun _ k => XS.iload X104.here hx rfl (hb hby at_60) rfl k) ?_
    show own_Go p e below s _ _ _ (T104.setTop (mkF m 62 #[.val (.int pa), .val (.int pb), .val (.int pd), .val (.int pe), .val (.int pn), .val (.int (1 : Int32)), .val (.int c0), .val (.int c1), .val (.int c2), .val (.int c3), .unset, .unset, .unset, .unset, .unset, .unset] [(.int c3), (.int (3 : Int32)), (.ref b101), (.ref b101)]))
    obtain ⟨c105, Ar105, q105, S105, M105, H105, U105⟩ := V104
    obtain ⟨T105, h105, X105, e105, W105, st105⟩ := stC X104 hx hZ e104 Ar105 (j := (3 : Int32)) (inb_of S105 ⟨by decide, by decide⟩) (g := (mkF m 62 #[.val (.int pa), .val (.int pb), .val (.int pd), .val (.int pe), .val (.int pn), .val (.int (1 : Int32)), .val (.int c0), .val (.int c1), .val (.int c2), .val (.int c3), .unset, .unset, .unset, .unset, .unset, .unset] [(.int c3), (.int (3 : Int32)), (.ref b101), (.ref b101)])) rfl rfl (hb hby at_62)
    have V105 : Arv Z h105 b101 k101 .char (4 : Int32) [(.int c0), (.int c1), (.int c2), (.int c3)] (.int (0 : Int32)) := by
      have q := Arv.set Ar105 q105 S105 M105 H105 U105 (fits_nar_char _) W105 3 rfl (Nat.le_of_ble_eq_true rfl)
      rw [own_narC (own_up1 hc3)] at q
      exact q
    have K105 := Keep.of_wr W105
    have N105 := Fr.snoc X105 N104 (by omega : n0 ≤ b101)
    refine own_st st105 ?_
    have zK105 := K105.1
    show own_Go p e below s _ _ _ (T105.setTop (mkF m 63 #[.val (.int pa), .val (.int pb), .val (.int pd), .val (.int pe), .val (.int pn), .val (.int (1 : Int32)), .val (.int c0), .val (.int c1), .val (.int c2), .val (.int c3), .unset, .unset, .unset, .unset, .unset, .unset] [(.ref b101)]))
    refine own_st (fun _ k => XS.astore X105.here hx rfl (hb hby at_63) rfl rfl (l' := #[.val (.int pa), .val (.int pb), .val (.int pd), .val (.int pe), .val (.int pn), .val (.int (1 : Int32)), .val (.int c0), .val (.int c1), .val (.int c2), .val (.int c3), .val (.ref b101), .unset, .unset, .unset, .unset, .unset]) rfl k) ?_
    show own_Go p e below s _ _ _ (T105.setTop (mkF m 65 #[.val (.int pa), .val (.int pb), .val (.int pd), .val (.int pe), .val (.int pn), .val (.int (1 : Int32)), .val (.int c0), .val (.int c1), .val (.int c2), .val (.int c3), .val (.ref b101), .unset, .unset, .unset, .unset, .unset] []))
    refine own_st (fun _ k => XS.iload X105.here hx rfl (hb hby at_65) rfl k) ?_
    show own_Go p e below s _ _ _ (T105.setTop (mkF m 67 #[.val (.int pa), .val (.int pb), .val (.int pd), .val (.int pe), .val (.int pn), .val (.int (1 : Int32)), .val (.int c0), .val (.int c1), .val (.int c2), .val (.int c3), .val (.ref b101), .unset, .unset, .unset, .unset, .unset] [(.int (1 : Int32))]))
    refine own_st (fun _ k => XS.iconst X105.here hx rfl (hb hby at_67) k) ?_
    show own_Go p e below s _ _ _ (T105.setTop (mkF m 68 #[.val (.int pa), .val (.int pb), .val (.int pd), .val (.int pe), .val (.int pn), .val (.int (1 : Int32)), .val (.int c0), .val (.int c1), .val (.int c2), .val (.int c3), .val (.ref b101), .unset, .unset, .unset, .unset, .unset] [(.int (1 : Int32)), (.int (1 : Int32))]))
    refine own_st (fun _ k => XS.icmpNo X105.here hx rfl (hb hby at_68) rfl (teq (by decide)).2 k) ?_
    show own_Go p e below s _ _ _ (T105.setTop (mkF m 71 #[.val (.int pa), .val (.int pb), .val (.int pd), .val (.int pe), .val (.int pn), .val (.int (1 : Int32)), .val (.int c0), .val (.int c1), .val (.int c2), .val (.int c3), .val (.ref b101), .unset, .unset, .unset, .unset, .unset] []))
    refine own_st (fun _ k => XS.iconst X105.here hx rfl (hb hby at_71) k) ?_
    show own_Go p e below s _ _ _ (T105.setTop (mkF m 72 #[.val (.int pa), .val (.int pb), .val (.int pd), .val (.int pe), .val (.int pn), .val (.int (1 : Int32)), .val (.int c0), .val (.int c1), .val (.int c2), .val (.int c3), .val (.ref b101), .unset, .unset, .unset, .unset, .unset] [(.int (1 : Int32))]))
    obtain ⟨T106, h106, k106, X106, e106, E106, A106, st106⟩ := newP X105 hx hZ (hw _ (List.mem_of_getElem? (i := 0) rfl)) e105 (g := (mkF m 72 #[.val (.int pa), .val (.int pb), .val (.int pd), .val (.int pe), .val (.int pn), .val (.int (1 : Int32)), .val (.int c0), .val (.int c1), .val (.int c2), .val (.int c3), .val (.ref b101), .unset, .unset, .unset, .unset, .unset] [(.int (1 : Int32))])) rfl (hb hby at_72) rfl (by decide) (cap := 1) (by decide) (by decide) (by decide) (by decide)
    obtain ⟨b106, g106⟩ : ∃ z, z = h105.size := ⟨_, rfl⟩
    rw [← g106] at A106 st106
    have K106 : Keep h105 h106 [] := (Keep.refl _ _).ext E106
    have l106 : b106 < h106.size := A106.lt
    refine own_st st106 ?_
    have zK106 := K106.1
    have V106 : Arv Z h106 b106 k106 .char (1 : Int32) [(.int (0 : Int32))] (.int (0 : Int32)) := (Arv.new A106 (by decide)).pad (pad_rep [] (.int (0 : Int32)) 1)
    show own_Go p e below s _ _ _ (T106.setTop (mkF m 74 #[.val (.int pa), .val (.int pb), .val (.int pd), .val (.int pe), .val (.int pn), .val (.int (1 : Int32)), .val (.int c0), .val (.int c1), .val (.int c2), .val (.int c3), .val (.ref b101), .unset, .unset, .unset, .unset, .unset] [(.ref b106)]))
    refine own_st (fun _ k => XS.dup X106.here hx rfl (hb hby at_74) rfl rfl k) ?_
    show own_Go p e below s _ _ _ (T106.setTop (mkF m 75 #[.val (.int pa), .val (.int pb), .val (.int pd), .val (.int pe), .val (.int pn), .val (.int (1 : Int32)), .val (.int c0), .val (.int c1), .val (.int c2), .val (.int c3), .val (.ref b101), .unset, .unset, .unset, .unset, .unset] [(.ref b106), (.ref b106)]))
    refine own_st (fun _ k => XS.iconst X106.here hx rfl (hb hby at_75) k) ?_
    show own_Go p e below s _ _ _ (T106.setTop (mkF m 76 #[.val (.int pa), .val (.int pb), .val (.int pd), .val (.int pe), .val (.int pn), .val (.int (1 : Int32)), .val (.int c0), .val (.int c1), .val (.int c2), .val (.int c3), .val (.ref b101), .unset, .unset, .unset, .unset, .unset] [(.int (0 : Int32)), (.ref b106), (.ref b106)]))
    refine own_st (fun _ k => XS.iload X106.here hx rfl (hb hby at_76) rfl k) ?_
    show own_Go p e below s _ _ _ (T106.setTop (mkF m 78 #[.val (.int pa), .val (.int pb), .val (.int pd), .val (.int pe), .val (.int pn), .val (.int (1 : Int32)), .val (.int c0), .val (.int c1), .val (.int c2), .val (.int c3), .val (.ref b101), .unset, .unset, .unset, .unset, .unset] [(.int c0), (.int (0 : Int32)), (.ref b106), (.ref b106)]))
    obtain ⟨c107, Ar107, q107, S107, M107, H107, U107⟩ := V106
    obtain ⟨T107, h107, X107, e107, W107, st107⟩ := stC X106 hx hZ e106 Ar107 (j := (0 : Int32)) (inb_of S107 ⟨by decide, by decide⟩) (g := (mkF m 78 #[.val (.int pa), .val (.int pb), .val (.int pd), .val (.int pe), .val (.int pn), .val (.int (1 : Int32)), .val (.int c0), .val (.int c1), .val (.int c2), .val (.int c3), .val (.ref b101), .unset, .unset, .unset, .unset, .unset] [(.int c0), (.int (0 : Int32)), (.ref b106), (.ref b106)])) rfl rfl (hb hby at_78)
    have V107 : Arv Z h107 b106 k106 .char (1 : Int32) [(.int c0)] (.int (0 : Int32)) := by
      have q := Arv.set Ar107 q107 S107 M107 H107 U107 (fits_nar_char _) W107 0 rfl (Nat.le_of_ble_eq_true rfl)
      rw [own_narC (own_up1 hc0)] at q
      exact q
    have K107 := Keep.of_wr W107
    have N107 := Fr.snoc X107 N105 (by omega : n0 ≤ b106)
    refine own_st st107 ?_
    have zK107 := K107.1
    show own_Go p e below s _ _ _ (T107.setTop (mkF m 79 #[.val (.int pa), .val (.int pb), .val (.int pd), .val (.int pe), .val (.int pn), .val (.int (1 : Int32)), .val (.int c0), .val (.int c1), .val (.int c2), .val (.int c3), .val (.ref b101), .unset, .unset, .unset, .unset, .unset] [(.ref b106)]))
    refine own_st (fun _ k => XS.astore X107.here hx rfl (hb hby at_79) rfl rfl (l' := #[.val (.int pa), .val (.int pb), .val (.int pd), .val (.int pe), .val (.int pn), .val (.int (1 : Int32)), .val (.int c0), .val (.int c1), .val (.int c2), .val (.int c3), .val (.ref b101), .val (.ref b106), .unset, .unset, .unset, .unset]) rfl k) ?_
    show own_Go p e below s _ _ _ (T107.setTop (mkF m 81 #[.val (.int pa), .val (.int pb), .val (.int pd), .val (.int pe), .val (.int pn), .val (.int (1 : Int32)), .val (.int c0), .val (.int c1), .val (.int c2), .val (.int c3), .val (.ref b101), .val (.ref b106), .unset, .unset, .unset, .unset] []))
    refine own_st (fun _ k => XS.goto X107.here hx rfl (pc0 := 81) (pc' := 162) rfl (hb hby at_81) (by decide) (by decide) k) ?_
    show own_Go p e below s _ _ _ (T107.setTop (mkF m 162 #[.val (.int pa), .val (.int pb), .val (.int pd), .val (.int pe), .val (.int pn), .val (.int (1 : Int32)), .val (.int c0), .val (.int c1), .val (.int c2), .val (.int c3), .val (.ref b101), .val (.ref b106), .unset, .unset, .unset, .unset] []))
    obtain ⟨T108, h108, X108, e108, E108, A108, D108, -, st108⟩ := newO X107 hx hZ hown (hw _ (List.mem_of_getElem? (i := 1) rfl)) (hw _ (List.mem_of_getElem? (i := 2) rfl)) (hw _ (List.mem_of_getElem? (i := 3) rfl)) e107 (g := (mkF m 162 #[.val (.int pa), .val (.int pb), .val (.int pd), .val (.int pe), .val (.int pn), .val (.int (1 : Int32)), .val (.int c0), .val (.int c1), .val (.int c2), .val (.int c3), .val (.ref b101), .val (.ref b106), .unset, .unset, .unset, .unset] [])) rfl (hb hby at_162) (by decide) (by decide)
    obtain ⟨b108, g108⟩ : ∃ z, z = h107.size := ⟨_, rfl⟩
    rw [← g108] at A108 D108 st108
    have K108 : Keep h107 h108 [] := (Keep.refl _ _).ext E108
    have l108 : b108 < h108.size := A108.lt
    refine own_st st108 ?_
    have zK108 := K108.1
    show own_Go p e below s _ _ _ (T108.setTop (mkF m 165 #[.val (.int pa), .val (.int pb), .val (.int pd), .val (.int pe), .val (.int pn), .val (.int (1 : Int32)), .val (.int c0), .val (.int c1), .val (.int c2), .val (.int c3), .val (.ref b101), .val (.ref b106), .unset, .unset, .unset, .unset] [(.ref b108)]))
    refine own_st (fun _ k => XS.dup X108.here hx rfl (hb hby at_165) rfl rfl k) ?_
    show own_Go p e below s _ _ _ (T108.setTop (mkF m 166 #[.val (.int pa), .val (.int pb), .val (.int pd), .val (.int pe), .val (.int pn), .val (.int (1 : Int32)), .val (.int c0), .val (.int c1), .val (.int c2), .val (.int c3), .val (.ref b101), .val (.ref b106), .unset, .unset, .unset, .unset] [(.ref b108), (.ref b108)]))
    refine own_st (fun _ k => XS.aload X108.here hx rfl (hb hby at_166) rfl rfl k) ?_
    show own_Go p e below s _ _ _ (T108.setTop (mkF m 168 #[.val (.int pa), .val (.int pb), .val (.int pd), .val (.int pe), .val (.int pn), .val (.int (1 : Int32)), .val (.int c0), .val (.int c1), .val (.int c2), .val (.int c3), .val (.ref b101), .val (.ref b106), .unset, .unset, .unset, .unset] [(.ref b106), (.ref b108), (.ref b108)]))
    have F_value_b108 : Fld Z h108 b108 "java/lang/String" "value" "[B" .null := D108 (Or.inr (hw _ (List.mem_of_getElem? (i := 29) rfl))) (ty := (.array .byte)) (by decide)
    have F_coder_b108 : Fld Z h108 b108 "java/lang/String" "coder" "B" (.int (0 : Int32)) := D108 (Or.inr (hw _ (List.mem_of_getElem? (i := 27) rfl))) (ty := .byte) (by decide)
    have f109 := (V107.keep ((Keep.refl h107 []).trans K108 all0) nin0)
    have O110 : Old Z n0 h108 := O0.keep (((((((((Keep.refl h0 []).trans K101 all0).trans K102 (allS (Or.inr (by omega)) all0)).trans K103 (allS (Or.inr (by omega)) all0)).trans K104 (allS (Or.inr (by omega)) all0)).trans K105 (allS (Or.inr (by omega)) all0)).trans K106 all0).trans K107 (allS (Or.inr (by omega)) all0)).trans K108 all0) all0
    obtain ⟨T111, v111, L111, h111, X111, e111, q111, st111⟩ := own_callI X108 hx hZ (y := (⟨"java/lang/String", "<init>", "([C)V"⟩ : MethodName)) rfl hown (hw _ (List.mem_of_getElem? (i := 4) rfl)) (hw _ (List.mem_of_getElem? (i := 5) rfl)) (hw _ (List.mem_of_getElem? (i := 6) rfl)) (by decide) (own_nsB (W := 1) hZ (own_wNew hw) (kI := 4) (hw _ (List.mem_of_getElem? (i := 2) rfl)) (cs := [c0]) (n := 1) (by omega : n0 ≤ b108) O110 CS A108 F_value_b108 F_coder_b108 f109 rfl rfl (by decide) (by decide) (own_all1 hc0) (by decide) (by decide)) e108 (by decide) (by decide) (g := (mkF m 168 #[.val (.int pa), .val (.int pb), .val (.int pd), .val (.int pe), .val (.int pn), .val (.int (1 : Int32)), .val (.int c0), .val (.int c1), .val (.int c2), .val (.int c3), .val (.ref b101), .val (.ref b106), .unset, .unset, .unset, .unset] [(.ref b106), (.ref b108), (.ref b108)])) rfl (by rw [hml]; rfl) (a := b108) (argsL := [(.ref b106)]) (rest := [(.ref b108)]) (lenOf pd__28_5bC_29V rfl) rfl rfl (by show 2 * 0 + _ ≤ _; exact Nat.le_of_eq rfl) (hb hby at_168)
    obtain ⟨rfl, N111q, K111, S111⟩ := q111
    refine own_st st111 ?_
    have zK111 := K111.1
    have N111 := Fr.app N107 N111q
    have A111 := S111.1
    show own_Go p e below s _ _ _ (T111.setTop (mkF m 171 #[.val (.int pa), .val (.int pb), .val (.int pd), .val (.int pe), .val (.int pn), .val (.int (1 : Int32)), .val (.int c0), .val (.int c1), .val (.int c2), .val (.int c3), .val (.ref b101), .val (.ref b106), .unset, .unset, .unset, .unset] [(.ref b108)]))
    refine own_st (fun _ k => XS.astore X111.here hx rfl (hb hby at_171) rfl rfl (l' := #[.val (.int pa), .val (.int pb), .val (.int pd), .val (.int pe), .val (.int pn), .val (.int (1 : Int32)), .val (.int c0), .val (.int c1), .val (.int c2), .val (.int c3), .val (.ref b101), .val (.ref b106), .val (.ref b108), .unset, .unset, .unset]) rfl k) ?_
    show own_Go p e below s _ _ _ (T111.setTop (mkF m 173 #[.val (.int pa), .val (.int pb), .val (.int pd), .val (.int pe), .val (.int pn), .val (.int (1 : Int32)), .val (.int c0), .val (.int c1), .val (.int c2), .val (.int c3), .val (.ref b101), .val (.ref b106), .val (.ref b108), .unset, .unset, .unset] []))
    have G112 : ∀ (Tj : State) (Lj : List Loc) (f l2 : Nat), (f < 1) → (∀ j, j < f → own_ws ([c0].getD j 0)) → (¬ own_ws ([c0].getD f 0)) → (f ≤ l2) → (l2 < 1) → (∀ j, l2 + 1 ≤ j → j < 1 → own_ws ([c0].getD j 0)) → (¬ own_ws ([c0].getD (l2 + 1 - 1) 0)) → Stand p l e room_1 s m #[(.int pa), (.int pb), (.int pd), (.int pe), (.int pn)] below meth c Tj Lj 4 10 → Tj.heap = h111 → Fr n0 Lj → own_Go p e below s (fun v h L => v = some (.int 1) ∧ Fr n0 L) room_1.cells room_1.slots (Tj.setTop (mkF m 320 #[.val (.int pa), .val (.int pb), .val (.int pd), .val (.int pe), .val (.int pn), .val (.int (1 : Int32)), .val (.int c0), .val (.int c1), .val (.int c2), .val (.int c3), .val (.ref b101), .val (.ref b106), .val (.ref b108), .val (.int (Int32.ofNat f)), .val (.int (Int32.ofNat l2)), .unset] [])) := by
      intro TG112 LG112 f l2 hf hf1 hf2 hfl hl hl1 hl2 XG112 eG112 NG112
      have hbd : ∀ c ∈ [c0], ¬ c < 0 ∧ ¬ (255 : Int32) < c := (own_all1 hc0)
      have hds : ∀ j, f ≤ j → j ≤ l2 → j - f < (([c0].drop f).take (l2 + 1 - f)).length ∧ (([c0].drop f).take (l2 + 1 - f)).getD (j - f) 0 = [c0, c1, c2, c3].getD j 0 := by
        intro j h1 h2
        have e1 : (([c0].drop f).take (l2 + 1 - f)).length = l2 + 1 - f := by rw [List.length_take, List.length_drop]; show min _ (1 - f) = _; omega
        refine ⟨by rw [e1]; omega, ?_⟩
        have e2 : j - f < l2 + 1 - f := by omega
        rw [List.getD_eq_getElem?_getD, List.getElem?_take, if_pos e2, List.getElem?_drop, show f + (j - f) = j from by omega]
        have e3 : j < 1 := by omega
        match j, e3 with
        | 0, _ => rfl
      have hdb : ∀ c ∈ (([c0].drop f).take (l2 + 1 - f)), ¬ (255 : Int32) < c := fun c hc => (hbd c (own_memdt hc)).2
      have hln : (([c0].drop f).take (l2 + 1 - f)).length = l2 + 1 - f := by rw [List.length_take, List.length_drop]; show min _ (1 - f) = _; omega
      refine own_st (fun _ k => XS.aload XG112.here hx rfl (hb hby at_320) rfl rfl k) ?_
      show own_Go p e below s _ _ _ (TG112.setTop (mkF m 322 #[.val (.int pa), .val (.int pb), .val (.int pd), .val (.int pe), .val (.int pn), .val (.int (1 : Int32)), .val (.int c0), .val (.int c1), .val (.int c2), .val (.int c3), .val (.ref b101), .val (.ref b106), .val (.ref b108), .val (.int (Int32.ofNat f)), .val (.int (Int32.ofNat l2)), .unset] [(.ref b108)]))
      have O114 : Old Z n0 h111 := O110.keep ((Keep.refl h108 [b108]).trans K111 (allS (Or.inl (by simp)) all0)) (allS (by omega) all0)
      obtain ⟨T113, X113, e113, st113⟩ := getS2 XG112 hx hZ hown (host := "") (Or.inl (hw _ (List.mem_of_getElem? (i := 34) rfl))) Via.refl eG112 (Sr.ext O114.2) (g := (mkF m 322 #[.val (.int pa), .val (.int pb), .val (.int pd), .val (.int pe), .val (.int pn), .val (.int (1 : Int32)), .val (.int c0), .val (.int c1), .val (.int c2), .val (.int c3), .val (.ref b101), .val (.ref b106), .val (.ref b108), .val (.int (Int32.ofNat f)), .val (.int (Int32.ofNat l2)), .unset] [(.ref b108)])) rfl (hb hby at_322)
      refine own_st st113 ?_
      show own_Go p e below s _ _ _ (T113.setTop (mkF m 325 #[.val (.int pa), .val (.int pb), .val (.int pd), .val (.int pe), .val (.int pn), .val (.int (1 : Int32)), .val (.int c0), .val (.int c1), .val (.int c2), .val (.int c3), .val (.ref b101), .val (.ref b106), .val (.ref b108), .val (.int (Int32.ofNat f)), .val (.int (Int32.ofNat l2)), .unset] [(.ref ar), (.ref b108)]))
      obtain ⟨T115, v115, L115, h115, X115, e115, q115, st115⟩ := own_callS X113 hx hZ (y := (⟨"com/example/shelfproof/shelfproof/library/Requests", "required", "(Ljava/lang/String;Lcom/example/shelfproof/shelfproof/library/Refusal;)Ljava/lang/String;"⟩ : MethodName)) hown (hw _ (List.mem_of_getElem? (i := 37) rfl)) (hw _ (List.mem_of_getElem? (i := 38) rfl)) (hw _ (List.mem_of_getElem? (i := 39) rfl)) (hw _ (List.mem_of_getElem? (i := 40) rfl)) (by decide) (own_bk (W := 0) (rqW l Z a0 hw b108 ar [c0] f (l2 + 1) h111 n0 O114 CS CDs (show 1 ≤ 4 from by decide) hbd hf hf1 hf2 (by omega) (by show l2 + 1 ≤ 1; omega) hl1 hl2 S111) hZ (hw _ (List.mem_of_getElem? (i := 40) rfl)) (hw _ (List.mem_of_getElem? (i := 39) rfl)) (by decide) (by decide)) e113 (by decide) (by decide) (g := (mkF m 325 #[.val (.int pa), .val (.int pb), .val (.int pd), .val (.int pe), .val (.int pn), .val (.int (1 : Int32)), .val (.int c0), .val (.int c1), .val (.int c2), .val (.int c3), .val (.ref b101), .val (.ref b106), .val (.ref b108), .val (.int (Int32.ofNat f)), .val (.int (Int32.ofNat l2)), .unset] [(.ref ar), (.ref b108)])) rfl (by rw [hml]; rfl) (argsL := [(.ref b108), (.ref ar)]) (rest := []) (lenOf pd__28Ljava_2flang_2fString_3bLcom_2fexample_2fshelfproof_2fshelfproof_2flibrary_2fRefusal_3b_29Ljava_2flang_2fString_3b rfl) rfl rfl (by show 2 * 0 + _ ≤ _; exact Nat.le_of_eq rfl) (hb hby at_325)
      obtain ⟨N115q, K115, b115, rfl, S115⟩ := q115
      refine own_st st115 ?_
      have zK115 := K115.1
      have N115 := Fr.app NG112 N115q
      show own_Go p e below s _ _ _ (T115.setTop (mkF m 328 #[.val (.int pa), .val (.int pb), .val (.int pd), .val (.int pe), .val (.int pn), .val (.int (1 : Int32)), .val (.int c0), .val (.int c1), .val (.int c2), .val (.int c3), .val (.ref b101), .val (.ref b106), .val (.ref b108), .val (.int (Int32.ofNat f)), .val (.int (Int32.ofNat l2)), .unset] [(.ref b115)]))
      refine own_st (fun _ k => XS.astore X115.here hx rfl (hb hby at_328) rfl rfl (l' := #[.val (.int pa), .val (.int pb), .val (.int pd), .val (.int pe), .val (.int pn), .val (.int (1 : Int32)), .val (.int c0), .val (.int c1), .val (.int c2), .val (.int c3), .val (.ref b101), .val (.ref b106), .val (.ref b108), .val (.int (Int32.ofNat f)), .val (.int (Int32.ofNat l2)), .val (.ref b115)]) rfl k) ?_
      show own_Go p e below s _ _ _ (T115.setTop (mkF m 330 #[.val (.int pa), .val (.int pb), .val (.int pd), .val (.int pe), .val (.int pn), .val (.int (1 : Int32)), .val (.int c0), .val (.int c1), .val (.int c2), .val (.int c3), .val (.ref b101), .val (.ref b106), .val (.ref b108), .val (.int (Int32.ofNat f)), .val (.int (Int32.ofNat l2)), .val (.ref b115)] []))
      refine own_st (fun _ k => XS.aload X115.here hx rfl (hb hby at_330) rfl rfl k) ?_
      show own_Go p e below s _ _ _ (T115.setTop (mkF m 332 #[.val (.int pa), .val (.int pb), .val (.int pd), .val (.int pe), .val (.int pn), .val (.int (1 : Int32)), .val (.int c0), .val (.int c1), .val (.int c2), .val (.int c3), .val (.ref b101), .val (.ref b106), .val (.ref b108), .val (.int (Int32.ofNat f)), .val (.int (Int32.ofNat l2)), .val (.ref b115)] [(.ref b115)]))
      have O116 : Old Z n0 h115 := O114.keep ((Keep.refl h111 []).trans K115 all0) all0
      obtain ⟨T117, v117, L117, h117, X117, e117, q117, st117⟩ := own_callV X115 hx hZ (y := (⟨"java/lang/String", "length", "()I"⟩ : MethodName)) (z := (⟨"java/lang/String", "length", "()I"⟩ : MethodName)) hown (hw _ (List.mem_of_getElem? (i := 85) rfl)) (hw _ (List.mem_of_getElem? (i := 86) rfl)) (notFace_of_selects (args := #[]) (mvT hZ (hw _ (List.mem_of_getElem? (i := 88) rfl)))) (hw _ (List.mem_of_getElem? (i := 88) rfl)) (hw _ (List.mem_of_getElem? (i := 87) rfl)) (by decide) (own_lenB (W := 0) hZ (own_wLen hw) (kI := 4) (hw _ (List.mem_of_getElem? (i := 2) rfl)) O116 CS S115 (by decide) (by decide)) e115 S115.1 (by decide) (by decide) (g := (mkF m 332 #[.val (.int pa), .val (.int pb), .val (.int pd), .val (.int pe), .val (.int pn), .val (.int (1 : Int32)), .val (.int c0), .val (.int c1), .val (.int c2), .val (.int c3), .val (.ref b101), .val (.ref b106), .val (.ref b108), .val (.int (Int32.ofNat f)), .val (.int (Int32.ofNat l2)), .val (.ref b115)] [(.ref b115)])) rfl (by rw [hml]; rfl) (argsL := []) (rest := []) (lenOf pd__28_29I rfl) rfl rfl (by show 2 * 0 + _ ≤ _; exact Nat.le_of_eq rfl) (hb hby at_332)
      obtain ⟨rfl, N117q, hq117⟩ := q117
      replace e117 := e117.trans hq117
      refine own_st st117 ?_
      have N117 := Fr.app N115 N117q
      show own_Go p e below s _ _ _ (T117.setTop (mkF m 335 #[.val (.int pa), .val (.int pb), .val (.int pd), .val (.int pe), .val (.int pn), .val (.int (1 : Int32)), .val (.int c0), .val (.int c1), .val (.int c2), .val (.int c3), .val (.ref b101), .val (.ref b106), .val (.ref b108), .val (.int (Int32.ofNat f)), .val (.int (Int32.ofNat l2)), .val (.ref b115)] [(.int (Int32.ofNat ((([c0].drop f).take (l2 + 1 - f))).length))]))
      refine own_st (fun _ k => XS.iload X117.here hx rfl (hb hby at_335) rfl k) ?_
      show own_Go p e below s _ _ _ (T117.setTop (mkF m 337 #[.val (.int pa), .val (.int pb), .val (.int pd), .val (.int pe), .val (.int pn), .val (.int (1 : Int32)), .val (.int c0), .val (.int c1), .val (.int c2), .val (.int c3), .val (.ref b101), .val (.ref b106), .val (.ref b108), .val (.int (Int32.ofNat f)), .val (.int (Int32.ofNat l2)), .val (.ref b115)] [(.int (Int32.ofNat l2)), (.int (Int32.ofNat ((([c0].drop f).take (l2 + 1 - f))).length))]))
      refine own_st (fun _ k => XS.iload X117.here hx rfl (hb hby at_337) rfl k) ?_
      show own_Go p e below s _ _ _ (T117.setTop (mkF m 339 #[.val (.int pa), .val (.int pb), .val (.int pd), .val (.int pe), .val (.int pn), .val (.int (1 : Int32)), .val (.int c0), .val (.int c1), .val (.int c2), .val (.int c3), .val (.ref b101), .val (.ref b106), .val (.ref b108), .val (.int (Int32.ofNat f)), .val (.int (Int32.ofNat l2)), .val (.ref b115)] [(.int (Int32.ofNat f)), (.int (Int32.ofNat l2)), (.int (Int32.ofNat ((([c0].drop f).take (l2 + 1 - f))).length))]))
      refine own_st (fun _ k => XS.isub X117.here hx rfl (hb hby at_339) rfl k) ?_
      show own_Go p e below s _ _ _ (T117.setTop (mkF m 340 #[.val (.int pa), .val (.int pb), .val (.int pd), .val (.int pe), .val (.int pn), .val (.int (1 : Int32)), .val (.int c0), .val (.int c1), .val (.int c2), .val (.int c3), .val (.ref b101), .val (.ref b106), .val (.ref b108), .val (.int (Int32.ofNat f)), .val (.int (Int32.ofNat l2)), .val (.ref b115)] [(.int ((Int32.ofNat l2) - (Int32.ofNat f))), (.int (Int32.ofNat ((([c0].drop f).take (l2 + 1 - f))).length))]))
      refine own_st (fun _ k => XS.iconst X117.here hx rfl (hb hby at_340) k) ?_
      show own_Go p e below s _ _ _ (T117.setTop (mkF m 341 #[.val (.int pa), .val (.int pb), .val (.int pd), .val (.int pe), .val (.int pn), .val (.int (1 : Int32)), .val (.int c0), .val (.int c1), .val (.int c2), .val (.int c3), .val (.ref b101), .val (.ref b106), .val (.ref b108), .val (.int (Int32.ofNat f)), .val (.int (Int32.ofNat l2)), .val (.ref b115)] [(.int (1 : Int32)), (.int ((Int32.ofNat l2) - (Int32.ofNat f))), (.int (Int32.ofNat ((([c0].drop f).take (l2 + 1 - f))).length))]))
      refine own_st (fun _ k => XS.iadd X117.here hx rfl (hb hby at_341) rfl k) ?_
      show own_Go p e below s _ _ _ (T117.setTop (mkF m 342 #[.val (.int pa), .val (.int pb), .val (.int pd), .val (.int pe), .val (.int pn), .val (.int (1 : Int32)), .val (.int c0), .val (.int c1), .val (.int c2), .val (.int c3), .val (.ref b101), .val (.ref b106), .val (.ref b108), .val (.int (Int32.ofNat f)), .val (.int (Int32.ofNat l2)), .val (.ref b115)] [(.int (((Int32.ofNat l2) - (Int32.ofNat f)) + (1 : Int32))), (.int (Int32.ofNat ((([c0].drop f).take (l2 + 1 - f))).length))]))
      rw [own_sub1 hfl (by omega)]
      show own_Go p e below s _ _ _ (T117.setTop (mkF m 342 #[.val (.int pa), .val (.int pb), .val (.int pd), .val (.int pe), .val (.int pn), .val (.int (1 : Int32)), .val (.int c0), .val (.int c1), .val (.int c2), .val (.int c3), .val (.ref b101), .val (.ref b106), .val (.ref b108), .val (.int (Int32.ofNat f)), .val (.int (Int32.ofNat l2)), .val (.ref b115)] [(.int (Int32.ofNat (l2 + 1 - f))), (.int (Int32.ofNat ((([c0].drop f).take (l2 + 1 - f))).length))]))
      refine own_st (fun _ k => XS.icmpYes X117.here hx rfl (pc0 := 342) (pc' := 347) rfl (hb hby at_342) rfl (teq (by rw [hln])).1 (by decide) (by decide) k) ?_
      show own_Go p e below s _ _ _ (T117.setTop (mkF m 347 #[.val (.int pa), .val (.int pb), .val (.int pd), .val (.int pe), .val (.int pn), .val (.int (1 : Int32)), .val (.int c0), .val (.int c1), .val (.int c2), .val (.int c3), .val (.ref b101), .val (.ref b106), .val (.ref b108), .val (.int (Int32.ofNat f)), .val (.int (Int32.ofNat l2)), .val (.ref b115)] []))
      refine own_st (fun _ k => XS.aload X117.here hx rfl (hb hby at_347) rfl rfl k) ?_
      show own_Go p e below s _ _ _ (T117.setTop (mkF m 349 #[.val (.int pa), .val (.int pb), .val (.int pd), .val (.int pe), .val (.int pn), .val (.int (1 : Int32)), .val (.int c0), .val (.int c1), .val (.int c2), .val (.int c3), .val (.ref b101), .val (.ref b106), .val (.ref b108), .val (.int (Int32.ofNat f)), .val (.int (Int32.ofNat l2)), .val (.ref b115)] [(.ref b115)]))
      refine own_st (fun _ k => XS.aload X117.here hx rfl (hb hby at_349) rfl rfl k) ?_
      show own_Go p e below s _ _ _ (T117.setTop (mkF m 351 #[.val (.int pa), .val (.int pb), .val (.int pd), .val (.int pe), .val (.int pn), .val (.int (1 : Int32)), .val (.int c0), .val (.int c1), .val (.int c2), .val (.int c3), .val (.ref b101), .val (.ref b106), .val (.ref b108), .val (.int (Int32.ofNat f)), .val (.int (Int32.ofNat l2)), .val (.ref b115)] [(.ref b101), (.ref b115)]))
      refine own_st (fun _ k => XS.iconst X117.here hx rfl (hb hby at_351) k) ?_
      show own_Go p e below s _ _ _ (T117.setTop (mkF m 352 #[.val (.int pa), .val (.int pb), .val (.int pd), .val (.int pe), .val (.int pn), .val (.int (1 : Int32)), .val (.int c0), .val (.int c1), .val (.int c2), .val (.int c3), .val (.ref b101), .val (.ref b106), .val (.ref b108), .val (.int (Int32.ofNat f)), .val (.int (Int32.ofNat l2)), .val (.ref b115)] [(.int (0 : Int32)), (.ref b101), (.ref b115)]))
      refine own_st (fun _ k => XS.iload X117.here hx rfl (hb hby at_352) rfl k) ?_
      show own_Go p e below s _ _ _ (T117.setTop (mkF m 354 #[.val (.int pa), .val (.int pb), .val (.int pd), .val (.int pe), .val (.int pn), .val (.int (1 : Int32)), .val (.int c0), .val (.int c1), .val (.int c2), .val (.int c3), .val (.ref b101), .val (.ref b106), .val (.ref b108), .val (.int (Int32.ofNat f)), .val (.int (Int32.ofNat l2)), .val (.ref b115)] [(.int (Int32.ofNat f)), (.int (0 : Int32)), (.ref b101), (.ref b115)]))
      refine own_st (fun _ k => XS.iload X117.here hx rfl (hb hby at_354) rfl k) ?_
      show own_Go p e below s _ _ _ (T117.setTop (mkF m 356 #[.val (.int pa), .val (.int pb), .val (.int pd), .val (.int pe), .val (.int pn), .val (.int (1 : Int32)), .val (.int c0), .val (.int c1), .val (.int c2), .val (.int c3), .val (.ref b101), .val (.ref b106), .val (.ref b108), .val (.int (Int32.ofNat f)), .val (.int (Int32.ofNat l2)), .val (.ref b115)] [(.int (Int32.ofNat l2)), (.int (Int32.ofNat f)), (.int (0 : Int32)), (.ref b101), (.ref b115)]))
      have f118 := (V105.keep ((((((Keep.refl h105 []).trans K106 all0).trans K107 (allS (Or.inr (by omega)) all0)).trans K108 all0).trans K111 (allS (Or.inr (by omega)) all0)).trans K115 all0) nin0)
      obtain ⟨T119, v119, L119, h119, X119, e119, q119, st119⟩ := own_callS X117 hx hZ (y := (⟨"com/example/shelfproof/shelfproof/library/RequestsRequiredPinLaw", "at", "(Ljava/lang/String;[CIII)Z"⟩ : MethodName)) hown (hw _ (List.mem_of_getElem? (i := 95) rfl)) (hw _ (List.mem_of_getElem? (i := 96) rfl)) (hw _ (List.mem_of_getElem? (i := 32) rfl)) (hw _ (List.mem_of_getElem? (i := 97) rfl)) (by decide) (own_bk (W := 0) (atW l Z a0 hw b115 b101 _ [c0, c1, c2, c3] (([c0].drop f).take (l2 + 1 - f)) 0 f l2 h115 n0 O116 CS FM hds (by omega) rfl (by decide) hfl hdb S115 f118) hZ (hw _ (List.mem_of_getElem? (i := 97) rfl)) (hw _ (List.mem_of_getElem? (i := 32) rfl)) (by decide) (by decide)) e117 (by decide) (by decide) (g := (mkF m 356 #[.val (.int pa), .val (.int pb), .val (.int pd), .val (.int pe), .val (.int pn), .val (.int (1 : Int32)), .val (.int c0), .val (.int c1), .val (.int c2), .val (.int c3), .val (.ref b101), .val (.ref b106), .val (.ref b108), .val (.int (Int32.ofNat f)), .val (.int (Int32.ofNat l2)), .val (.ref b115)] [(.int (Int32.ofNat l2)), (.int (Int32.ofNat f)), (.int (0 : Int32)), (.ref b101), (.ref b115)])) rfl (by rw [hml]; rfl) (argsL := [(.ref b115), (.ref b101), (.int (0 : Int32)), (.int (Int32.ofNat f)), (.int (Int32.ofNat l2))]) (rest := []) (lenOf pd__28Ljava_2flang_2fString_3b_5bCIII_29Z rfl) rfl rfl (by show 2 * 0 + _ ≤ _; exact Nat.le_of_eq rfl) (hb hby at_356)
      obtain ⟨rfl, N119q, hq119⟩ := q119
      replace e119 := e119.trans hq119
      refine own_st st119 ?_
      have N119 := Fr.app N117 N119q
      show own_Go p e below s _ _ _ (T119.setTop (mkF m 359 #[.val (.int pa), .val (.int pb), .val (.int pd), .val (.int pe), .val (.int pn), .val (.int (1 : Int32)), .val (.int c0), .val (.int c1), .val (.int c2), .val (.int c3), .val (.ref b101), .val (.ref b106), .val (.ref b108), .val (.int (Int32.ofNat f)), .val (.int (Int32.ofNat l2)), .val (.ref b115)] [(.int (1 : Int32))]))
      refine own_st (fun _ k => XS.ifNo X119.here hx rfl (hb hby at_359) rfl ((if0 _ _).trans (feq (by decide)).1) k) ?_
      show own_Go p e below s _ _ _ (T119.setTop (mkF m 362 #[.val (.int pa), .val (.int pb), .val (.int pd), .val (.int pe), .val (.int pn), .val (.int (1 : Int32)), .val (.int c0), .val (.int c1), .val (.int c2), .val (.int c3), .val (.ref b101), .val (.ref b106), .val (.ref b108), .val (.int (Int32.ofNat f)), .val (.int (Int32.ofNat l2)), .val (.ref b115)] []))
      refine own_st (fun _ k => XS.aload X119.here hx rfl (hb hby at_362) rfl rfl k) ?_
      show own_Go p e below s _ _ _ (T119.setTop (mkF m 364 #[.val (.int pa), .val (.int pb), .val (.int pd), .val (.int pe), .val (.int pn), .val (.int (1 : Int32)), .val (.int c0), .val (.int c1), .val (.int c2), .val (.int c3), .val (.ref b101), .val (.ref b106), .val (.ref b108), .val (.int (Int32.ofNat f)), .val (.int (Int32.ofNat l2)), .val (.ref b115)] [(.ref b115)]))
      refine own_st (fun _ k => XS.aload X119.here hx rfl (hb hby at_364) rfl rfl k) ?_
      show own_Go p e below s _ _ _ (T119.setTop (mkF m 366 #[.val (.int pa), .val (.int pb), .val (.int pd), .val (.int pe), .val (.int pn), .val (.int (1 : Int32)), .val (.int c0), .val (.int c1), .val (.int c2), .val (.int c3), .val (.ref b101), .val (.ref b106), .val (.ref b108), .val (.int (Int32.ofNat f)), .val (.int (Int32.ofNat l2)), .val (.ref b115)] [(.ref b101), (.ref b115)]))
      refine own_st (fun _ k => XS.iconst X119.here hx rfl (hb hby at_366) k) ?_
      show own_Go p e below s _ _ _ (T119.setTop (mkF m 367 #[.val (.int pa), .val (.int pb), .val (.int pd), .val (.int pe), .val (.int pn), .val (.int (1 : Int32)), .val (.int c0), .val (.int c1), .val (.int c2), .val (.int c3), .val (.ref b101), .val (.ref b106), .val (.ref b108), .val (.int (Int32.ofNat f)), .val (.int (Int32.ofNat l2)), .val (.ref b115)] [(.int (1 : Int32)), (.ref b101), (.ref b115)]))
      refine own_st (fun _ k => XS.iload X119.here hx rfl (hb hby at_367) rfl k) ?_
      show own_Go p e below s _ _ _ (T119.setTop (mkF m 369 #[.val (.int pa), .val (.int pb), .val (.int pd), .val (.int pe), .val (.int pn), .val (.int (1 : Int32)), .val (.int c0), .val (.int c1), .val (.int c2), .val (.int c3), .val (.ref b101), .val (.ref b106), .val (.ref b108), .val (.int (Int32.ofNat f)), .val (.int (Int32.ofNat l2)), .val (.ref b115)] [(.int (Int32.ofNat f)), (.int (1 : Int32)), (.ref b101), (.ref b115)]))
      refine own_st (fun _ k => XS.iload X119.here hx rfl (hb hby at_369) rfl k) ?_
      show own_Go p e below s _ _ _ (T119.setTop (mkF m 371 #[.val (.int pa), .val (.int pb), .val (.int pd), .val (.int pe), .val (.int pn), .val (.int (1 : Int32)), .val (.int c0), .val (.int c1), .val (.int c2), .val (.int c3), .val (.ref b101), .val (.ref b106), .val (.ref b108), .val (.int (Int32.ofNat f)), .val (.int (Int32.ofNat l2)), .val (.ref b115)] [(.int (Int32.ofNat l2)), (.int (Int32.ofNat f)), (.int (1 : Int32)), (.ref b101), (.ref b115)]))
      obtain ⟨T120, v120, L120, h120, X120, e120, q120, st120⟩ := own_callS X119 hx hZ (y := (⟨"com/example/shelfproof/shelfproof/library/RequestsRequiredPinLaw", "at", "(Ljava/lang/String;[CIII)Z"⟩ : MethodName)) hown (hw _ (List.mem_of_getElem? (i := 95) rfl)) (hw _ (List.mem_of_getElem? (i := 96) rfl)) (hw _ (List.mem_of_getElem? (i := 32) rfl)) (hw _ (List.mem_of_getElem? (i := 97) rfl)) (by decide) (own_bk (W := 0) (atW l Z a0 hw b115 b101 _ [c0, c1, c2, c3] (([c0].drop f).take (l2 + 1 - f)) 1 f l2 h115 n0 O116 CS FM hds (by omega) rfl (by decide) hfl hdb S115 f118) hZ (hw _ (List.mem_of_getElem? (i := 97) rfl)) (hw _ (List.mem_of_getElem? (i := 32) rfl)) (by decide) (by decide)) e119 (by decide) (by decide) (g := (mkF m 371 #[.val (.int pa), .val (.int pb), .val (.int pd), .val (.int pe), .val (.int pn), .val (.int (1 : Int32)), .val (.int c0), .val (.int c1), .val (.int c2), .val (.int c3), .val (.ref b101), .val (.ref b106), .val (.ref b108), .val (.int (Int32.ofNat f)), .val (.int (Int32.ofNat l2)), .val (.ref b115)] [(.int (Int32.ofNat l2)), (.int (Int32.ofNat f)), (.int (1 : Int32)), (.ref b101), (.ref b115)])) rfl (by rw [hml]; rfl) (argsL := [(.ref b115), (.ref b101), (.int (1 : Int32)), (.int (Int32.ofNat f)), (.int (Int32.ofNat l2))]) (rest := []) (lenOf pd__28Ljava_2flang_2fString_3b_5bCIII_29Z rfl) rfl rfl (by show 2 * 0 + _ ≤ _; exact Nat.le_of_eq rfl) (hb hby at_371)
      obtain ⟨rfl, N120q, hq120⟩ := q120
      replace e120 := e120.trans hq120
      refine own_st st120 ?_
      have N120 := Fr.app N119 N120q
      show own_Go p e below s _ _ _ (T120.setTop (mkF m 374 #[.val (.int pa), .val (.int pb), .val (.int pd), .val (.int pe), .val (.int pn), .val (.int (1 : Int32)), .val (.int c0), .val (.int c1), .val (.int c2), .val (.int c3), .val (.ref b101), .val (.ref b106), .val (.ref b108), .val (.int (Int32.ofNat f)), .val (.int (Int32.ofNat l2)), .val (.ref b115)] [(.int (1 : Int32))]))
      refine own_st (fun _ k => XS.ifNo X120.here hx rfl (hb hby at_374) rfl ((if0 _ _).trans (feq (by decide)).1) k) ?_
      show own_Go p e below s _ _ _ (T120.setTop (mkF m 377 #[.val (.int pa), .val (.int pb), .val (.int pd), .val (.int pe), .val (.int pn), .val (.int (1 : Int32)), .val (.int c0), .val (.int c1), .val (.int c2), .val (.int c3), .val (.ref b101), .val (.ref b106), .val (.ref b108), .val (.int (Int32.ofNat f)), .val (.int (Int32.ofNat l2)), .val (.ref b115)] []))
      refine own_st (fun _ k => XS.aload X120.here hx rfl (hb hby at_377) rfl rfl k) ?_
      show own_Go p e below s _ _ _ (T120.setTop (mkF m 379 #[.val (.int pa), .val (.int pb), .val (.int pd), .val (.int pe), .val (.int pn), .val (.int (1 : Int32)), .val (.int c0), .val (.int c1), .val (.int c2), .val (.int c3), .val (.ref b101), .val (.ref b106), .val (.ref b108), .val (.int (Int32.ofNat f)), .val (.int (Int32.ofNat l2)), .val (.ref b115)] [(.ref b115)]))
      refine own_st (fun _ k => XS.aload X120.here hx rfl (hb hby at_379) rfl rfl k) ?_
      show own_Go p e below s _ _ _ (T120.setTop (mkF m 381 #[.val (.int pa), .val (.int pb), .val (.int pd), .val (.int pe), .val (.int pn), .val (.int (1 : Int32)), .val (.int c0), .val (.int c1), .val (.int c2), .val (.int c3), .val (.ref b101), .val (.ref b106), .val (.ref b108), .val (.int (Int32.ofNat f)), .val (.int (Int32.ofNat l2)), .val (.ref b115)] [(.ref b101), (.ref b115)]))
      refine own_st (fun _ k => XS.iconst X120.here hx rfl (hb hby at_381) k) ?_
      show own_Go p e below s _ _ _ (T120.setTop (mkF m 382 #[.val (.int pa), .val (.int pb), .val (.int pd), .val (.int pe), .val (.int pn), .val (.int (1 : Int32)), .val (.int c0), .val (.int c1), .val (.int c2), .val (.int c3), .val (.ref b101), .val (.ref b106), .val (.ref b108), .val (.int (Int32.ofNat f)), .val (.int (Int32.ofNat l2)), .val (.ref b115)] [(.int (2 : Int32)), (.ref b101), (.ref b115)]))
      refine own_st (fun _ k => XS.iload X120.here hx rfl (hb hby at_382) rfl k) ?_
      show own_Go p e below s _ _ _ (T120.setTop (mkF m 384 #[.val (.int pa), .val (.int pb), .val (.int pd), .val (.int pe), .val (.int pn), .val (.int (1 : Int32)), .val (.int c0), .val (.int c1), .val (.int c2), .val (.int c3), .val (.ref b101), .val (.ref b106), .val (.ref b108), .val (.int (Int32.ofNat f)), .val (.int (Int32.ofNat l2)), .val (.ref b115)] [(.int (Int32.ofNat f)), (.int (2 : Int32)), (.ref b101), (.ref b115)]))
      refine own_st (fun _ k => XS.iload X120.here hx rfl (hb hby at_384) rfl k) ?_
      show own_Go p e below s _ _ _ (T120.setTop (mkF m 386 #[.val (.int pa), .val (.int pb), .val (.int pd), .val (.int pe), .val (.int pn), .val (.int (1 : Int32)), .val (.int c0), .val (.int c1), .val (.int c2), .val (.int c3), .val (.ref b101), .val (.ref b106), .val (.ref b108), .val (.int (Int32.ofNat f)), .val (.int (Int32.ofNat l2)), .val (.ref b115)] [(.int (Int32.ofNat l2)), (.int (Int32.ofNat f)), (.int (2 : Int32)), (.ref b101), (.ref b115)]))
      obtain ⟨T121, v121, L121, h121, X121, e121, q121, st121⟩ := own_callS X120 hx hZ (y := (⟨"com/example/shelfproof/shelfproof/library/RequestsRequiredPinLaw", "at", "(Ljava/lang/String;[CIII)Z"⟩ : MethodName)) hown (hw _ (List.mem_of_getElem? (i := 95) rfl)) (hw _ (List.mem_of_getElem? (i := 96) rfl)) (hw _ (List.mem_of_getElem? (i := 32) rfl)) (hw _ (List.mem_of_getElem? (i := 97) rfl)) (by decide) (own_bk (W := 0) (atW l Z a0 hw b115 b101 _ [c0, c1, c2, c3] (([c0].drop f).take (l2 + 1 - f)) 2 f l2 h115 n0 O116 CS FM hds (by omega) rfl (by decide) hfl hdb S115 f118) hZ (hw _ (List.mem_of_getElem? (i := 97) rfl)) (hw _ (List.mem_of_getElem? (i := 32) rfl)) (by decide) (by decide)) e120 (by decide) (by decide) (g := (mkF m 386 #[.val (.int pa), .val (.int pb), .val (.int pd), .val (.int pe), .val (.int pn), .val (.int (1 : Int32)), .val (.int c0), .val (.int c1), .val (.int c2), .val (.int c3), .val (.ref b101), .val (.ref b106), .val (.ref b108), .val (.int (Int32.ofNat f)), .val (.int (Int32.ofNat l2)), .val (.ref b115)] [(.int (Int32.ofNat l2)), (.int (Int32.ofNat f)), (.int (2 : Int32)), (.ref b101), (.ref b115)])) rfl (by rw [hml]; rfl) (argsL := [(.ref b115), (.ref b101), (.int (2 : Int32)), (.int (Int32.ofNat f)), (.int (Int32.ofNat l2))]) (rest := []) (lenOf pd__28Ljava_2flang_2fString_3b_5bCIII_29Z rfl) rfl rfl (by show 2 * 0 + _ ≤ _; exact Nat.le_of_eq rfl) (hb hby at_386)
      obtain ⟨rfl, N121q, hq121⟩ := q121
      replace e121 := e121.trans hq121
      refine own_st st121 ?_
      have N121 := Fr.app N120 N121q
      show own_Go p e below s _ _ _ (T121.setTop (mkF m 389 #[.val (.int pa), .val (.int pb), .val (.int pd), .val (.int pe), .val (.int pn), .val (.int (1 : Int32)), .val (.int c0), .val (.int c1), .val (.int c2), .val (.int c3), .val (.ref b101), .val (.ref b106), .val (.ref b108), .val (.int (Int32.ofNat f)), .val (.int (Int32.ofNat l2)), .val (.ref b115)] [(.int (1 : Int32))]))
      refine own_st (fun _ k => XS.ifNo X121.here hx rfl (hb hby at_389) rfl ((if0 _ _).trans (feq (by decide)).1) k) ?_
      show own_Go p e below s _ _ _ (T121.setTop (mkF m 392 #[.val (.int pa), .val (.int pb), .val (.int pd), .val (.int pe), .val (.int pn), .val (.int (1 : Int32)), .val (.int c0), .val (.int c1), .val (.int c2), .val (.int c3), .val (.ref b101), .val (.ref b106), .val (.ref b108), .val (.int (Int32.ofNat f)), .val (.int (Int32.ofNat l2)), .val (.ref b115)] []))
      refine own_st (fun _ k => XS.aload X121.here hx rfl (hb hby at_392) rfl rfl k) ?_
      show own_Go p e below s _ _ _ (T121.setTop (mkF m 394 #[.val (.int pa), .val (.int pb), .val (.int pd), .val (.int pe), .val (.int pn), .val (.int (1 : Int32)), .val (.int c0), .val (.int c1), .val (.int c2), .val (.int c3), .val (.ref b101), .val (.ref b106), .val (.ref b108), .val (.int (Int32.ofNat f)), .val (.int (Int32.ofNat l2)), .val (.ref b115)] [(.ref b115)]))
      refine own_st (fun _ k => XS.aload X121.here hx rfl (hb hby at_394) rfl rfl k) ?_
      show own_Go p e below s _ _ _ (T121.setTop (mkF m 396 #[.val (.int pa), .val (.int pb), .val (.int pd), .val (.int pe), .val (.int pn), .val (.int (1 : Int32)), .val (.int c0), .val (.int c1), .val (.int c2), .val (.int c3), .val (.ref b101), .val (.ref b106), .val (.ref b108), .val (.int (Int32.ofNat f)), .val (.int (Int32.ofNat l2)), .val (.ref b115)] [(.ref b101), (.ref b115)]))
      refine own_st (fun _ k => XS.iconst X121.here hx rfl (hb hby at_396) k) ?_
      show own_Go p e below s _ _ _ (T121.setTop (mkF m 397 #[.val (.int pa), .val (.int pb), .val (.int pd), .val (.int pe), .val (.int pn), .val (.int (1 : Int32)), .val (.int c0), .val (.int c1), .val (.int c2), .val (.int c3), .val (.ref b101), .val (.ref b106), .val (.ref b108), .val (.int (Int32.ofNat f)), .val (.int (Int32.ofNat l2)), .val (.ref b115)] [(.int (3 : Int32)), (.ref b101), (.ref b115)]))
      refine own_st (fun _ k => XS.iload X121.here hx rfl (hb hby at_397) rfl k) ?_
      show own_Go p e below s _ _ _ (T121.setTop (mkF m 399 #[.val (.int pa), .val (.int pb), .val (.int pd), .val (.int pe), .val (.int pn), .val (.int (1 : Int32)), .val (.int c0), .val (.int c1), .val (.int c2), .val (.int c3), .val (.ref b101), .val (.ref b106), .val (.ref b108), .val (.int (Int32.ofNat f)), .val (.int (Int32.ofNat l2)), .val (.ref b115)] [(.int (Int32.ofNat f)), (.int (3 : Int32)), (.ref b101), (.ref b115)]))
      refine own_st (fun _ k => XS.iload X121.here hx rfl (hb hby at_399) rfl k) ?_
      show own_Go p e below s _ _ _ (T121.setTop (mkF m 401 #[.val (.int pa), .val (.int pb), .val (.int pd), .val (.int pe), .val (.int pn), .val (.int (1 : Int32)), .val (.int c0), .val (.int c1), .val (.int c2), .val (.int c3), .val (.ref b101), .val (.ref b106), .val (.ref b108), .val (.int (Int32.ofNat f)), .val (.int (Int32.ofNat l2)), .val (.ref b115)] [(.int (Int32.ofNat l2)), (.int (Int32.ofNat f)), (.int (3 : Int32)), (.ref b101), (.ref b115)]))
      obtain ⟨T122, v122, L122, h122, X122, e122, q122, st122⟩ := own_callS X121 hx hZ (y := (⟨"com/example/shelfproof/shelfproof/library/RequestsRequiredPinLaw", "at", "(Ljava/lang/String;[CIII)Z"⟩ : MethodName)) hown (hw _ (List.mem_of_getElem? (i := 95) rfl)) (hw _ (List.mem_of_getElem? (i := 96) rfl)) (hw _ (List.mem_of_getElem? (i := 32) rfl)) (hw _ (List.mem_of_getElem? (i := 97) rfl)) (by decide) (own_bk (W := 0) (atW l Z a0 hw b115 b101 _ [c0, c1, c2, c3] (([c0].drop f).take (l2 + 1 - f)) 3 f l2 h115 n0 O116 CS FM hds (by omega) rfl (by decide) hfl hdb S115 f118) hZ (hw _ (List.mem_of_getElem? (i := 97) rfl)) (hw _ (List.mem_of_getElem? (i := 32) rfl)) (by decide) (by decide)) e121 (by decide) (by decide) (g := (mkF m 401 #[.val (.int pa), .val (.int pb), .val (.int pd), .val (.int pe), .val (.int pn), .val (.int (1 : Int32)), .val (.int c0), .val (.int c1), .val (.int c2), .val (.int c3), .val (.ref b101), .val (.ref b106), .val (.ref b108), .val (.int (Int32.ofNat f)), .val (.int (Int32.ofNat l2)), .val (.ref b115)] [(.int (Int32.ofNat l2)), (.int (Int32.ofNat f)), (.int (3 : Int32)), (.ref b101), (.ref b115)])) rfl (by rw [hml]; rfl) (argsL := [(.ref b115), (.ref b101), (.int (3 : Int32)), (.int (Int32.ofNat f)), (.int (Int32.ofNat l2))]) (rest := []) (lenOf pd__28Ljava_2flang_2fString_3b_5bCIII_29Z rfl) rfl rfl (by show 2 * 0 + _ ≤ _; exact Nat.le_of_eq rfl) (hb hby at_401)
      obtain ⟨rfl, N122q, hq122⟩ := q122
      replace e122 := e122.trans hq122
      refine own_st st122 ?_
      have N122 := Fr.app N121 N122q
      show own_Go p e below s _ _ _ (T122.setTop (mkF m 404 #[.val (.int pa), .val (.int pb), .val (.int pd), .val (.int pe), .val (.int pn), .val (.int (1 : Int32)), .val (.int c0), .val (.int c1), .val (.int c2), .val (.int c3), .val (.ref b101), .val (.ref b106), .val (.ref b108), .val (.int (Int32.ofNat f)), .val (.int (Int32.ofNat l2)), .val (.ref b115)] [(.int (1 : Int32))]))
      refine own_st (fun _ k => XS.ifNo X122.here hx rfl (hb hby at_404) rfl ((if0 _ _).trans (feq (by decide)).1) k) ?_
      show own_Go p e below s _ _ _ (T122.setTop (mkF m 407 #[.val (.int pa), .val (.int pb), .val (.int pd), .val (.int pe), .val (.int pn), .val (.int (1 : Int32)), .val (.int c0), .val (.int c1), .val (.int c2), .val (.int c3), .val (.ref b101), .val (.ref b106), .val (.ref b108), .val (.int (Int32.ofNat f)), .val (.int (Int32.ofNat l2)), .val (.ref b115)] []))
      refine own_st (fun _ k => XS.iconst X122.here hx rfl (hb hby at_407) k) ?_
      show own_Go p e below s _ _ _ (T122.setTop (mkF m 408 #[.val (.int pa), .val (.int pb), .val (.int pd), .val (.int pe), .val (.int pn), .val (.int (1 : Int32)), .val (.int c0), .val (.int c1), .val (.int c2), .val (.int c3), .val (.ref b101), .val (.ref b106), .val (.ref b108), .val (.int (Int32.ofNat f)), .val (.int (Int32.ofNat l2)), .val (.ref b115)] [(.int (1 : Int32))]))
      refine own_st (fun _ k => XS.goto X122.here hx rfl (pc0 := 408) (pc' := 412) rfl (hb hby at_408) (by decide) (by decide) k) ?_
      show own_Go p e below s _ _ _ (T122.setTop (mkF m 412 #[.val (.int pa), .val (.int pb), .val (.int pd), .val (.int pe), .val (.int pn), .val (.int (1 : Int32)), .val (.int c0), .val (.int c1), .val (.int c2), .val (.int c3), .val (.ref b101), .val (.ref b106), .val (.ref b108), .val (.int (Int32.ofNat f)), .val (.int (Int32.ofNat l2)), .val (.ref b115)] [(.int (1 : Int32))]))
      exact own_ret X122 hx hlk e122 hret (by decide) (Or.inl ⟨rfl, Or.inr (Or.inl rfl), _, rfl⟩) (hb hby at_412) (by decide) (by decide) ⟨rfl, N122⟩
    refine own_st (fun _ k => XS.iload X111.here hx rfl (hb hby at_173) rfl k) ?_
    show own_Go p e below s _ _ _ (T111.setTop (mkF m 175 #[.val (.int pa), .val (.int pb), .val (.int pd), .val (.int pe), .val (.int pn), .val (.int (1 : Int32)), .val (.int c0), .val (.int c1), .val (.int c2), .val (.int c3), .val (.ref b101), .val (.ref b106), .val (.ref b108), .unset, .unset, .unset] [(.int c0)]))
    have O123 : Old Z n0 h111 := O110.keep ((Keep.refl h108 [b108]).trans K111 (allS (Or.inl (by simp)) all0)) (allS (by omega) all0)
    obtain ⟨T124, v124, L124, h124, X124, e124, q124, st124⟩ := own_callS X111 hx hZ (y := (⟨"com/example/shelfproof/shelfproof/library/RequestsRequiredPinLaw", "ws", "(C)Z"⟩ : MethodName)) hown (hw _ (List.mem_of_getElem? (i := 30) rfl)) (hw _ (List.mem_of_getElem? (i := 31) rfl)) (hw _ (List.mem_of_getElem? (i := 32) rfl)) (hw _ (List.mem_of_getElem? (i := 33) rfl)) (by decide) (own_bk (W := 0) (wsW l Z a0 hw c0 h111 n0 O123) hZ (hw _ (List.mem_of_getElem? (i := 33) rfl)) (hw _ (List.mem_of_getElem? (i := 32) rfl)) (by decide) (by decide)) e111 (by decide) (by decide) (g := (mkF m 175 #[.val (.int pa), .val (.int pb), .val (.int pd), .val (.int pe), .val (.int pn), .val (.int (1 : Int32)), .val (.int c0), .val (.int c1), .val (.int c2), .val (.int c3), .val (.ref b101), .val (.ref b106), .val (.ref b108), .unset, .unset, .unset] [(.int c0)])) rfl (by rw [hml]; rfl) (argsL := [(.int c0)]) (rest := []) (lenOf pd__28C_29Z rfl) rfl rfl (by show 2 * 0 + _ ≤ _; exact Nat.le_of_eq rfl) (hb hby at_175)
    obtain ⟨rfl, N124q, hq124⟩ := q124
    replace e124 := e124.trans hq124
    refine own_st st124 ?_
    have N124 := Fr.app N111 N124q
    show own_Go p e below s _ _ _ (T124.setTop (mkF m 178 #[.val (.int pa), .val (.int pb), .val (.int pd), .val (.int pe), .val (.int pn), .val (.int (1 : Int32)), .val (.int c0), .val (.int c1), .val (.int c2), .val (.int c3), .val (.ref b101), .val (.ref b106), .val (.ref b108), .unset, .unset, .unset] [(.int (if own_ws c0 then (1 : Int32) else 0))]))
    by_cases c125 : (if own_ws c0 then (1 : Int32) else 0) = (0 : Int32)
    · refine own_st (fun _ k => XS.ifNo X124.here hx rfl (hb hby at_178) rfl ((if0 _ _).trans (teq c125).2) k) ?_
      show own_Go p e below s _ _ _ (T124.setTop (mkF m 181 #[.val (.int pa), .val (.int pb), .val (.int pd), .val (.int pe), .val (.int pn), .val (.int (1 : Int32)), .val (.int c0), .val (.int c1), .val (.int c2), .val (.int c3), .val (.ref b101), .val (.ref b106), .val (.ref b108), .unset, .unset, .unset] []))
      refine own_st (fun _ k => XS.iconst X124.here hx rfl (hb hby at_181) k) ?_
      show own_Go p e below s _ _ _ (T124.setTop (mkF m 182 #[.val (.int pa), .val (.int pb), .val (.int pd), .val (.int pe), .val (.int pn), .val (.int (1 : Int32)), .val (.int c0), .val (.int c1), .val (.int c2), .val (.int c3), .val (.ref b101), .val (.ref b106), .val (.ref b108), .unset, .unset, .unset] [(.int (0 : Int32))]))
      refine own_st (fun _ k => XS.istore X124.here hx rfl (hb hby at_182) rfl (l' := #[.val (.int pa), .val (.int pb), .val (.int pd), .val (.int pe), .val (.int pn), .val (.int (1 : Int32)), .val (.int c0), .val (.int c1), .val (.int c2), .val (.int c3), .val (.ref b101), .val (.ref b106), .val (.ref b108), .val (.int (0 : Int32)), .unset, .unset]) rfl k) ?_
      show own_Go p e below s _ _ _ (T124.setTop (mkF m 184 #[.val (.int pa), .val (.int pb), .val (.int pd), .val (.int pe), .val (.int pn), .val (.int (1 : Int32)), .val (.int c0), .val (.int c1), .val (.int c2), .val (.int c3), .val (.ref b101), .val (.ref b106), .val (.ref b108), .val (.int (0 : Int32)), .unset, .unset] []))
      refine own_st (fun _ k => XS.goto X124.here hx rfl (pc0 := 184) (pc' := 250) rfl (hb hby at_184) (by decide) (by decide) k) ?_
      show own_Go p e below s _ _ _ (T124.setTop (mkF m 250 #[.val (.int pa), .val (.int pb), .val (.int pd), .val (.int pe), .val (.int pn), .val (.int (1 : Int32)), .val (.int c0), .val (.int c1), .val (.int c2), .val (.int c3), .val (.ref b101), .val (.ref b106), .val (.ref b108), .val (.int (0 : Int32)), .unset, .unset] []))
      refine own_st (fun _ k => XS.iload X124.here hx rfl (hb hby at_250) rfl k) ?_
      show own_Go p e below s _ _ _ (T124.setTop (mkF m 252 #[.val (.int pa), .val (.int pb), .val (.int pd), .val (.int pe), .val (.int pn), .val (.int (1 : Int32)), .val (.int c0), .val (.int c1), .val (.int c2), .val (.int c3), .val (.ref b101), .val (.ref b106), .val (.ref b108), .val (.int (0 : Int32)), .unset, .unset] [(.int (0 : Int32))]))
      refine own_st (fun _ k => XS.ifYes X124.here hx rfl (pc0 := 252) (pc' := 257) rfl (hb hby at_252) rfl ((if0 _ _).trans (flt (by decide)).2.1) (by decide) (by decide) k) ?_
      show own_Go p e below s _ _ _ (T124.setTop (mkF m 257 #[.val (.int pa), .val (.int pb), .val (.int pd), .val (.int pe), .val (.int pn), .val (.int (1 : Int32)), .val (.int c0), .val (.int c1), .val (.int c2), .val (.int c3), .val (.ref b101), .val (.ref b106), .val (.ref b108), .val (.int (0 : Int32)), .unset, .unset] []))
      refine own_st (fun _ k => XS.iload X124.here hx rfl (hb hby at_257) rfl k) ?_
      show own_Go p e below s _ _ _ (T124.setTop (mkF m 259 #[.val (.int pa), .val (.int pb), .val (.int pd), .val (.int pe), .val (.int pn), .val (.int (1 : Int32)), .val (.int c0), .val (.int c1), .val (.int c2), .val (.int c3), .val (.ref b101), .val (.ref b106), .val (.ref b108), .val (.int (0 : Int32)), .unset, .unset] [(.int (1 : Int32))]))
      refine own_st (fun _ k => XS.iconst X124.here hx rfl (hb hby at_259) k) ?_
      show own_Go p e below s _ _ _ (T124.setTop (mkF m 260 #[.val (.int pa), .val (.int pb), .val (.int pd), .val (.int pe), .val (.int pn), .val (.int (1 : Int32)), .val (.int c0), .val (.int c1), .val (.int c2), .val (.int c3), .val (.ref b101), .val (.ref b106), .val (.ref b108), .val (.int (0 : Int32)), .unset, .unset] [(.int (3 : Int32)), (.int (1 : Int32))]))
      refine own_st (fun _ k => XS.icmpYes X124.here hx rfl (pc0 := 260) (pc' := 277) rfl (hb hby at_260) rfl (flt (by decide)).2.2.2 (by decide) (by decide) k) ?_
      show own_Go p e below s _ _ _ (T124.setTop (mkF m 277 #[.val (.int pa), .val (.int pb), .val (.int pd), .val (.int pe), .val (.int pn), .val (.int (1 : Int32)), .val (.int c0), .val (.int c1), .val (.int c2), .val (.int c3), .val (.ref b101), .val (.ref b106), .val (.ref b108), .val (.int (0 : Int32)), .unset, .unset] []))
      refine own_st (fun _ k => XS.iload X124.here hx rfl (hb hby at_277) rfl k) ?_
      show own_Go p e below s _ _ _ (T124.setTop (mkF m 279 #[.val (.int pa), .val (.int pb), .val (.int pd), .val (.int pe), .val (.int pn), .val (.int (1 : Int32)), .val (.int c0), .val (.int c1), .val (.int c2), .val (.int c3), .val (.ref b101), .val (.ref b106), .val (.ref b108), .val (.int (0 : Int32)), .unset, .unset] [(.int (1 : Int32))]))
      refine own_st (fun _ k => XS.iconst X124.here hx rfl (hb hby at_279) k) ?_
      show own_Go p e below s _ _ _ (T124.setTop (mkF m 280 #[.val (.int pa), .val (.int pb), .val (.int pd), .val (.int pe), .val (.int pn), .val (.int (1 : Int32)), .val (.int c0), .val (.int c1), .val (.int c2), .val (.int c3), .val (.ref b101), .val (.ref b106), .val (.ref b108), .val (.int (0 : Int32)), .unset, .unset] [(.int (2 : Int32)), (.int (1 : Int32))]))
      refine own_st (fun _ k => XS.icmpYes X124.here hx rfl (pc0 := 280) (pc' := 297) rfl (hb hby at_280) rfl (flt (by decide)).2.2.2 (by decide) (by decide) k) ?_
      show own_Go p e below s _ _ _ (T124.setTop (mkF m 297 #[.val (.int pa), .val (.int pb), .val (.int pd), .val (.int pe), .val (.int pn), .val (.int (1 : Int32)), .val (.int c0), .val (.int c1), .val (.int c2), .val (.int c3), .val (.ref b101), .val (.ref b106), .val (.ref b108), .val (.int (0 : Int32)), .unset, .unset] []))
      refine own_st (fun _ k => XS.iload X124.here hx rfl (hb hby at_297) rfl k) ?_
      show own_Go p e below s _ _ _ (T124.setTop (mkF m 299 #[.val (.int pa), .val (.int pb), .val (.int pd), .val (.int pe), .val (.int pn), .val (.int (1 : Int32)), .val (.int c0), .val (.int c1), .val (.int c2), .val (.int c3), .val (.ref b101), .val (.ref b106), .val (.ref b108), .val (.int (0 : Int32)), .unset, .unset] [(.int (1 : Int32))]))
      refine own_st (fun _ k => XS.iconst X124.here hx rfl (hb hby at_299) k) ?_
      show own_Go p e below s _ _ _ (T124.setTop (mkF m 300 #[.val (.int pa), .val (.int pb), .val (.int pd), .val (.int pe), .val (.int pn), .val (.int (1 : Int32)), .val (.int c0), .val (.int c1), .val (.int c2), .val (.int c3), .val (.ref b101), .val (.ref b106), .val (.ref b108), .val (.int (0 : Int32)), .unset, .unset] [(.int (1 : Int32)), (.int (1 : Int32))]))
      refine own_st (fun _ k => XS.icmpYes X124.here hx rfl (pc0 := 300) (pc' := 317) rfl (hb hby at_300) rfl (flt (by decide)).2.2.2 (by decide) (by decide) k) ?_
      show own_Go p e below s _ _ _ (T124.setTop (mkF m 317 #[.val (.int pa), .val (.int pb), .val (.int pd), .val (.int pe), .val (.int pn), .val (.int (1 : Int32)), .val (.int c0), .val (.int c1), .val (.int c2), .val (.int c3), .val (.ref b101), .val (.ref b106), .val (.ref b108), .val (.int (0 : Int32)), .unset, .unset] []))
      refine own_st (fun _ k => XS.iconst X124.here hx rfl (hb hby at_317) k) ?_
      show own_Go p e below s _ _ _ (T124.setTop (mkF m 318 #[.val (.int pa), .val (.int pb), .val (.int pd), .val (.int pe), .val (.int pn), .val (.int (1 : Int32)), .val (.int c0), .val (.int c1), .val (.int c2), .val (.int c3), .val (.ref b101), .val (.ref b106), .val (.ref b108), .val (.int (0 : Int32)), .unset, .unset] [(.int (0 : Int32))]))
      refine own_st (fun _ k => XS.istore X124.here hx rfl (hb hby at_318) rfl (l' := #[.val (.int pa), .val (.int pb), .val (.int pd), .val (.int pe), .val (.int pn), .val (.int (1 : Int32)), .val (.int c0), .val (.int c1), .val (.int c2), .val (.int c3), .val (.ref b101), .val (.ref b106), .val (.ref b108), .val (.int (0 : Int32)), .val (.int (0 : Int32)), .unset]) rfl k) ?_
      show own_Go p e below s _ _ _ (T124.setTop (mkF m 320 #[.val (.int pa), .val (.int pb), .val (.int pd), .val (.int pe), .val (.int pn), .val (.int (1 : Int32)), .val (.int c0), .val (.int c1), .val (.int c2), .val (.int c3), .val (.ref b101), .val (.ref b106), .val (.ref b108), .val (.int (0 : Int32)), .val (.int (0 : Int32)), .unset] []))
      exact G112 _ _ 0 0 (by decide) (fun j hj => absurd hj (by omega)) (own_ifF c125) (by decide) (by decide) (fun j hj hj2 => absurd hj2 (by omega)) (own_ifF c125) X124 e124 N124
    · refine own_st (fun _ k => XS.ifYes X124.here hx rfl (pc0 := 178) (pc' := 187) rfl (hb hby at_178) rfl ((if0 _ _).trans (feq c125).2) (by decide) (by decide) k) ?_
      show own_Go p e below s _ _ _ (T124.setTop (mkF m 187 #[.val (.int pa), .val (.int pb), .val (.int pd), .val (.int pe), .val (.int pn), .val (.int (1 : Int32)), .val (.int c0), .val (.int c1), .val (.int c2), .val (.int c3), .val (.ref b101), .val (.ref b106), .val (.ref b108), .unset, .unset, .unset] []))
      refine own_st (fun _ k => XS.iload X124.here hx rfl (hb hby at_187) rfl k) ?_
      show own_Go p e below s _ _ _ (T124.setTop (mkF m 189 #[.val (.int pa), .val (.int pb), .val (.int pd), .val (.int pe), .val (.int pn), .val (.int (1 : Int32)), .val (.int c0), .val (.int c1), .val (.int c2), .val (.int c3), .val (.ref b101), .val (.ref b106), .val (.ref b108), .unset, .unset, .unset] [(.int (1 : Int32))]))
      refine own_st (fun _ k => XS.iconst X124.here hx rfl (hb hby at_189) k) ?_
      show own_Go p e below s _ _ _ (T124.setTop (mkF m 190 #[.val (.int pa), .val (.int pb), .val (.int pd), .val (.int pe), .val (.int pn), .val (.int (1 : Int32)), .val (.int c0), .val (.int c1), .val (.int c2), .val (.int c3), .val (.ref b101), .val (.ref b106), .val (.ref b108), .unset, .unset, .unset] [(.int (1 : Int32)), (.int (1 : Int32))]))
      refine own_st (fun _ k => XS.icmpYes X124.here hx rfl (pc0 := 190) (pc' := 207) rfl (hb hby at_190) rfl (flt (by decide)).2.2.2 (by decide) (by decide) k) ?_
      show own_Go p e below s _ _ _ (T124.setTop (mkF m 207 #[.val (.int pa), .val (.int pb), .val (.int pd), .val (.int pe), .val (.int pn), .val (.int (1 : Int32)), .val (.int c0), .val (.int c1), .val (.int c2), .val (.int c3), .val (.ref b101), .val (.ref b106), .val (.ref b108), .unset, .unset, .unset] []))
      refine own_st (fun _ k => XS.iload X124.here hx rfl (hb hby at_207) rfl k) ?_
      show own_Go p e below s _ _ _ (T124.setTop (mkF m 209 #[.val (.int pa), .val (.int pb), .val (.int pd), .val (.int pe), .val (.int pn), .val (.int (1 : Int32)), .val (.int c0), .val (.int c1), .val (.int c2), .val (.int c3), .val (.ref b101), .val (.ref b106), .val (.ref b108), .unset, .unset, .unset] [(.int (1 : Int32))]))
      refine own_st (fun _ k => XS.iconst X124.here hx rfl (hb hby at_209) k) ?_
      show own_Go p e below s _ _ _ (T124.setTop (mkF m 210 #[.val (.int pa), .val (.int pb), .val (.int pd), .val (.int pe), .val (.int pn), .val (.int (1 : Int32)), .val (.int c0), .val (.int c1), .val (.int c2), .val (.int c3), .val (.ref b101), .val (.ref b106), .val (.ref b108), .unset, .unset, .unset] [(.int (2 : Int32)), (.int (1 : Int32))]))
      refine own_st (fun _ k => XS.icmpYes X124.here hx rfl (pc0 := 210) (pc' := 227) rfl (hb hby at_210) rfl (flt (by decide)).2.2.2 (by decide) (by decide) k) ?_
      show own_Go p e below s _ _ _ (T124.setTop (mkF m 227 #[.val (.int pa), .val (.int pb), .val (.int pd), .val (.int pe), .val (.int pn), .val (.int (1 : Int32)), .val (.int c0), .val (.int c1), .val (.int c2), .val (.int c3), .val (.ref b101), .val (.ref b106), .val (.ref b108), .unset, .unset, .unset] []))
      refine own_st (fun _ k => XS.iload X124.here hx rfl (hb hby at_227) rfl k) ?_
      show own_Go p e below s _ _ _ (T124.setTop (mkF m 229 #[.val (.int pa), .val (.int pb), .val (.int pd), .val (.int pe), .val (.int pn), .val (.int (1 : Int32)), .val (.int c0), .val (.int c1), .val (.int c2), .val (.int c3), .val (.ref b101), .val (.ref b106), .val (.ref b108), .unset, .unset, .unset] [(.int (1 : Int32))]))
      refine own_st (fun _ k => XS.iconst X124.here hx rfl (hb hby at_229) k) ?_
      show own_Go p e below s _ _ _ (T124.setTop (mkF m 230 #[.val (.int pa), .val (.int pb), .val (.int pd), .val (.int pe), .val (.int pn), .val (.int (1 : Int32)), .val (.int c0), .val (.int c1), .val (.int c2), .val (.int c3), .val (.ref b101), .val (.ref b106), .val (.ref b108), .unset, .unset, .unset] [(.int (3 : Int32)), (.int (1 : Int32))]))
      refine own_st (fun _ k => XS.icmpYes X124.here hx rfl (pc0 := 230) (pc' := 247) rfl (hb hby at_230) rfl (flt (by decide)).2.2.2 (by decide) (by decide) k) ?_
      show own_Go p e below s _ _ _ (T124.setTop (mkF m 247 #[.val (.int pa), .val (.int pb), .val (.int pd), .val (.int pe), .val (.int pn), .val (.int (1 : Int32)), .val (.int c0), .val (.int c1), .val (.int c2), .val (.int c3), .val (.ref b101), .val (.ref b106), .val (.ref b108), .unset, .unset, .unset] []))
      refine own_st (fun _ k => XS.iconst X124.here hx rfl (hb hby at_247) k) ?_
      show own_Go p e below s _ _ _ (T124.setTop (mkF m 248 #[.val (.int pa), .val (.int pb), .val (.int pd), .val (.int pe), .val (.int pn), .val (.int (1 : Int32)), .val (.int c0), .val (.int c1), .val (.int c2), .val (.int c3), .val (.ref b101), .val (.ref b106), .val (.ref b108), .unset, .unset, .unset] [(.int (-1 : Int32))]))
      refine own_st (fun _ k => XS.istore X124.here hx rfl (hb hby at_248) rfl (l' := #[.val (.int pa), .val (.int pb), .val (.int pd), .val (.int pe), .val (.int pn), .val (.int (1 : Int32)), .val (.int c0), .val (.int c1), .val (.int c2), .val (.int c3), .val (.ref b101), .val (.ref b106), .val (.ref b108), .val (.int (-1 : Int32)), .unset, .unset]) rfl k) ?_
      show own_Go p e below s _ _ _ (T124.setTop (mkF m 250 #[.val (.int pa), .val (.int pb), .val (.int pd), .val (.int pe), .val (.int pn), .val (.int (1 : Int32)), .val (.int c0), .val (.int c1), .val (.int c2), .val (.int c3), .val (.ref b101), .val (.ref b106), .val (.ref b108), .val (.int (-1 : Int32)), .unset, .unset] []))
      refine own_st (fun _ k => XS.iload X124.here hx rfl (hb hby at_250) rfl k) ?_
      show own_Go p e below s _ _ _ (T124.setTop (mkF m 252 #[.val (.int pa), .val (.int pb), .val (.int pd), .val (.int pe), .val (.int pn), .val (.int (1 : Int32)), .val (.int c0), .val (.int c1), .val (.int c2), .val (.int c3), .val (.ref b101), .val (.ref b106), .val (.ref b108), .val (.int (-1 : Int32)), .unset, .unset] [(.int (-1 : Int32))]))
      refine own_st (fun _ k => XS.ifNo X124.here hx rfl (hb hby at_252) rfl ((if0 _ _).trans (tlt (by decide)).2.1) k) ?_
      show own_Go p e below s _ _ _ (T124.setTop (mkF m 255 #[.val (.int pa), .val (.int pb), .val (.int pd), .val (.int pe), .val (.int pn), .val (.int (1 : Int32)), .val (.int c0), .val (.int c1), .val (.int c2), .val (.int c3), .val (.ref b101), .val (.ref b106), .val (.ref b108), .val (.int (-1 : Int32)), .unset, .unset] []))
      refine own_st (fun _ k => XS.iconst X124.here hx rfl (hb hby at_255) k) ?_
      show own_Go p e below s _ _ _ (T124.setTop (mkF m 256 #[.val (.int pa), .val (.int pb), .val (.int pd), .val (.int pe), .val (.int pn), .val (.int (1 : Int32)), .val (.int c0), .val (.int c1), .val (.int c2), .val (.int c3), .val (.ref b101), .val (.ref b106), .val (.ref b108), .val (.int (-1 : Int32)), .unset, .unset] [(.int (1 : Int32))]))
      exact own_ret X124 hx hlk e124 hret (by decide) (Or.inl ⟨rfl, Or.inr (Or.inl rfl), _, rfl⟩) (hb hby at_256) (by decide) (by decide) ⟨rfl, N124⟩
  · rw [hn2]
    show own_Go p e below s _ _ _ (T0.setTop (mkF m 6 #[.val (.int pa), .val (.int pb), .val (.int pd), .val (.int pe), .val (.int pn), .unset, .unset, .unset, .unset, .unset, .unset, .unset, .unset, .unset, .unset, .unset] [(.int (2 : Int32))]))
    refine own_st (fun _ k => XS.istore X0.here hx rfl (hb hby at_6) rfl (l' := #[.val (.int pa), .val (.int pb), .val (.int pd), .val (.int pe), .val (.int pn), .val (.int (2 : Int32)), .unset, .unset, .unset, .unset, .unset, .unset, .unset, .unset, .unset, .unset]) rfl k) ?_
    show own_Go p e below s _ _ _ (T0.setTop (mkF m 8 #[.val (.int pa), .val (.int pb), .val (.int pd), .val (.int pe), .val (.int pn), .val (.int (2 : Int32)), .unset, .unset, .unset, .unset, .unset, .unset, .unset, .unset, .unset, .unset] []))
    refine own_st (fun _ k => XS.iloadN X0.here hx rfl (hb hby at_8) rfl k) ?_
    show own_Go p e below s _ _ _ (T0.setTop (mkF m 9 #[.val (.int pa), .val (.int pb), .val (.int pd), .val (.int pe), .val (.int pn), .val (.int (2 : Int32)), .unset, .unset, .unset, .unset, .unset, .unset, .unset, .unset, .unset, .unset] [(.int pa)]))
    refine own_st (fun _ k => XS.sipush X0.here hx rfl (hb hby at_9) k) ?_
    show own_Go p e below s _ _ _ (T0.setTop (mkF m 12 #[.val (.int pa), .val (.int pb), .val (.int pd), .val (.int pe), .val (.int pn), .val (.int (2 : Int32)), .unset, .unset, .unset, .unset, .unset, .unset, .unset, .unset, .unset, .unset] [(.int (255 : Int32)), (.int pa)]))
    refine own_st (fun _ k => XS.iand X0.here hx rfl (hb hby at_12) rfl k) ?_
    show own_Go p e below s _ _ _ (T0.setTop (mkF m 13 #[.val (.int pa), .val (.int pb), .val (.int pd), .val (.int pe), .val (.int pn), .val (.int (2 : Int32)), .unset, .unset, .unset, .unset, .unset, .unset, .unset, .unset, .unset, .unset] [(.int (pa &&& (255 : Int32)))]))
    refine own_st (fun _ k => XS.i2c X0.here hx rfl (hb hby at_13) rfl k) ?_
    show own_Go p e below s _ _ _ (T0.setTop (mkF m 14 #[.val (.int pa), .val (.int pb), .val (.int pd), .val (.int pe), .val (.int pn), .val (.int (2 : Int32)), .unset, .unset, .unset, .unset, .unset, .unset, .unset, .unset, .unset, .unset] [(.int ((pa &&& (255 : Int32)).toUInt32.toUInt16.toUInt32.toInt32))]))
    obtain ⟨c0, ec0, hc0⟩ : ∃ c : Int32, ((pa &&& (255 : Int32)).toUInt32.toUInt16.toUInt32.toInt32) = c ∧ (¬ c < 0 ∧ ¬ (255 : Int32) < c) := ⟨_, rfl, by rw [own_i2cm]; exact own_m255 _⟩
    rw [ec0]
    show own_Go p e below s _ _ _ (T0.setTop (mkF m 14 #[.val (.int pa), .val (.int pb), .val (.int pd), .val (.int pe), .val (.int pn), .val (.int (2 : Int32)), .unset, .unset, .unset, .unset, .unset, .unset, .unset, .unset, .unset, .unset] [(.int c0)]))
    refine own_st (fun _ k => XS.istore X0.here hx rfl (hb hby at_14) rfl (l' := #[.val (.int pa), .val (.int pb), .val (.int pd), .val (.int pe), .val (.int pn), .val (.int (2 : Int32)), .val (.int c0), .unset, .unset, .unset, .unset, .unset, .unset, .unset, .unset, .unset]) rfl k) ?_
    show own_Go p e below s _ _ _ (T0.setTop (mkF m 16 #[.val (.int pa), .val (.int pb), .val (.int pd), .val (.int pe), .val (.int pn), .val (.int (2 : Int32)), .val (.int c0), .unset, .unset, .unset, .unset, .unset, .unset, .unset, .unset, .unset] []))
    refine own_st (fun _ k => XS.iloadN X0.here hx rfl (hb hby at_16) rfl k) ?_
    show own_Go p e below s _ _ _ (T0.setTop (mkF m 17 #[.val (.int pa), .val (.int pb), .val (.int pd), .val (.int pe), .val (.int pn), .val (.int (2 : Int32)), .val (.int c0), .unset, .unset, .unset, .unset, .unset, .unset, .unset, .unset, .unset] [(.int pb)]))
    refine own_st (fun _ k => XS.sipush X0.here hx rfl (hb hby at_17) k) ?_
    show own_Go p e below s _ _ _ (T0.setTop (mkF m 20 #[.val (.int pa), .val (.int pb), .val (.int pd), .val (.int pe), .val (.int pn), .val (.int (2 : Int32)), .val (.int c0), .unset, .unset, .unset, .unset, .unset, .unset, .unset, .unset, .unset] [(.int (255 : Int32)), (.int pb)]))
    refine own_st (fun _ k => XS.iand X0.here hx rfl (hb hby at_20) rfl k) ?_
    show own_Go p e below s _ _ _ (T0.setTop (mkF m 21 #[.val (.int pa), .val (.int pb), .val (.int pd), .val (.int pe), .val (.int pn), .val (.int (2 : Int32)), .val (.int c0), .unset, .unset, .unset, .unset, .unset, .unset, .unset, .unset, .unset] [(.int (pb &&& (255 : Int32)))]))
    refine own_st (fun _ k => XS.i2c X0.here hx rfl (hb hby at_21) rfl k) ?_
    show own_Go p e below s _ _ _ (T0.setTop (mkF m 22 #[.val (.int pa), .val (.int pb), .val (.int pd), .val (.int pe), .val (.int pn), .val (.int (2 : Int32)), .val (.int c0), .unset, .unset, .unset, .unset, .unset, .unset, .unset, .unset, .unset] [(.int ((pb &&& (255 : Int32)).toUInt32.toUInt16.toUInt32.toInt32))]))
    obtain ⟨c1, ec1, hc1⟩ : ∃ c : Int32, ((pb &&& (255 : Int32)).toUInt32.toUInt16.toUInt32.toInt32) = c ∧ (¬ c < 0 ∧ ¬ (255 : Int32) < c) := ⟨_, rfl, by rw [own_i2cm]; exact own_m255 _⟩
    rw [ec1]
    show own_Go p e below s _ _ _ (T0.setTop (mkF m 22 #[.val (.int pa), .val (.int pb), .val (.int pd), .val (.int pe), .val (.int pn), .val (.int (2 : Int32)), .val (.int c0), .unset, .unset, .unset, .unset, .unset, .unset, .unset, .unset, .unset] [(.int c1)]))
    refine own_st (fun _ k => XS.istore X0.here hx rfl (hb hby at_22) rfl (l' := #[.val (.int pa), .val (.int pb), .val (.int pd), .val (.int pe), .val (.int pn), .val (.int (2 : Int32)), .val (.int c0), .val (.int c1), .unset, .unset, .unset, .unset, .unset, .unset, .unset, .unset]) rfl k) ?_
    show own_Go p e below s _ _ _ (T0.setTop (mkF m 24 #[.val (.int pa), .val (.int pb), .val (.int pd), .val (.int pe), .val (.int pn), .val (.int (2 : Int32)), .val (.int c0), .val (.int c1), .unset, .unset, .unset, .unset, .unset, .unset, .unset, .unset] []))
    refine own_st (fun _ k => XS.iloadN X0.here hx rfl (hb hby at_24) rfl k) ?_
    show own_Go p e below s _ _ _ (T0.setTop (mkF m 25 #[.val (.int pa), .val (.int pb), .val (.int pd), .val (.int pe), .val (.int pn), .val (.int (2 : Int32)), .val (.int c0), .val (.int c1), .unset, .unset, .unset, .unset, .unset, .unset, .unset, .unset] [(.int pd)]))
    refine own_st (fun _ k => XS.sipush X0.here hx rfl (hb hby at_25) k) ?_
    show own_Go p e below s _ _ _ (T0.setTop (mkF m 28 #[.val (.int pa), .val (.int pb), .val (.int pd), .val (.int pe), .val (.int pn), .val (.int (2 : Int32)), .val (.int c0), .val (.int c1), .unset, .unset, .unset, .unset, .unset, .unset, .unset, .unset] [(.int (255 : Int32)), (.int pd)]))
    refine own_st (fun _ k => XS.iand X0.here hx rfl (hb hby at_28) rfl k) ?_
    show own_Go p e below s _ _ _ (T0.setTop (mkF m 29 #[.val (.int pa), .val (.int pb), .val (.int pd), .val (.int pe), .val (.int pn), .val (.int (2 : Int32)), .val (.int c0), .val (.int c1), .unset, .unset, .unset, .unset, .unset, .unset, .unset, .unset] [(.int (pd &&& (255 : Int32)))]))
    refine own_st (fun _ k => XS.i2c X0.here hx rfl (hb hby at_29) rfl k) ?_
    show own_Go p e below s _ _ _ (T0.setTop (mkF m 30 #[.val (.int pa), .val (.int pb), .val (.int pd), .val (.int pe), .val (.int pn), .val (.int (2 : Int32)), .val (.int c0), .val (.int c1), .unset, .unset, .unset, .unset, .unset, .unset, .unset, .unset] [(.int ((pd &&& (255 : Int32)).toUInt32.toUInt16.toUInt32.toInt32))]))
    obtain ⟨c2, ec2, hc2⟩ : ∃ c : Int32, ((pd &&& (255 : Int32)).toUInt32.toUInt16.toUInt32.toInt32) = c ∧ (¬ c < 0 ∧ ¬ (255 : Int32) < c) := ⟨_, rfl, by rw [own_i2cm]; exact own_m255 _⟩
    rw [ec2]
    show own_Go p e below s _ _ _ (T0.setTop (mkF m 30 #[.val (.int pa), .val (.int pb), .val (.int pd), .val (.int pe), .val (.int pn), .val (.int (2 : Int32)), .val (.int c0), .val (.int c1), .unset, .unset, .unset, .unset, .unset, .unset, .unset, .unset] [(.int c2)]))
    refine own_st (fun _ k => XS.istore X0.here hx rfl (hb hby at_30) rfl (l' := #[.val (.int pa), .val (.int pb), .val (.int pd), .val (.int pe), .val (.int pn), .val (.int (2 : Int32)), .val (.int c0), .val (.int c1), .val (.int c2), .unset, .unset, .unset, .unset, .unset, .unset, .unset]) rfl k) ?_
    show own_Go p e below s _ _ _ (T0.setTop (mkF m 32 #[.val (.int pa), .val (.int pb), .val (.int pd), .val (.int pe), .val (.int pn), .val (.int (2 : Int32)), .val (.int c0), .val (.int c1), .val (.int c2), .unset, .unset, .unset, .unset, .unset, .unset, .unset] []))
    refine own_st (fun _ k => XS.iloadN X0.here hx rfl (hb hby at_32) rfl k) ?_
    show own_Go p e below s _ _ _ (T0.setTop (mkF m 33 #[.val (.int pa), .val (.int pb), .val (.int pd), .val (.int pe), .val (.int pn), .val (.int (2 : Int32)), .val (.int c0), .val (.int c1), .val (.int c2), .unset, .unset, .unset, .unset, .unset, .unset, .unset] [(.int pe)]))
    refine own_st (fun _ k => XS.sipush X0.here hx rfl (hb hby at_33) k) ?_
    show own_Go p e below s _ _ _ (T0.setTop (mkF m 36 #[.val (.int pa), .val (.int pb), .val (.int pd), .val (.int pe), .val (.int pn), .val (.int (2 : Int32)), .val (.int c0), .val (.int c1), .val (.int c2), .unset, .unset, .unset, .unset, .unset, .unset, .unset] [(.int (255 : Int32)), (.int pe)]))
    refine own_st (fun _ k => XS.iand X0.here hx rfl (hb hby at_36) rfl k) ?_
    show own_Go p e below s _ _ _ (T0.setTop (mkF m 37 #[.val (.int pa), .val (.int pb), .val (.int pd), .val (.int pe), .val (.int pn), .val (.int (2 : Int32)), .val (.int c0), .val (.int c1), .val (.int c2), .unset, .unset, .unset, .unset, .unset, .unset, .unset] [(.int (pe &&& (255 : Int32)))]))
    refine own_st (fun _ k => XS.i2c X0.here hx rfl (hb hby at_37) rfl k) ?_
    show own_Go p e below s _ _ _ (T0.setTop (mkF m 38 #[.val (.int pa), .val (.int pb), .val (.int pd), .val (.int pe), .val (.int pn), .val (.int (2 : Int32)), .val (.int c0), .val (.int c1), .val (.int c2), .unset, .unset, .unset, .unset, .unset, .unset, .unset] [(.int ((pe &&& (255 : Int32)).toUInt32.toUInt16.toUInt32.toInt32))]))
    obtain ⟨c3, ec3, hc3⟩ : ∃ c : Int32, ((pe &&& (255 : Int32)).toUInt32.toUInt16.toUInt32.toInt32) = c ∧ (¬ c < 0 ∧ ¬ (255 : Int32) < c) := ⟨_, rfl, by rw [own_i2cm]; exact own_m255 _⟩
    rw [ec3]
    show own_Go p e below s _ _ _ (T0.setTop (mkF m 38 #[.val (.int pa), .val (.int pb), .val (.int pd), .val (.int pe), .val (.int pn), .val (.int (2 : Int32)), .val (.int c0), .val (.int c1), .val (.int c2), .unset, .unset, .unset, .unset, .unset, .unset, .unset] [(.int c3)]))
    refine own_st (fun _ k => XS.istore X0.here hx rfl (hb hby at_38) rfl (l' := #[.val (.int pa), .val (.int pb), .val (.int pd), .val (.int pe), .val (.int pn), .val (.int (2 : Int32)), .val (.int c0), .val (.int c1), .val (.int c2), .val (.int c3), .unset, .unset, .unset, .unset, .unset, .unset]) rfl k) ?_
    show own_Go p e below s _ _ _ (T0.setTop (mkF m 40 #[.val (.int pa), .val (.int pb), .val (.int pd), .val (.int pe), .val (.int pn), .val (.int (2 : Int32)), .val (.int c0), .val (.int c1), .val (.int c2), .val (.int c3), .unset, .unset, .unset, .unset, .unset, .unset] []))
    refine own_st (fun _ k => XS.iconst X0.here hx rfl (hb hby at_40) k) ?_
    show own_Go p e below s _ _ _ (T0.setTop (mkF m 41 #[.val (.int pa), .val (.int pb), .val (.int pd), .val (.int pe), .val (.int pn), .val (.int (2 : Int32)), .val (.int c0), .val (.int c1), .val (.int c2), .val (.int c3), .unset, .unset, .unset, .unset, .unset, .unset] [(.int (4 : Int32))]))
    obtain ⟨T126, h126, k126, X126, e126, E126, A126, st126⟩ := newP X0 hx hZ (hw _ (List.mem_of_getElem? (i := 0) rfl)) e0 (g := (mkF m 41 #[.val (.int pa), .val (.int pb), .val (.int pd), .val (.int pe), .val (.int pn), .val (.int (2 : Int32)), .val (.int c0), .val (.int c1), .val (.int c2), .val (.int c3), .unset, .unset, .unset, .unset, .unset, .unset] [(.int (4 : Int32))])) rfl (hb hby at_41) rfl (by decide) (cap := 4) (by decide) (by decide) (by decide) (by decide)
    obtain ⟨b126, g126⟩ : ∃ z, z = h0.size := ⟨_, rfl⟩
    rw [← g126] at A126 st126
    have K126 : Keep h0 h126 [] := (Keep.refl _ _).ext E126
    have l126 : b126 < h126.size := A126.lt
    refine own_st st126 ?_
    have zK126 := K126.1
    have V126 : Arv Z h126 b126 k126 .char (4 : Int32) [(.int (0 : Int32)), (.int (0 : Int32)), (.int (0 : Int32)), (.int (0 : Int32))] (.int (0 : Int32)) := (Arv.new A126 (by decide)).pad (pad_rep [] (.int (0 : Int32)) 4)
    show own_Go p e below s _ _ _ (T126.setTop (mkF m 43 #[.val (.int pa), .val (.int pb), .val (.int pd), .val (.int pe), .val (.int pn), .val (.int (2 : Int32)), .val (.int c0), .val (.int c1), .val (.int c2), .val (.int c3), .unset, .unset, .unset, .unset, .unset, .unset] [(.ref b126)]))
    refine own_st (fun _ k => XS.dup X126.here hx rfl (hb hby at_43) rfl rfl k) ?_
    show own_Go p e below s _ _ _ (T126.setTop (mkF m 44 #[.val (.int pa), .val (.int pb), .val (.int pd), .val (.int pe), .val (.int pn), .val (.int (2 : Int32)), .val (.int c0), .val (.int c1), .val (.int c2), .val (.int c3), .unset, .unset, .unset, .unset, .unset, .unset] [(.ref b126), (.ref b126)]))
    refine own_st (fun _ k => XS.iconst X126.here hx rfl (hb hby at_44) k) ?_
    show own_Go p e below s _ _ _ (T126.setTop (mkF m 45 #[.val (.int pa), .val (.int pb), .val (.int pd), .val (.int pe), .val (.int pn), .val (.int (2 : Int32)), .val (.int c0), .val (.int c1), .val (.int c2), .val (.int c3), .unset, .unset, .unset, .unset, .unset, .unset] [(.int (0 : Int32)), (.ref b126), (.ref b126)]))
    refine own_st (fun _ k => XS.iload X126.here hx rfl (hb hby at_45) rfl k) ?_
    show own_Go p e below s _ _ _ (T126.setTop (mkF m 47 #[.val (.int pa), .val (.int pb), .val (.int pd), .val (.int pe), .val (.int pn), .val (.int (2 : Int32)), .val (.int c0), .val (.int c1), .val (.int c2), .val (.int c3), .unset, .unset, .unset, .unset, .unset, .unset] [(.int c0), (.int (0 : Int32)), (.ref b126), (.ref b126)]))
    obtain ⟨c127, Ar127, q127, S127, M127, H127, U127⟩ := V126
    obtain ⟨T127, h127, X127, e127, W127, st127⟩ := stC X126 hx hZ e126 Ar127 (j := (0 : Int32)) (inb_of S127 ⟨by decide, by decide⟩) (g := (mkF m 47 #[.val (.int pa), .val (.int pb), .val (.int pd), .val (.int pe), .val (.int pn), .val (.int (2 : Int32)), .val (.int c0), .val (.int c1), .val (.int c2), .val (.int c3), .unset, .unset, .unset, .unset, .unset, .unset] [(.int c0), (.int (0 : Int32)), (.ref b126), (.ref b126)])) rfl rfl (hb hby at_47)
    have V127 : Arv Z h127 b126 k126 .char (4 : Int32) [(.int c0), (.int (0 : Int32)), (.int (0 : Int32)), (.int (0 : Int32))] (.int (0 : Int32)) := by
      have q := Arv.set Ar127 q127 S127 M127 H127 U127 (fits_nar_char _) W127 0 rfl (Nat.le_of_ble_eq_true rfl)
      rw [own_narC (own_up1 hc0)] at q
      exact q
    have K127 := Keep.of_wr W127
    have N127 := Fr.snoc X127 N0 (by omega : n0 ≤ b126)
    refine own_st st127 ?_
    have zK127 := K127.1
    show own_Go p e below s _ _ _ (T127.setTop (mkF m 48 #[.val (.int pa), .val (.int pb), .val (.int pd), .val (.int pe), .val (.int pn), .val (.int (2 : Int32)), .val (.int c0), .val (.int c1), .val (.int c2), .val (.int c3), .unset, .unset, .unset, .unset, .unset, .unset] [(.ref b126)]))
    refine own_st (fun _ k => XS.dup X127.here hx rfl (hb hby at_48) rfl rfl k) ?_
    show own_Go p e below s _ _ _ (T127.setTop (mkF m 49 #[.val (.int pa), .val (.int pb), .val (.int pd), .val (.int pe), .val (.int pn), .val (.int (2 : Int32)), .val (.int c0), .val (.int c1), .val (.int c2), .val (.int c3), .unset, .unset, .unset, .unset, .unset, .unset] [(.ref b126), (.ref b126)]))
    refine own_st (fun _ k => XS.iconst X127.here hx rfl (hb hby at_49) k) ?_
    show own_Go p e below s _ _ _ (T127.setTop (mkF m 50 #[.val (.int pa), .val (.int pb), .val (.int pd), .val (.int pe), .val (.int pn), .val (.int (2 : Int32)), .val (.int c0), .val (.int c1), .val (.int c2), .val (.int c3), .unset, .unset, .unset, .unset, .unset, .unset] [(.int (1 : Int32)), (.ref b126), (.ref b126)]))
    refine own_st (fun _ k => XS.iload X127.here hx rfl (hb hby at_50) rfl k) ?_
    show own_Go p e below s _ _ _ (T127.setTop (mkF m 52 #[.val (.int pa), .val (.int pb), .val (.int pd), .val (.int pe), .val (.int pn), .val (.int (2 : Int32)), .val (.int c0), .val (.int c1), .val (.int c2), .val (.int c3), .unset, .unset, .unset, .unset, .unset, .unset] [(.int c1), (.int (1 : Int32)), (.ref b126), (.ref b126)]))
    obtain ⟨c128, Ar128, q128, S128, M128, H128, U128⟩ := V127
    obtain ⟨T128, h128, X128, e128, W128, st128⟩ := stC X127 hx hZ e127 Ar128 (j := (1 : Int32)) (inb_of S128 ⟨by decide, by decide⟩) (g := (mkF m 52 #[.val (.int pa), .val (.int pb), .val (.int pd), .val (.int pe), .val (.int pn), .val (.int (2 : Int32)), .val (.int c0), .val (.int c1), .val (.int c2), .val (.int c3), .unset, .unset, .unset, .unset, .unset, .unset] [(.int c1), (.int (1 : Int32)), (.ref b126), (.ref b126)])) rfl rfl (hb hby at_52)
    have V128 : Arv Z h128 b126 k126 .char (4 : Int32) [(.int c0), (.int c1), (.int (0 : Int32)), (.int (0 : Int32))] (.int (0 : Int32)) := by
      have q := Arv.set Ar128 q128 S128 M128 H128 U128 (fits_nar_char _) W128 1 rfl (Nat.le_of_ble_eq_true rfl)
      rw [own_narC (own_up1 hc1)] at q
      exact q
    have K128 := Keep.of_wr W128
    have N128 := Fr.snoc X128 N127 (by omega : n0 ≤ b126)
    refine own_st st128 ?_
    have zK128 := K128.1
    show own_Go p e below s _ _ _ (T128.setTop (mkF m 53 #[.val (.int pa), .val (.int pb), .val (.int pd), .val (.int pe), .val (.int pn), .val (.int (2 : Int32)), .val (.int c0), .val (.int c1), .val (.int c2), .val (.int c3), .unset, .unset, .unset, .unset, .unset, .unset] [(.ref b126)]))
    refine own_st (fun _ k => XS.dup X128.here hx rfl (hb hby at_53) rfl rfl k) ?_
    show own_Go p e below s _ _ _ (T128.setTop (mkF m 54 #[.val (.int pa), .val (.int pb), .val (.int pd), .val (.int pe), .val (.int pn), .val (.int (2 : Int32)), .val (.int c0), .val (.int c1), .val (.int c2), .val (.int c3), .unset, .unset, .unset, .unset, .unset, .unset] [(.ref b126), (.ref b126)]))
    refine own_st (fun _ k => XS.iconst X128.here hx rfl (hb hby at_54) k) ?_
    show own_Go p e below s _ _ _ (T128.setTop (mkF m 55 #[.val (.int pa), .val (.int pb), .val (.int pd), .val (.int pe), .val (.int pn), .val (.int (2 : Int32)), .val (.int c0), .val (.int c1), .val (.int c2), .val (.int c3), .unset, .unset, .unset, .unset, .unset, .unset] [(.int (2 : Int32)), (.ref b126), (.ref b126)]))
    refine own_st (fun _ k => XS.iload X128.here hx rfl (hb hby at_55) rfl k) ?_
    show own_Go p e below s _ _ _ (T128.setTop (mkF m 57 #[.val (.int pa), .val (.int pb), .val (.int pd), .val (.int pe), .val (.int pn), .val (.int (2 : Int32)), .val (.int c0), .val (.int c1), .val (.int c2), .val (.int c3), .unset, .unset, .unset, .unset, .unset, .unset] [(.int c2), (.int (2 : Int32)), (.ref b126), (.ref b126)]))
    obtain ⟨c129, Ar129, q129, S129, M129, H129, U129⟩ := V128
    obtain ⟨T129, h129, X129, e129, W129, st129⟩ := stC X128 hx hZ e128 Ar129 (j := (2 : Int32)) (inb_of S129 ⟨by decide, by decide⟩) (g := (mkF m 57 #[.val (.int pa), .val (.int pb), .val (.int pd), .val (.int pe), .val (.int pn), .val (.int (2 : Int32)), .val (.int c0), .val (.int c1), .val (.int c2), .val (.int c3), .unset, .unset, .unset, .unset, .unset, .unset] [(.int c2), (.int (2 : Int32)), (.ref b126), (.ref b126)])) rfl rfl (hb hby at_57)
    have V129 : Arv Z h129 b126 k126 .char (4 : Int32) [(.int c0), (.int c1), (.int c2), (.int (0 : Int32))] (.int (0 : Int32)) := by
      have q := Arv.set Ar129 q129 S129 M129 H129 U129 (fits_nar_char _) W129 2 rfl (Nat.le_of_ble_eq_true rfl)
      rw [own_narC (own_up1 hc2)] at q
      exact q
    have K129 := Keep.of_wr W129
    have N129 := Fr.snoc X129 N128 (by omega : n0 ≤ b126)
    refine own_st st129 ?_
    have zK129 := K129.1
    show own_Go p e below s _ _ _ (T129.setTop (mkF m 58 #[.val (.int pa), .val (.int pb), .val (.int pd), .val (.int pe), .val (.int pn), .val (.int (2 : Int32)), .val (.int c0), .val (.int c1), .val (.int c2), .val (.int c3), .unset, .unset, .unset, .unset, .unset, .unset] [(.ref b126)]))
    refine own_st (fun _ k => XS.dup X129.here hx rfl (hb hby at_58) rfl rfl k) ?_
    show own_Go p e below s _ _ _ (T129.setTop (mkF m 59 #[.val (.int pa), .val (.int pb), .val (.int pd), .val (.int pe), .val (.int pn), .val (.int (2 : Int32)), .val (.int c0), .val (.int c1), .val (.int c2), .val (.int c3), .unset, .unset, .unset, .unset, .unset, .unset] [(.ref b126), (.ref b126)]))
    refine own_st (fun _ k => XS.iconst X129.here hx rfl (hb hby at_59) k) ?_
    show own_Go p e below s _ _ _ (T129.setTop (mkF m 60 #[.val (.int pa), .val (.int pb), .val (.int pd), .val (.int pe), .val (.int pn), .val (.int (2 : Int32)), .val (.int c0), .val (.int c1), .val (.int c2), .val (.int c3), .unset, .unset, .unset, .unset, .unset, .unset] [(.int (3 : Int32)), (.ref b126), (.ref b126)]))
    refine own_st (fun _ k => XS.iload X129.here hx rfl (hb hby at_60) rfl k) ?_
    show own_Go p e below s _ _ _ (T129.setTop (mkF m 62 #[.val (.int pa), .val (.int pb), .val (.int pd), .val (.int pe), .val (.int pn), .val (.int (2 : Int32)), .val (.int c0), .val (.int c1), .val (.int c2), .val (.int c3), .unset, .unset, .unset, .unset, .unset, .unset] [(.int c3), (.int (3 : Int32)), (.ref b126), (.ref b126)]))
    obtain ⟨c130, Ar130, q130, S130, M130, H130, U130⟩ := V129
    obtain ⟨T130, h130, X130, e130, W130, st130⟩ := stC X129 hx hZ e129 Ar130 (j := (3 : Int32)) (inb_of S130 ⟨by decide, by decide⟩) (g := (mkF m 62 #[.val (.int pa), .val (.int pb), .val (.int pd), .val (.int pe), .val (.int pn), .val (.int (2 : Int32)), .val (.int c0), .val (.int c1), .val (.int c2), .val (.int c3), .unset, .unset, .unset, .unset, .unset, .unset] [(.int c3), (.int (3 : Int32)), (.ref b126), (.ref b126)])) rfl rfl (hb hby at_62)
    have V130 : Arv Z h130 b126 k126 .char (4 : Int32) [(.int c0), (.int c1), (.int c2), (.int c3)] (.int (0 : Int32)) := by
      have q := Arv.set Ar130 q130 S130 M130 H130 U130 (fits_nar_char _) W130 3 rfl (Nat.le_of_ble_eq_true rfl)
      rw [own_narC (own_up1 hc3)] at q
      exact q
    have K130 := Keep.of_wr W130
    have N130 := Fr.snoc X130 N129 (by omega : n0 ≤ b126)
    refine own_st st130 ?_
    have zK130 := K130.1
    show own_Go p e below s _ _ _ (T130.setTop (mkF m 63 #[.val (.int pa), .val (.int pb), .val (.int pd), .val (.int pe), .val (.int pn), .val (.int (2 : Int32)), .val (.int c0), .val (.int c1), .val (.int c2), .val (.int c3), .unset, .unset, .unset, .unset, .unset, .unset] [(.ref b126)]))
    refine own_st (fun _ k => XS.astore X130.here hx rfl (hb hby at_63) rfl rfl (l' := #[.val (.int pa), .val (.int pb), .val (.int pd), .val (.int pe), .val (.int pn), .val (.int (2 : Int32)), .val (.int c0), .val (.int c1), .val (.int c2), .val (.int c3), .val (.ref b126), .unset, .unset, .unset, .unset, .unset]) rfl k) ?_
    show own_Go p e below s _ _ _ (T130.setTop (mkF m 65 #[.val (.int pa), .val (.int pb), .val (.int pd), .val (.int pe), .val (.int pn), .val (.int (2 : Int32)), .val (.int c0), .val (.int c1), .val (.int c2), .val (.int c3), .val (.ref b126), .unset, .unset, .unset, .unset, .unset] []))
    refine own_st (fun _ k => XS.iload X130.here hx rfl (hb hby at_65) rfl k) ?_
    show own_Go p e below s _ _ _ (T130.setTop (mkF m 67 #[.val (.int pa), .val (.int pb), .val (.int pd), .val (.int pe), .val (.int pn), .val (.int (2 : Int32)), .val (.int c0), .val (.int c1), .val (.int c2), .val (.int c3), .val (.ref b126), .unset, .unset, .unset, .unset, .unset] [(.int (2 : Int32))]))
    refine own_st (fun _ k => XS.iconst X130.here hx rfl (hb hby at_67) k) ?_
    show own_Go p e below s _ _ _ (T130.setTop (mkF m 68 #[.val (.int pa), .val (.int pb), .val (.int pd), .val (.int pe), .val (.int pn), .val (.int (2 : Int32)), .val (.int c0), .val (.int c1), .val (.int c2), .val (.int c3), .val (.ref b126), .unset, .unset, .unset, .unset, .unset] [(.int (1 : Int32)), (.int (2 : Int32))]))
    refine own_st (fun _ k => XS.icmpYes X130.here hx rfl (pc0 := 68) (pc' := 84) rfl (hb hby at_68) rfl (feq (by decide)).2 (by decide) (by decide) k) ?_
    show own_Go p e below s _ _ _ (T130.setTop (mkF m 84 #[.val (.int pa), .val (.int pb), .val (.int pd), .val (.int pe), .val (.int pn), .val (.int (2 : Int32)), .val (.int c0), .val (.int c1), .val (.int c2), .val (.int c3), .val (.ref b126), .unset, .unset, .unset, .unset, .unset] []))
    refine own_st (fun _ k => XS.iload X130.here hx rfl (hb hby at_84) rfl k) ?_
    show own_Go p e below s _ _ _ (T130.setTop (mkF m 86 #[.val (.int pa), .val (.int pb), .val (.int pd), .val (.int pe), .val (.int pn), .val (.int (2 : Int32)), .val (.int c0), .val (.int c1), .val (.int c2), .val (.int c3), .val (.ref b126), .unset, .unset, .unset, .unset, .unset] [(.int (2 : Int32))]))
    refine own_st (fun _ k => XS.iconst X130.here hx rfl (hb hby at_86) k) ?_
    show own_Go p e below s _ _ _ (T130.setTop (mkF m 87 #[.val (.int pa), .val (.int pb), .val (.int pd), .val (.int pe), .val (.int pn), .val (.int (2 : Int32)), .val (.int c0), .val (.int c1), .val (.int c2), .val (.int c3), .val (.ref b126), .unset, .unset, .unset, .unset, .unset] [(.int (2 : Int32)), (.int (2 : Int32))]))
    refine own_st (fun _ k => XS.icmpNo X130.here hx rfl (hb hby at_87) rfl (teq (by decide)).2 k) ?_
    show own_Go p e below s _ _ _ (T130.setTop (mkF m 90 #[.val (.int pa), .val (.int pb), .val (.int pd), .val (.int pe), .val (.int pn), .val (.int (2 : Int32)), .val (.int c0), .val (.int c1), .val (.int c2), .val (.int c3), .val (.ref b126), .unset, .unset, .unset, .unset, .unset] []))
    refine own_st (fun _ k => XS.iconst X130.here hx rfl (hb hby at_90) k) ?_
    show own_Go p e below s _ _ _ (T130.setTop (mkF m 91 #[.val (.int pa), .val (.int pb), .val (.int pd), .val (.int pe), .val (.int pn), .val (.int (2 : Int32)), .val (.int c0), .val (.int c1), .val (.int c2), .val (.int c3), .val (.ref b126), .unset, .unset, .unset, .unset, .unset] [(.int (2 : Int32))]))
    obtain ⟨T131, h131, k131, X131, e131, E131, A131, st131⟩ := newP X130 hx hZ (hw _ (List.mem_of_getElem? (i := 0) rfl)) e130 (g := (mkF m 91 #[.val (.int pa), .val (.int pb), .val (.int pd), .val (.int pe), .val (.int pn), .val (.int (2 : Int32)), .val (.int c0), .val (.int c1), .val (.int c2), .val (.int c3), .val (.ref b126), .unset, .unset, .unset, .unset, .unset] [(.int (2 : Int32))])) rfl (hb hby at_91) rfl (by decide) (cap := 2) (by decide) (by decide) (by decide) (by decide)
    obtain ⟨b131, g131⟩ : ∃ z, z = h130.size := ⟨_, rfl⟩
    rw [← g131] at A131 st131
    have K131 : Keep h130 h131 [] := (Keep.refl _ _).ext E131
    have l131 : b131 < h131.size := A131.lt
    refine own_st st131 ?_
    have zK131 := K131.1
    have V131 : Arv Z h131 b131 k131 .char (2 : Int32) [(.int (0 : Int32)), (.int (0 : Int32))] (.int (0 : Int32)) := (Arv.new A131 (by decide)).pad (pad_rep [] (.int (0 : Int32)) 2)
    show own_Go p e below s _ _ _ (T131.setTop (mkF m 93 #[.val (.int pa), .val (.int pb), .val (.int pd), .val (.int pe), .val (.int pn), .val (.int (2 : Int32)), .val (.int c0), .val (.int c1), .val (.int c2), .val (.int c3), .val (.ref b126), .unset, .unset, .unset, .unset, .unset] [(.ref b131)]))
    refine own_st (fun _ k => XS.dup X131.here hx rfl (hb hby at_93) rfl rfl k) ?_
    show own_Go p e below s _ _ _ (T131.setTop (mkF m 94 #[.val (.int pa), .val (.int pb), .val (.int pd), .val (.int pe), .val (.int pn), .val (.int (2 : Int32)), .val (.int c0), .val (.int c1), .val (.int c2), .val (.int c3), .val (.ref b126), .unset, .unset, .unset, .unset, .unset] [(.ref b131), (.ref b131)]))
    refine own_st (fun _ k => XS.iconst X131.here hx rfl (hb hby at_94) k) ?_
    show own_Go p e below s _ _ _ (T131.setTop (mkF m 95 #[.val (.int pa), .val (.int pb), .val (.int pd), .val (.int pe), .val (.int pn), .val (.int (2 : Int32)), .val (.int c0), .val (.int c1), .val (.int c2), .val (.int c3), .val (.ref b126), .unset, .unset, .unset, .unset, .unset] [(.int (0 : Int32)), (.ref b131), (.ref b131)]))
    refine own_st (fun _ k => XS.iload X131.here hx rfl (hb hby at_95) rfl k) ?_
    show own_Go p e below s _ _ _ (T131.setTop (mkF m 97 #[.val (.int pa), .val (.int pb), .val (.int pd), .val (.int pe), .val (.int pn), .val (.int (2 : Int32)), .val (.int c0), .val (.int c1), .val (.int c2), .val (.int c3), .val (.ref b126), .unset, .unset, .unset, .unset, .unset] [(.int c0), (.int (0 : Int32)), (.ref b131), (.ref b131)]))
    obtain ⟨c132, Ar132, q132, S132, M132, H132, U132⟩ := V131
    obtain ⟨T132, h132, X132, e132, W132, st132⟩ := stC X131 hx hZ e131 Ar132 (j := (0 : Int32)) (inb_of S132 ⟨by decide, by decide⟩) (g := (mkF m 97 #[.val (.int pa), .val (.int pb), .val (.int pd), .val (.int pe), .val (.int pn), .val (.int (2 : Int32)), .val (.int c0), .val (.int c1), .val (.int c2), .val (.int c3), .val (.ref b126), .unset, .unset, .unset, .unset, .unset] [(.int c0), (.int (0 : Int32)), (.ref b131), (.ref b131)])) rfl rfl (hb hby at_97)
    have V132 : Arv Z h132 b131 k131 .char (2 : Int32) [(.int c0), (.int (0 : Int32))] (.int (0 : Int32)) := by
      have q := Arv.set Ar132 q132 S132 M132 H132 U132 (fits_nar_char _) W132 0 rfl (Nat.le_of_ble_eq_true rfl)
      rw [own_narC (own_up1 hc0)] at q
      exact q
    have K132 := Keep.of_wr W132
    have N132 := Fr.snoc X132 N130 (by omega : n0 ≤ b131)
    refine own_st st132 ?_
    have zK132 := K132.1
    show own_Go p e below s _ _ _ (T132.setTop (mkF m 98 #[.val (.int pa), .val (.int pb), .val (.int pd), .val (.int pe), .val (.int pn), .val (.int (2 : Int32)), .val (.int c0), .val (.int c1), .val (.int c2), .val (.int c3), .val (.ref b126), .unset, .unset, .unset, .unset, .unset] [(.ref b131)]))
    refine own_st (fun _ k => XS.dup X132.here hx rfl (hb hby at_98) rfl rfl k) ?_
    show own_Go p e below s _ _ _ (T132.setTop (mkF m 99 #[.val (.int pa), .val (.int pb), .val (.int pd), .val (.int pe), .val (.int pn), .val (.int (2 : Int32)), .val (.int c0), .val (.int c1), .val (.int c2), .val (.int c3), .val (.ref b126), .unset, .unset, .unset, .unset, .unset] [(.ref b131), (.ref b131)]))
    refine own_st (fun _ k => XS.iconst X132.here hx rfl (hb hby at_99) k) ?_
    show own_Go p e below s _ _ _ (T132.setTop (mkF m 100 #[.val (.int pa), .val (.int pb), .val (.int pd), .val (.int pe), .val (.int pn), .val (.int (2 : Int32)), .val (.int c0), .val (.int c1), .val (.int c2), .val (.int c3), .val (.ref b126), .unset, .unset, .unset, .unset, .unset] [(.int (1 : Int32)), (.ref b131), (.ref b131)]))
    refine own_st (fun _ k => XS.iload X132.here hx rfl (hb hby at_100) rfl k) ?_
    show own_Go p e below s _ _ _ (T132.setTop (mkF m 102 #[.val (.int pa), .val (.int pb), .val (.int pd), .val (.int pe), .val (.int pn), .val (.int (2 : Int32)), .val (.int c0), .val (.int c1), .val (.int c2), .val (.int c3), .val (.ref b126), .unset, .unset, .unset, .unset, .unset] [(.int c1), (.int (1 : Int32)), (.ref b131), (.ref b131)]))
    obtain ⟨c133, Ar133, q133, S133, M133, H133, U133⟩ := V132
    obtain ⟨T133, h133, X133, e133, W133, st133⟩ := stC X132 hx hZ e132 Ar133 (j := (1 : Int32)) (inb_of S133 ⟨by decide, by decide⟩) (g := (mkF m 102 #[.val (.int pa), .val (.int pb), .val (.int pd), .val (.int pe), .val (.int pn), .val (.int (2 : Int32)), .val (.int c0), .val (.int c1), .val (.int c2), .val (.int c3), .val (.ref b126), .unset, .unset, .unset, .unset, .unset] [(.int c1), (.int (1 : Int32)), (.ref b131), (.ref b131)])) rfl rfl (hb hby at_102)
    have V133 : Arv Z h133 b131 k131 .char (2 : Int32) [(.int c0), (.int c1)] (.int (0 : Int32)) := by
      have q := Arv.set Ar133 q133 S133 M133 H133 U133 (fits_nar_char _) W133 1 rfl (Nat.le_of_ble_eq_true rfl)
      rw [own_narC (own_up1 hc1)] at q
      exact q
    have K133 := Keep.of_wr W133
    have N133 := Fr.snoc X133 N132 (by omega : n0 ≤ b131)
    refine own_st st133 ?_
    have zK133 := K133.1
    show own_Go p e below s _ _ _ (T133.setTop (mkF m 103 #[.val (.int pa), .val (.int pb), .val (.int pd), .val (.int pe), .val (.int pn), .val (.int (2 : Int32)), .val (.int c0), .val (.int c1), .val (.int c2), .val (.int c3), .val (.ref b126), .unset, .unset, .unset, .unset, .unset] [(.ref b131)]))
    refine own_st (fun _ k => XS.astore X133.here hx rfl (hb hby at_103) rfl rfl (l' := #[.val (.int pa), .val (.int pb), .val (.int pd), .val (.int pe), .val (.int pn), .val (.int (2 : Int32)), .val (.int c0), .val (.int c1), .val (.int c2), .val (.int c3), .val (.ref b126), .val (.ref b131), .unset, .unset, .unset, .unset]) rfl k) ?_
    show own_Go p e below s _ _ _ (T133.setTop (mkF m 105 #[.val (.int pa), .val (.int pb), .val (.int pd), .val (.int pe), .val (.int pn), .val (.int (2 : Int32)), .val (.int c0), .val (.int c1), .val (.int c2), .val (.int c3), .val (.ref b126), .val (.ref b131), .unset, .unset, .unset, .unset] []))
    refine own_st (fun _ k => XS.goto X133.here hx rfl (pc0 := 105) (pc' := 162) rfl (hb hby at_105) (by decide) (by decide) k) ?_
    show own_Go p e below s _ _ _ (T133.setTop (mkF m 162 #[.val (.int pa), .val (.int pb), .val (.int pd), .val (.int pe), .val (.int pn), .val (.int (2 : Int32)), .val (.int c0), .val (.int c1), .val (.int c2), .val (.int c3), .val (.ref b126), .val (.ref b131), .unset, .unset, .unset, .unset] []))
    obtain ⟨T134, h134, X134, e134, E134, A134, D134, -, st134⟩ := newO X133 hx hZ hown (hw _ (List.mem_of_getElem? (i := 1) rfl)) (hw _ (List.mem_of_getElem? (i := 2) rfl)) (hw _ (List.mem_of_getElem? (i := 3) rfl)) e133 (g := (mkF m 162 #[.val (.int pa), .val (.int pb), .val (.int pd), .val (.int pe), .val (.int pn), .val (.int (2 : Int32)), .val (.int c0), .val (.int c1), .val (.int c2), .val (.int c3), .val (.ref b126), .val (.ref b131), .unset, .unset, .unset, .unset] [])) rfl (hb hby at_162) (by decide) (by decide)
    obtain ⟨b134, g134⟩ : ∃ z, z = h133.size := ⟨_, rfl⟩
    rw [← g134] at A134 D134 st134
    have K134 : Keep h133 h134 [] := (Keep.refl _ _).ext E134
    have l134 : b134 < h134.size := A134.lt
    refine own_st st134 ?_
    have zK134 := K134.1
    show own_Go p e below s _ _ _ (T134.setTop (mkF m 165 #[.val (.int pa), .val (.int pb), .val (.int pd), .val (.int pe), .val (.int pn), .val (.int (2 : Int32)), .val (.int c0), .val (.int c1), .val (.int c2), .val (.int c3), .val (.ref b126), .val (.ref b131), .unset, .unset, .unset, .unset] [(.ref b134)]))
    refine own_st (fun _ k => XS.dup X134.here hx rfl (hb hby at_165) rfl rfl k) ?_
    show own_Go p e below s _ _ _ (T134.setTop (mkF m 166 #[.val (.int pa), .val (.int pb), .val (.int pd), .val (.int pe), .val (.int pn), .val (.int (2 : Int32)), .val (.int c0), .val (.int c1), .val (.int c2), .val (.int c3), .val (.ref b126), .val (.ref b131), .unset, .unset, .unset, .unset] [(.ref b134), (.ref b134)]))
    refine own_st (fun _ k => XS.aload X134.here hx rfl (hb hby at_166) rfl rfl k) ?_
    show own_Go p e below s _ _ _ (T134.setTop (mkF m 168 #[.val (.int pa), .val (.int pb), .val (.int pd), .val (.int pe), .val (.int pn), .val (.int (2 : Int32)), .val (.int c0), .val (.int c1), .val (.int c2), .val (.int c3), .val (.ref b126), .val (.ref b131), .unset, .unset, .unset, .unset] [(.ref b131), (.ref b134), (.ref b134)]))
    have F_value_b134 : Fld Z h134 b134 "java/lang/String" "value" "[B" .null := D134 (Or.inr (hw _ (List.mem_of_getElem? (i := 29) rfl))) (ty := (.array .byte)) (by decide)
    have F_coder_b134 : Fld Z h134 b134 "java/lang/String" "coder" "B" (.int (0 : Int32)) := D134 (Or.inr (hw _ (List.mem_of_getElem? (i := 27) rfl))) (ty := .byte) (by decide)
    have f135 := (V133.keep ((Keep.refl h133 []).trans K134 all0) nin0)
    have O136 : Old Z n0 h134 := O0.keep ((((((((((Keep.refl h0 []).trans K126 all0).trans K127 (allS (Or.inr (by omega)) all0)).trans K128 (allS (Or.inr (by omega)) all0)).trans K129 (allS (Or.inr (by omega)) all0)).trans K130 (allS (Or.inr (by omega)) all0)).trans K131 all0).trans K132 (allS (Or.inr (by omega)) all0)).trans K133 (allS (Or.inr (by omega)) all0)).trans K134 all0) all0
    obtain ⟨T137, v137, L137, h137, X137, e137, q137, st137⟩ := own_callI X134 hx hZ (y := (⟨"java/lang/String", "<init>", "([C)V"⟩ : MethodName)) rfl hown (hw _ (List.mem_of_getElem? (i := 4) rfl)) (hw _ (List.mem_of_getElem? (i := 5) rfl)) (hw _ (List.mem_of_getElem? (i := 6) rfl)) (by decide) (own_nsB (W := 1) hZ (own_wNew hw) (kI := 4) (hw _ (List.mem_of_getElem? (i := 2) rfl)) (cs := [c0, c1]) (n := 2) (by omega : n0 ≤ b134) O136 CS A134 F_value_b134 F_coder_b134 f135 rfl rfl (by decide) (by decide) (own_allC hc0 (own_all1 hc1)) (by decide) (by decide)) e134 (by decide) (by decide) (g := (mkF m 168 #[.val (.int pa), .val (.int pb), .val (.int pd), .val (.int pe), .val (.int pn), .val (.int (2 : Int32)), .val (.int c0), .val (.int c1), .val (.int c2), .val (.int c3), .val (.ref b126), .val (.ref b131), .unset, .unset, .unset, .unset] [(.ref b131), (.ref b134), (.ref b134)])) rfl (by rw [hml]; rfl) (a := b134) (argsL := [(.ref b131)]) (rest := [(.ref b134)]) (lenOf pd__28_5bC_29V rfl) rfl rfl (by show 2 * 0 + _ ≤ _; exact Nat.le_of_eq rfl) (hb hby at_168)
    obtain ⟨rfl, N137q, K137, S137⟩ := q137
    refine own_st st137 ?_
    have zK137 := K137.1
    have N137 := Fr.app N133 N137q
    have A137 := S137.1
    show own_Go p e below s _ _ _ (T137.setTop (mkF m 171 #[.val (.int pa), .val (.int pb), .val (.int pd), .val (.int pe), .val (.int pn), .val (.int (2 : Int32)), .val (.int c0), .val (.int c1), .val (.int c2), .val (.int c3), .val (.ref b126), .val (.ref b131), .unset, .unset, .unset, .unset] [(.ref b134)]))
    refine own_st (fun _ k => XS.astore X137.here hx rfl (hb hby at_171) rfl rfl (l' := #[.val (.int pa), .val (.int pb), .val (.int pd), .val (.int pe), .val (.int pn), .val (.int (2 : Int32)), .val (.int c0), .val (.int c1), .val (.int c2), .val (.int c3), .val (.ref b126), .val (.ref b131), .val (.ref b134), .unset, .unset, .unset]) rfl k) ?_
    show own_Go p e below s _ _ _ (T137.setTop (mkF m 173 #[.val (.int pa), .val (.int pb), .val (.int pd), .val (.int pe), .val (.int pn), .val (.int (2 : Int32)), .val (.int c0), .val (.int c1), .val (.int c2), .val (.int c3), .val (.ref b126), .val (.ref b131), .val (.ref b134), .unset, .unset, .unset] []))
    have G138 : ∀ (Tj : State) (Lj : List Loc) (f l2 : Nat), (f < 2) → (∀ j, j < f → own_ws ([c0, c1].getD j 0)) → (¬ own_ws ([c0, c1].getD f 0)) → (f ≤ l2) → (l2 < 2) → (∀ j, l2 + 1 ≤ j → j < 2 → own_ws ([c0, c1].getD j 0)) → (¬ own_ws ([c0, c1].getD (l2 + 1 - 1) 0)) → Stand p l e room_1 s m #[(.int pa), (.int pb), (.int pd), (.int pe), (.int pn)] below meth c Tj Lj 4 12 → Tj.heap = h137 → Fr n0 Lj → own_Go p e below s (fun v h L => v = some (.int 1) ∧ Fr n0 L) room_1.cells room_1.slots (Tj.setTop (mkF m 320 #[.val (.int pa), .val (.int pb), .val (.int pd), .val (.int pe), .val (.int pn), .val (.int (2 : Int32)), .val (.int c0), .val (.int c1), .val (.int c2), .val (.int c3), .val (.ref b126), .val (.ref b131), .val (.ref b134), .val (.int (Int32.ofNat f)), .val (.int (Int32.ofNat l2)), .unset] [])) := by
      intro TG138 LG138 f l2 hf hf1 hf2 hfl hl hl1 hl2 XG138 eG138 NG138
      have hbd : ∀ c ∈ [c0, c1], ¬ c < 0 ∧ ¬ (255 : Int32) < c := (own_allC hc0 (own_all1 hc1))
      have hds : ∀ j, f ≤ j → j ≤ l2 → j - f < (([c0, c1].drop f).take (l2 + 1 - f)).length ∧ (([c0, c1].drop f).take (l2 + 1 - f)).getD (j - f) 0 = [c0, c1, c2, c3].getD j 0 := by
        intro j h1 h2
        have e1 : (([c0, c1].drop f).take (l2 + 1 - f)).length = l2 + 1 - f := by rw [List.length_take, List.length_drop]; show min _ (2 - f) = _; omega
        refine ⟨by rw [e1]; omega, ?_⟩
        have e2 : j - f < l2 + 1 - f := by omega
        rw [List.getD_eq_getElem?_getD, List.getElem?_take, if_pos e2, List.getElem?_drop, show f + (j - f) = j from by omega]
        have e3 : j < 2 := by omega
        match j, e3 with
        | 0, _ => rfl
        | 1, _ => rfl
      have hdb : ∀ c ∈ (([c0, c1].drop f).take (l2 + 1 - f)), ¬ (255 : Int32) < c := fun c hc => (hbd c (own_memdt hc)).2
      have hln : (([c0, c1].drop f).take (l2 + 1 - f)).length = l2 + 1 - f := by rw [List.length_take, List.length_drop]; show min _ (2 - f) = _; omega
      refine own_st (fun _ k => XS.aload XG138.here hx rfl (hb hby at_320) rfl rfl k) ?_
      show own_Go p e below s _ _ _ (TG138.setTop (mkF m 322 #[.val (.int pa), .val (.int pb), .val (.int pd), .val (.int pe), .val (.int pn), .val (.int (2 : Int32)), .val (.int c0), .val (.int c1), .val (.int c2), .val (.int c3), .val (.ref b126), .val (.ref b131), .val (.ref b134), .val (.int (Int32.ofNat f)), .val (.int (Int32.ofNat l2)), .unset] [(.ref b134)]))
      have O140 : Old Z n0 h137 := O136.keep ((Keep.refl h134 [b134]).trans K137 (allS (Or.inl (by simp)) all0)) (allS (by omega) all0)
      obtain ⟨T139, X139, e139, st139⟩ := getS2 XG138 hx hZ hown (host := "") (Or.inl (hw _ (List.mem_of_getElem? (i := 34) rfl))) Via.refl eG138 (Sr.ext O140.2) (g := (mkF m 322 #[.val (.int pa), .val (.int pb), .val (.int pd), .val (.int pe), .val (.int pn), .val (.int (2 : Int32)), .val (.int c0), .val (.int c1), .val (.int c2), .val (.int c3), .val (.ref b126), .val (.ref b131), .val (.ref b134), .val (.int (Int32.ofNat f)), .val (.int (Int32.ofNat l2)), .unset] [(.ref b134)])) rfl (hb hby at_322)
      refine own_st st139 ?_
      show own_Go p e below s _ _ _ (T139.setTop (mkF m 325 #[.val (.int pa), .val (.int pb), .val (.int pd), .val (.int pe), .val (.int pn), .val (.int (2 : Int32)), .val (.int c0), .val (.int c1), .val (.int c2), .val (.int c3), .val (.ref b126), .val (.ref b131), .val (.ref b134), .val (.int (Int32.ofNat f)), .val (.int (Int32.ofNat l2)), .unset] [(.ref ar), (.ref b134)]))
      obtain ⟨T141, v141, L141, h141, X141, e141, q141, st141⟩ := own_callS X139 hx hZ (y := (⟨"com/example/shelfproof/shelfproof/library/Requests", "required", "(Ljava/lang/String;Lcom/example/shelfproof/shelfproof/library/Refusal;)Ljava/lang/String;"⟩ : MethodName)) hown (hw _ (List.mem_of_getElem? (i := 37) rfl)) (hw _ (List.mem_of_getElem? (i := 38) rfl)) (hw _ (List.mem_of_getElem? (i := 39) rfl)) (hw _ (List.mem_of_getElem? (i := 40) rfl)) (by decide) (own_bk (W := 0) (rqW l Z a0 hw b134 ar [c0, c1] f (l2 + 1) h137 n0 O140 CS CDs (show 2 ≤ 4 from by decide) hbd hf hf1 hf2 (by omega) (by show l2 + 1 ≤ 2; omega) hl1 hl2 S137) hZ (hw _ (List.mem_of_getElem? (i := 40) rfl)) (hw _ (List.mem_of_getElem? (i := 39) rfl)) (by decide) (by decide)) e139 (by decide) (by decide) (g := (mkF m 325 #[.val (.int pa), .val (.int pb), .val (.int pd), .val (.int pe), .val (.int pn), .val (.int (2 : Int32)), .val (.int c0), .val (.int c1), .val (.int c2), .val (.int c3), .val (.ref b126), .val (.ref b131), .val (.ref b134), .val (.int (Int32.ofNat f)), .val (.int (Int32.ofNat l2)), .unset] [(.ref ar), (.ref b134)])) rfl (by rw [hml]; rfl) (argsL := [(.ref b134), (.ref ar)]) (rest := []) (lenOf pd__28Ljava_2flang_2fString_3bLcom_2fexample_2fshelfproof_2fshelfproof_2flibrary_2fRefusal_3b_29Ljava_2flang_2fString_3b rfl) rfl rfl (by show 2 * 0 + _ ≤ _; exact Nat.le_of_eq rfl) (hb hby at_325)
      obtain ⟨N141q, K141, b141, rfl, S141⟩ := q141
      refine own_st st141 ?_
      have zK141 := K141.1
      have N141 := Fr.app NG138 N141q
      show own_Go p e below s _ _ _ (T141.setTop (mkF m 328 #[.val (.int pa), .val (.int pb), .val (.int pd), .val (.int pe), .val (.int pn), .val (.int (2 : Int32)), .val (.int c0), .val (.int c1), .val (.int c2), .val (.int c3), .val (.ref b126), .val (.ref b131), .val (.ref b134), .val (.int (Int32.ofNat f)), .val (.int (Int32.ofNat l2)), .unset] [(.ref b141)]))
      refine own_st (fun _ k => XS.astore X141.here hx rfl (hb hby at_328) rfl rfl (l' := #[.val (.int pa), .val (.int pb), .val (.int pd), .val (.int pe), .val (.int pn), .val (.int (2 : Int32)), .val (.int c0), .val (.int c1), .val (.int c2), .val (.int c3), .val (.ref b126), .val (.ref b131), .val (.ref b134), .val (.int (Int32.ofNat f)), .val (.int (Int32.ofNat l2)), .val (.ref b141)]) rfl k) ?_
      show own_Go p e below s _ _ _ (T141.setTop (mkF m 330 #[.val (.int pa), .val (.int pb), .val (.int pd), .val (.int pe), .val (.int pn), .val (.int (2 : Int32)), .val (.int c0), .val (.int c1), .val (.int c2), .val (.int c3), .val (.ref b126), .val (.ref b131), .val (.ref b134), .val (.int (Int32.ofNat f)), .val (.int (Int32.ofNat l2)), .val (.ref b141)] []))
      refine own_st (fun _ k => XS.aload X141.here hx rfl (hb hby at_330) rfl rfl k) ?_
      show own_Go p e below s _ _ _ (T141.setTop (mkF m 332 #[.val (.int pa), .val (.int pb), .val (.int pd), .val (.int pe), .val (.int pn), .val (.int (2 : Int32)), .val (.int c0), .val (.int c1), .val (.int c2), .val (.int c3), .val (.ref b126), .val (.ref b131), .val (.ref b134), .val (.int (Int32.ofNat f)), .val (.int (Int32.ofNat l2)), .val (.ref b141)] [(.ref b141)]))
      have O142 : Old Z n0 h141 := O140.keep ((Keep.refl h137 []).trans K141 all0) all0
      obtain ⟨T143, v143, L143, h143, X143, e143, q143, st143⟩ := own_callV X141 hx hZ (y := (⟨"java/lang/String", "length", "()I"⟩ : MethodName)) (z := (⟨"java/lang/String", "length", "()I"⟩ : MethodName)) hown (hw _ (List.mem_of_getElem? (i := 85) rfl)) (hw _ (List.mem_of_getElem? (i := 86) rfl)) (notFace_of_selects (args := #[]) (mvT hZ (hw _ (List.mem_of_getElem? (i := 88) rfl)))) (hw _ (List.mem_of_getElem? (i := 88) rfl)) (hw _ (List.mem_of_getElem? (i := 87) rfl)) (by decide) (own_lenB (W := 0) hZ (own_wLen hw) (kI := 4) (hw _ (List.mem_of_getElem? (i := 2) rfl)) O142 CS S141 (by decide) (by decide)) e141 S141.1 (by decide) (by decide) (g := (mkF m 332 #[.val (.int pa), .val (.int pb), .val (.int pd), .val (.int pe), .val (.int pn), .val (.int (2 : Int32)), .val (.int c0), .val (.int c1), .val (.int c2), .val (.int c3), .val (.ref b126), .val (.ref b131), .val (.ref b134), .val (.int (Int32.ofNat f)), .val (.int (Int32.ofNat l2)), .val (.ref b141)] [(.ref b141)])) rfl (by rw [hml]; rfl) (argsL := []) (rest := []) (lenOf pd__28_29I rfl) rfl rfl (by show 2 * 0 + _ ≤ _; exact Nat.le_of_eq rfl) (hb hby at_332)
      obtain ⟨rfl, N143q, hq143⟩ := q143
      replace e143 := e143.trans hq143
      refine own_st st143 ?_
      have N143 := Fr.app N141 N143q
      show own_Go p e below s _ _ _ (T143.setTop (mkF m 335 #[.val (.int pa), .val (.int pb), .val (.int pd), .val (.int pe), .val (.int pn), .val (.int (2 : Int32)), .val (.int c0), .val (.int c1), .val (.int c2), .val (.int c3), .val (.ref b126), .val (.ref b131), .val (.ref b134), .val (.int (Int32.ofNat f)), .val (.int (Int32.ofNat l2)), .val (.ref b141)] [(.int (Int32.ofNat ((([c0, c1].drop f).take (l2 + 1 - f))).length))]))
      refine own_st (fun _ k => XS.iload X143.here hx rfl (hb hby at_335) rfl k) ?_
      show own_Go p e below s _ _ _ (T143.setTop (mkF m 337 #[.val (.int pa), .val (.int pb), .val (.int pd), .val (.int pe), .val (.int pn), .val (.int (2 : Int32)), .val (.int c0), .val (.int c1), .val (.int c2), .val (.int c3), .val (.ref b126), .val (.ref b131), .val (.ref b134), .val (.int (Int32.ofNat f)), .val (.int (Int32.ofNat l2)), .val (.ref b141)] [(.int (Int32.ofNat l2)), (.int (Int32.ofNat ((([c0, c1].drop f).take (l2 + 1 - f))).length))]))
      refine own_st (fun _ k => XS.iload X143.here hx rfl (hb hby at_337) rfl k) ?_
      show own_Go p e below s _ _ _ (T143.setTop (mkF m 339 #[.val (.int pa), .val (.int pb), .val (.int pd), .val (.int pe), .val (.int pn), .val (.int (2 : Int32)), .val (.int c0), .val (.int c1), .val (.int c2), .val (.int c3), .val (.ref b126), .val (.ref b131), .val (.ref b134), .val (.int (Int32.ofNat f)), .val (.int (Int32.ofNat l2)), .val (.ref b141)] [(.int (Int32.ofNat f)), (.int (Int32.ofNat l2)), (.int (Int32.ofNat ((([c0, c1].drop f).take (l2 + 1 - f))).length))]))
      refine own_st (fun _ k => XS.isub X143.here hx rfl (hb hby at_339) rfl k) ?_
      show own_Go p e below s _ _ _ (T143.setTop (mkF m 340 #[.val (.int pa), .val (.int pb), .val (.int pd), .val (.int pe), .val (.int pn), .val (.int (2 : Int32)), .val (.int c0), .val (.int c1), .val (.int c2), .val (.int c3), .val (.ref b126), .val (.ref b131), .val (.ref b134), .val (.int (Int32.ofNat f)), .val (.int (Int32.ofNat l2)), .val (.ref b141)] [(.int ((Int32.ofNat l2) - (Int32.ofNat f))), (.int (Int32.ofNat ((([c0, c1].drop f).take (l2 + 1 - f))).length))]))
      refine own_st (fun _ k => XS.iconst X143.here hx rfl (hb hby at_340) k) ?_
      show own_Go p e below s _ _ _ (T143.setTop (mkF m 341 #[.val (.int pa), .val (.int pb), .val (.int pd), .val (.int pe), .val (.int pn), .val (.int (2 : Int32)), .val (.int c0), .val (.int c1), .val (.int c2), .val (.int c3), .val (.ref b126), .val (.ref b131), .val (.ref b134), .val (.int (Int32.ofNat f)), .val (.int (Int32.ofNat l2)), .val (.ref b141)] [(.int (1 : Int32)), (.int ((Int32.ofNat l2) - (Int32.ofNat f))), (.int (Int32.ofNat ((([c0, c1].drop f).take (l2 + 1 - f))).length))]))
      refine own_st (fun _ k => XS.iadd X143.here hx rfl (hb hby at_341) rfl k) ?_
      show own_Go p e below s _ _ _ (T143.setTop (mkF m 342 #[.val (.int pa), .val (.int pb), .val (.int pd), .val (.int pe), .val (.int pn), .val (.int (2 : Int32)), .val (.int c0), .val (.int c1), .val (.int c2), .val (.int c3), .val (.ref b126), .val (.ref b131), .val (.ref b134), .val (.int (Int32.ofNat f)), .val (.int (Int32.ofNat l2)), .val (.ref b141)] [(.int (((Int32.ofNat l2) - (Int32.ofNat f)) + (1 : Int32))), (.int (Int32.ofNat ((([c0, c1].drop f).take (l2 + 1 - f))).length))]))
      rw [own_sub1 hfl (by omega)]
      show own_Go p e below s _ _ _ (T143.setTop (mkF m 342 #[.val (.int pa), .val (.int pb), .val (.int pd), .val (.int pe), .val (.int pn), .val (.int (2 : Int32)), .val (.int c0), .val (.int c1), .val (.int c2), .val (.int c3), .val (.ref b126), .val (.ref b131), .val (.ref b134), .val (.int (Int32.ofNat f)), .val (.int (Int32.ofNat l2)), .val (.ref b141)] [(.int (Int32.ofNat (l2 + 1 - f))), (.int (Int32.ofNat ((([c0, c1].drop f).take (l2 + 1 - f))).length))]))
      refine own_st (fun _ k => XS.icmpYes X143.here hx rfl (pc0 := 342) (pc' := 347) rfl (hb hby at_342) rfl (teq (by rw [hln])).1 (by decide) (by decide) k) ?_
      show own_Go p e below s _ _ _ (T143.setTop (mkF m 347 #[.val (.int pa), .val (.int pb), .val (.int pd), .val (.int pe), .val (.int pn), .val (.int (2 : Int32)), .val (.int c0), .val (.int c1), .val (.int c2), .val (.int c3), .val (.ref b126), .val (.ref b131), .val (.ref b134), .val (.int (Int32.ofNat f)), .val (.int (Int32.ofNat l2)), .val (.ref b141)] []))
      refine own_st (fun _ k => XS.aload X143.here hx rfl (hb hby at_347) rfl rfl k) ?_
      show own_Go p e below s _ _ _ (T143.setTop (mkF m 349 #[.val (.int pa), .val (.int pb), .val (.int pd), .val (.int pe), .val (.int pn), .val (.int (2 : Int32)), .val (.int c0), .val (.int c1), .val (.int c2), .val (.int c3), .val (.ref b126), .val (.ref b131), .val (.ref b134), .val (.int (Int32.ofNat f)), .val (.int (Int32.ofNat l2)), .val (.ref b141)] [(.ref b141)]))
      refine own_st (fun _ k => XS.aload X143.here hx rfl (hb hby at_349) rfl rfl k) ?_
      show own_Go p e below s _ _ _ (T143.setTop (mkF m 351 #[.val (.int pa), .val (.int pb), .val (.int pd), .val (.int pe), .val (.int pn), .val (.int (2 : Int32)), .val (.int c0), .val (.int c1), .val (.int c2), .val (.int c3), .val (.ref b126), .val (.ref b131), .val (.ref b134), .val (.int (Int32.ofNat f)), .val (.int (Int32.ofNat l2)), .val (.ref b141)] [(.ref b126), (.ref b141)]))
      refine own_st (fun _ k => XS.iconst X143.here hx rfl (hb hby at_351) k) ?_
      show own_Go p e below s _ _ _ (T143.setTop (mkF m 352 #[.val (.int pa), .val (.int pb), .val (.int pd), .val (.int pe), .val (.int pn), .val (.int (2 : Int32)), .val (.int c0), .val (.int c1), .val (.int c2), .val (.int c3), .val (.ref b126), .val (.ref b131), .val (.ref b134), .val (.int (Int32.ofNat f)), .val (.int (Int32.ofNat l2)), .val (.ref b141)] [(.int (0 : Int32)), (.ref b126), (.ref b141)]))
      refine own_st (fun _ k => XS.iload X143.here hx rfl (hb hby at_352) rfl k) ?_
      show own_Go p e below s _ _ _ (T143.setTop (mkF m 354 #[.val (.int pa), .val (.int pb), .val (.int pd), .val (.int pe), .val (.int pn), .val (.int (2 : Int32)), .val (.int c0), .val (.int c1), .val (.int c2), .val (.int c3), .val (.ref b126), .val (.ref b131), .val (.ref b134), .val (.int (Int32.ofNat f)), .val (.int (Int32.ofNat l2)), .val (.ref b141)] [(.int (Int32.ofNat f)), (.int (0 : Int32)), (.ref b126), (.ref b141)]))
      refine own_st (fun _ k => XS.iload X143.here hx rfl (hb hby at_354) rfl k) ?_
      show own_Go p e below s _ _ _ (T143.setTop (mkF m 356 #[.val (.int pa), .val (.int pb), .val (.int pd), .val (.int pe), .val (.int pn), .val (.int (2 : Int32)), .val (.int c0), .val (.int c1), .val (.int c2), .val (.int c3), .val (.ref b126), .val (.ref b131), .val (.ref b134), .val (.int (Int32.ofNat f)), .val (.int (Int32.ofNat l2)), .val (.ref b141)] [(.int (Int32.ofNat l2)), (.int (Int32.ofNat f)), (.int (0 : Int32)), (.ref b126), (.ref b141)]))
      have f144 := (V130.keep (((((((Keep.refl h130 []).trans K131 all0).trans K132 (allS (Or.inr (by omega)) all0)).trans K133 (allS (Or.inr (by omega)) all0)).trans K134 all0).trans K137 (allS (Or.inr (by omega)) all0)).trans K141 all0) nin0)
      obtain ⟨T145, v145, L145, h145, X145, e145, q145, st145⟩ := own_callS X143 hx hZ (y := (⟨"com/example/shelfproof/shelfproof/library/RequestsRequiredPinLaw", "at", "(Ljava/lang/String;[CIII)Z"⟩ : MethodName)) hown (hw _ (List.mem_of_getElem? (i := 95) rfl)) (hw _ (List.mem_of_getElem? (i := 96) rfl)) (hw _ (List.mem_of_getElem? (i := 32) rfl)) (hw _ (List.mem_of_getElem? (i := 97) rfl)) (by decide) (own_bk (W := 0) (atW l Z a0 hw b141 b126 _ [c0, c1, c2, c3] (([c0, c1].drop f).take (l2 + 1 - f)) 0 f l2 h141 n0 O142 CS FM hds (by omega) rfl (by decide) hfl hdb S141 f144) hZ (hw _ (List.mem_of_getElem? (i := 97) rfl)) (hw _ (List.mem_of_getElem? (i := 32) rfl)) (by decide) (by decide)) e143 (by decide) (by decide) (g := (mkF m 356 #[.val (.int pa), .val (.int pb), .val (.int pd), .val (.int pe), .val (.int pn), .val (.int (2 : Int32)), .val (.int c0), .val (.int c1), .val (.int c2), .val (.int c3), .val (.ref b126), .val (.ref b131), .val (.ref b134), .val (.int (Int32.ofNat f)), .val (.int (Int32.ofNat l2)), .val (.ref b141)] [(.int (Int32.ofNat l2)), (.int (Int32.ofNat f)), (.int (0 : Int32)), (.ref b126), (.ref b141)])) rfl (by rw [hml]; rfl) (argsL := [(.ref b141), (.ref b126), (.int (0 : Int32)), (.int (Int32.ofNat f)), (.int (Int32.ofNat l2))]) (rest := []) (lenOf pd__28Ljava_2flang_2fString_3b_5bCIII_29Z rfl) rfl rfl (by show 2 * 0 + _ ≤ _; exact Nat.le_of_eq rfl) (hb hby at_356)
      obtain ⟨rfl, N145q, hq145⟩ := q145
      replace e145 := e145.trans hq145
      refine own_st st145 ?_
      have N145 := Fr.app N143 N145q
      show own_Go p e below s _ _ _ (T145.setTop (mkF m 359 #[.val (.int pa), .val (.int pb), .val (.int pd), .val (.int pe), .val (.int pn), .val (.int (2 : Int32)), .val (.int c0), .val (.int c1), .val (.int c2), .val (.int c3), .val (.ref b126), .val (.ref b131), .val (.ref b134), .val (.int (Int32.ofNat f)), .val (.int (Int32.ofNat l2)), .val (.ref b141)] [(.int (1 : Int32))]))
      refine own_st (fun _ k => XS.ifNo X145.here hx rfl (hb hby at_359) rfl ((if0 _ _).trans (feq (by decide)).1) k) ?_
      show own_Go p e below s _ _ _ (T145.setTop (mkF m 362 #[.val (.int pa), .val (.int pb), .val (.int pd), .val (.int pe), .val (.int pn), .val (.int (2 : Int32)), .val (.int c0), .val (.int c1), .val (.int c2), .val (.int c3), .val (.ref b126), .val (.ref b131), .val (.ref b134), .val (.int (Int32.ofNat f)), .val (.int (Int32.ofNat l2)), .val (.ref b141)] []))
      refine own_st (fun _ k => XS.aload X145.here hx rfl (hb hby at_362) rfl rfl k) ?_
      show own_Go p e below s _ _ _ (T145.setTop (mkF m 364 #[.val (.int pa), .val (.int pb), .val (.int pd), .val (.int pe), .val (.int pn), .val (.int (2 : Int32)), .val (.int c0), .val (.int c1), .val (.int c2), .val (.int c3), .val (.ref b126), .val (.ref b131), .val (.ref b134), .val (.int (Int32.ofNat f)), .val (.int (Int32.ofNat l2)), .val (.ref b141)] [(.ref b141)]))
      refine own_st (fun _ k => XS.aload X145.here hx rfl (hb hby at_364) rfl rfl k) ?_
      show own_Go p e below s _ _ _ (T145.setTop (mkF m 366 #[.val (.int pa), .val (.int pb), .val (.int pd), .val (.int pe), .val (.int pn), .val (.int (2 : Int32)), .val (.int c0), .val (.int c1), .val (.int c2), .val (.int c3), .val (.ref b126), .val (.ref b131), .val (.ref b134), .val (.int (Int32.ofNat f)), .val (.int (Int32.ofNat l2)), .val (.ref b141)] [(.ref b126), (.ref b141)]))
      refine own_st (fun _ k => XS.iconst X145.here hx rfl (hb hby at_366) k) ?_
      show own_Go p e below s _ _ _ (T145.setTop (mkF m 367 #[.val (.int pa), .val (.int pb), .val (.int pd), .val (.int pe), .val (.int pn), .val (.int (2 : Int32)), .val (.int c0), .val (.int c1), .val (.int c2), .val (.int c3), .val (.ref b126), .val (.ref b131), .val (.ref b134), .val (.int (Int32.ofNat f)), .val (.int (Int32.ofNat l2)), .val (.ref b141)] [(.int (1 : Int32)), (.ref b126), (.ref b141)]))
      refine own_st (fun _ k => XS.iload X145.here hx rfl (hb hby at_367) rfl k) ?_
      show own_Go p e below s _ _ _ (T145.setTop (mkF m 369 #[.val (.int pa), .val (.int pb), .val (.int pd), .val (.int pe), .val (.int pn), .val (.int (2 : Int32)), .val (.int c0), .val (.int c1), .val (.int c2), .val (.int c3), .val (.ref b126), .val (.ref b131), .val (.ref b134), .val (.int (Int32.ofNat f)), .val (.int (Int32.ofNat l2)), .val (.ref b141)] [(.int (Int32.ofNat f)), (.int (1 : Int32)), (.ref b126), (.ref b141)]))
      refine own_st (fun _ k => XS.iload X145.here hx rfl (hb hby at_369) rfl k) ?_
      show own_Go p e below s _ _ _ (T145.setTop (mkF m 371 #[.val (.int pa), .val (.int pb), .val (.int pd), .val (.int pe), .val (.int pn), .val (.int (2 : Int32)), .val (.int c0), .val (.int c1), .val (.int c2), .val (.int c3), .val (.ref b126), .val (.ref b131), .val (.ref b134), .val (.int (Int32.ofNat f)), .val (.int (Int32.ofNat l2)), .val (.ref b141)] [(.int (Int32.ofNat l2)), (.int (Int32.ofNat f)), (.int (1 : Int32)), (.ref b126), (.ref b141)]))
      obtain ⟨T146, v146, L146, h146, X146, e146, q146, st146⟩ := own_callS X145 hx hZ (y := (⟨"com/example/shelfproof/shelfproof/library/RequestsRequiredPinLaw", "at", "(Ljava/lang/String;[CIII)Z"⟩ : MethodName)) hown (hw _ (List.mem_of_getElem? (i := 95) rfl)) (hw _ (List.mem_of_getElem? (i := 96) rfl)) (hw _ (List.mem_of_getElem? (i := 32) rfl)) (hw _ (List.mem_of_getElem? (i := 97) rfl)) (by decide) (own_bk (W := 0) (atW l Z a0 hw b141 b126 _ [c0, c1, c2, c3] (([c0, c1].drop f).take (l2 + 1 - f)) 1 f l2 h141 n0 O142 CS FM hds (by omega) rfl (by decide) hfl hdb S141 f144) hZ (hw _ (List.mem_of_getElem? (i := 97) rfl)) (hw _ (List.mem_of_getElem? (i := 32) rfl)) (by decide) (by decide)) e145 (by decide) (by decide) (g := (mkF m 371 #[.val (.int pa), .val (.int pb), .val (.int pd), .val (.int pe), .val (.int pn), .val (.int (2 : Int32)), .val (.int c0), .val (.int c1), .val (.int c2), .val (.int c3), .val (.ref b126), .val (.ref b131), .val (.ref b134), .val (.int (Int32.ofNat f)), .val (.int (Int32.ofNat l2)), .val (.ref b141)] [(.int (Int32.ofNat l2)), (.int (Int32.ofNat f)), (.int (1 : Int32)), (.ref b126), (.ref b141)])) rfl (by rw [hml]; rfl) (argsL := [(.ref b141), (.ref b126), (.int (1 : Int32)), (.int (Int32.ofNat f)), (.int (Int32.ofNat l2))]) (rest := []) (lenOf pd__28Ljava_2flang_2fString_3b_5bCIII_29Z rfl) rfl rfl (by show 2 * 0 + _ ≤ _; exact Nat.le_of_eq rfl) (hb hby at_371)
      obtain ⟨rfl, N146q, hq146⟩ := q146
      replace e146 := e146.trans hq146
      refine own_st st146 ?_
      have N146 := Fr.app N145 N146q
      show own_Go p e below s _ _ _ (T146.setTop (mkF m 374 #[.val (.int pa), .val (.int pb), .val (.int pd), .val (.int pe), .val (.int pn), .val (.int (2 : Int32)), .val (.int c0), .val (.int c1), .val (.int c2), .val (.int c3), .val (.ref b126), .val (.ref b131), .val (.ref b134), .val (.int (Int32.ofNat f)), .val (.int (Int32.ofNat l2)), .val (.ref b141)] [(.int (1 : Int32))]))
      refine own_st (fun _ k => XS.ifNo X146.here hx rfl (hb hby at_374) rfl ((if0 _ _).trans (feq (by decide)).1) k) ?_
      show own_Go p e below s _ _ _ (T146.setTop (mkF m 377 #[.val (.int pa), .val (.int pb), .val (.int pd), .val (.int pe), .val (.int pn), .val (.int (2 : Int32)), .val (.int c0), .val (.int c1), .val (.int c2), .val (.int c3), .val (.ref b126), .val (.ref b131), .val (.ref b134), .val (.int (Int32.ofNat f)), .val (.int (Int32.ofNat l2)), .val (.ref b141)] []))
      refine own_st (fun _ k => XS.aload X146.here hx rfl (hb hby at_377) rfl rfl k) ?_
      show own_Go p e below s _ _ _ (T146.setTop (mkF m 379 #[.val (.int pa), .val (.int pb), .val (.int pd), .val (.int pe), .val (.int pn), .val (.int (2 : Int32)), .val (.int c0), .val (.int c1), .val (.int c2), .val (.int c3), .val (.ref b126), .val (.ref b131), .val (.ref b134), .val (.int (Int32.ofNat f)), .val (.int (Int32.ofNat l2)), .val (.ref b141)] [(.ref b141)]))
      refine own_st (fun _ k => XS.aload X146.here hx rfl (hb hby at_379) rfl rfl k) ?_
      show own_Go p e below s _ _ _ (T146.setTop (mkF m 381 #[.val (.int pa), .val (.int pb), .val (.int pd), .val (.int pe), .val (.int pn), .val (.int (2 : Int32)), .val (.int c0), .val (.int c1), .val (.int c2), .val (.int c3), .val (.ref b126), .val (.ref b131), .val (.ref b134), .val (.int (Int32.ofNat f)), .val (.int (Int32.ofNat l2)), .val (.ref b141)] [(.ref b126), (.ref b141)]))
      refine own_st (fun _ k => XS.iconst X146.here hx rfl (hb hby at_381) k) ?_
      show own_Go p e below s _ _ _ (T146.setTop (mkF m 382 #[.val (.int pa), .val (.int pb), .val (.int pd), .val (.int pe), .val (.int pn), .val (.int (2 : Int32)), .val (.int c0), .val (.int c1), .val (.int c2), .val (.int c3), .val (.ref b126), .val (.ref b131), .val (.ref b134), .val (.int (Int32.ofNat f)), .val (.int (Int32.ofNat l2)), .val (.ref b141)] [(.int (2 : Int32)), (.ref b126), (.ref b141)]))
      refine own_st (fun _ k => XS.iload X146.here hx rfl (hb hby at_382) rfl k) ?_
      show own_Go p e below s _ _ _ (T146.setTop (mkF m 384 #[.val (.int pa), .val (.int pb), .val (.int pd), .val (.int pe), .val (.int pn), .val (.int (2 : Int32)), .val (.int c0), .val (.int c1), .val (.int c2), .val (.int c3), .val (.ref b126), .val (.ref b131), .val (.ref b134), .val (.int (Int32.ofNat f)), .val (.int (Int32.ofNat l2)), .val (.ref b141)] [(.int (Int32.ofNat f)), (.int (2 : Int32)), (.ref b126), (.ref b141)]))
      refine own_st (fun _ k => XS.iload X146.here hx rfl (hb hby at_384) rfl k) ?_
      show own_Go p e below s _ _ _ (T146.setTop (mkF m 386 #[.val (.int pa), .val (.int pb), .val (.int pd), .val (.int pe), .val (.int pn), .val (.int (2 : Int32)), .val (.int c0), .val (.int c1), .val (.int c2), .val (.int c3), .val (.ref b126), .val (.ref b131), .val (.ref b134), .val (.int (Int32.ofNat f)), .val (.int (Int32.ofNat l2)), .val (.ref b141)] [(.int (Int32.ofNat l2)), (.int (Int32.ofNat f)), (.int (2 : Int32)), (.ref b126), (.ref b141)]))
      obtain ⟨T147, v147, L147, h147, X147, e147, q147, st147⟩ := own_callS X146 hx hZ (y := (⟨"com/example/shelfproof/shelfproof/library/RequestsRequiredPinLaw", "at", "(Ljava/lang/String;[CIII)Z"⟩ : MethodName)) hown (hw _ (List.mem_of_getElem? (i := 95) rfl)) (hw _ (List.mem_of_getElem? (i := 96) rfl)) (hw _ (List.mem_of_getElem? (i := 32) rfl)) (hw _ (List.mem_of_getElem? (i := 97) rfl)) (by decide) (own_bk (W := 0) (atW l Z a0 hw b141 b126 _ [c0, c1, c2, c3] (([c0, c1].drop f).take (l2 + 1 - f)) 2 f l2 h141 n0 O142 CS FM hds (by omega) rfl (by decide) hfl hdb S141 f144) hZ (hw _ (List.mem_of_getElem? (i := 97) rfl)) (hw _ (List.mem_of_getElem? (i := 32) rfl)) (by decide) (by decide)) e146 (by decide) (by decide) (g := (mkF m 386 #[.val (.int pa), .val (.int pb), .val (.int pd), .val (.int pe), .val (.int pn), .val (.int (2 : Int32)), .val (.int c0), .val (.int c1), .val (.int c2), .val (.int c3), .val (.ref b126), .val (.ref b131), .val (.ref b134), .val (.int (Int32.ofNat f)), .val (.int (Int32.ofNat l2)), .val (.ref b141)] [(.int (Int32.ofNat l2)), (.int (Int32.ofNat f)), (.int (2 : Int32)), (.ref b126), (.ref b141)])) rfl (by rw [hml]; rfl) (argsL := [(.ref b141), (.ref b126), (.int (2 : Int32)), (.int (Int32.ofNat f)), (.int (Int32.ofNat l2))]) (rest := []) (lenOf pd__28Ljava_2flang_2fString_3b_5bCIII_29Z rfl) rfl rfl (by show 2 * 0 + _ ≤ _; exact Nat.le_of_eq rfl) (hb hby at_386)
      obtain ⟨rfl, N147q, hq147⟩ := q147
      replace e147 := e147.trans hq147
      refine own_st st147 ?_
      have N147 := Fr.app N146 N147q
      show own_Go p e below s _ _ _ (T147.setTop (mkF m 389 #[.val (.int pa), .val (.int pb), .val (.int pd), .val (.int pe), .val (.int pn), .val (.int (2 : Int32)), .val (.int c0), .val (.int c1), .val (.int c2), .val (.int c3), .val (.ref b126), .val (.ref b131), .val (.ref b134), .val (.int (Int32.ofNat f)), .val (.int (Int32.ofNat l2)), .val (.ref b141)] [(.int (1 : Int32))]))
      refine own_st (fun _ k => XS.ifNo X147.here hx rfl (hb hby at_389) rfl ((if0 _ _).trans (feq (by decide)).1) k) ?_
      show own_Go p e below s _ _ _ (T147.setTop (mkF m 392 #[.val (.int pa), .val (.int pb), .val (.int pd), .val (.int pe), .val (.int pn), .val (.int (2 : Int32)), .val (.int c0), .val (.int c1), .val (.int c2), .val (.int c3), .val (.ref b126), .val (.ref b131), .val (.ref b134), .val (.int (Int32.ofNat f)), .val (.int (Int32.ofNat l2)), .val (.ref b141)] []))
      refine own_st (fun _ k => XS.aload X147.here hx rfl (hb hby at_392) rfl rfl k) ?_
      show own_Go p e below s _ _ _ (T147.setTop (mkF m 394 #[.val (.int pa), .val (.int pb), .val (.int pd), .val (.int pe), .val (.int pn), .val (.int (2 : Int32)), .val (.int c0), .val (.int c1), .val (.int c2), .val (.int c3), .val (.ref b126), .val (.ref b131), .val (.ref b134), .val (.int (Int32.ofNat f)), .val (.int (Int32.ofNat l2)), .val (.ref b141)] [(.ref b141)]))
      refine own_st (fun _ k => XS.aload X147.here hx rfl (hb hby at_394) rfl rfl k) ?_
      show own_Go p e below s _ _ _ (T147.setTop (mkF m 396 #[.val (.int pa), .val (.int pb), .val (.int pd), .val (.int pe), .val (.int pn), .val (.int (2 : Int32)), .val (.int c0), .val (.int c1), .val (.int c2), .val (.int c3), .val (.ref b126), .val (.ref b131), .val (.ref b134), .val (.int (Int32.ofNat f)), .val (.int (Int32.ofNat l2)), .val (.ref b141)] [(.ref b126), (.ref b141)]))
      refine own_st (fun _ k => XS.iconst X147.here hx rfl (hb hby at_396) k) ?_
      show own_Go p e below s _ _ _ (T147.setTop (mkF m 397 #[.val (.int pa), .val (.int pb), .val (.int pd), .val (.int pe), .val (.int pn), .val (.int (2 : Int32)), .val (.int c0), .val (.int c1), .val (.int c2), .val (.int c3), .val (.ref b126), .val (.ref b131), .val (.ref b134), .val (.int (Int32.ofNat f)), .val (.int (Int32.ofNat l2)), .val (.ref b141)] [(.int (3 : Int32)), (.ref b126), (.ref b141)]))
      refine own_st (fun _ k => XS.iload X147.here hx rfl (hb hby at_397) rfl k) ?_
      show own_Go p e below s _ _ _ (T147.setTop (mkF m 399 #[.val (.int pa), .val (.int pb), .val (.int pd), .val (.int pe), .val (.int pn), .val (.int (2 : Int32)), .val (.int c0), .val (.int c1), .val (.int c2), .val (.int c3), .val (.ref b126), .val (.ref b131), .val (.ref b134), .val (.int (Int32.ofNat f)), .val (.int (Int32.ofNat l2)), .val (.ref b141)] [(.int (Int32.ofNat f)), (.int (3 : Int32)), (.ref b126), (.ref b141)]))
      refine own_st (fun _ k => XS.iload X147.here hx rfl (hb hby at_399) rfl k) ?_
      show own_Go p e below s _ _ _ (T147.setTop (mkF m 401 #[.val (.int pa), .val (.int pb), .val (.int pd), .val (.int pe), .val (.int pn), .val (.int (2 : Int32)), .val (.int c0), .val (.int c1), .val (.int c2), .val (.int c3), .val (.ref b126), .val (.ref b131), .val (.ref b134), .val (.int (Int32.ofNat f)), .val (.int (Int32.ofNat l2)), .val (.ref b141)] [(.int (Int32.ofNat l2)), (.int (Int32.ofNat f)), (.int (3 : Int32)), (.ref b126), (.ref b141)]))
      obtain ⟨T148, v148, L148, h148, X148, e148, q148, st148⟩ := own_callS X147 hx hZ (y := (⟨"com/example/shelfproof/shelfproof/library/RequestsRequiredPinLaw", "at", "(Ljava/lang/String;[CIII)Z"⟩ : MethodName)) hown (hw _ (List.mem_of_getElem? (i := 95) rfl)) (hw _ (List.mem_of_getElem? (i := 96) rfl)) (hw _ (List.mem_of_getElem? (i := 32) rfl)) (hw _ (List.mem_of_getElem? (i := 97) rfl)) (by decide) (own_bk (W := 0) (atW l Z a0 hw b141 b126 _ [c0, c1, c2, c3] (([c0, c1].drop f).take (l2 + 1 - f)) 3 f l2 h141 n0 O142 CS FM hds (by omega) rfl (by decide) hfl hdb S141 f144) hZ (hw _ (List.mem_of_getElem? (i := 97) rfl)) (hw _ (List.mem_of_getElem? (i := 32) rfl)) (by decide) (by decide)) e147 (by decide) (by decide) (g := (mkF m 401 #[.val (.int pa), .val (.int pb), .val (.int pd), .val (.int pe), .val (.int pn), .val (.int (2 : Int32)), .val (.int c0), .val (.int c1), .val (.int c2), .val (.int c3), .val (.ref b126), .val (.ref b131), .val (.ref b134), .val (.int (Int32.ofNat f)), .val (.int (Int32.ofNat l2)), .val (.ref b141)] [(.int (Int32.ofNat l2)), (.int (Int32.ofNat f)), (.int (3 : Int32)), (.ref b126), (.ref b141)])) rfl (by rw [hml]; rfl) (argsL := [(.ref b141), (.ref b126), (.int (3 : Int32)), (.int (Int32.ofNat f)), (.int (Int32.ofNat l2))]) (rest := []) (lenOf pd__28Ljava_2flang_2fString_3b_5bCIII_29Z rfl) rfl rfl (by show 2 * 0 + _ ≤ _; exact Nat.le_of_eq rfl) (hb hby at_401)
      obtain ⟨rfl, N148q, hq148⟩ := q148
      replace e148 := e148.trans hq148
      refine own_st st148 ?_
      have N148 := Fr.app N147 N148q
      show own_Go p e below s _ _ _ (T148.setTop (mkF m 404 #[.val (.int pa), .val (.int pb), .val (.int pd), .val (.int pe), .val (.int pn), .val (.int (2 : Int32)), .val (.int c0), .val (.int c1), .val (.int c2), .val (.int c3), .val (.ref b126), .val (.ref b131), .val (.ref b134), .val (.int (Int32.ofNat f)), .val (.int (Int32.ofNat l2)), .val (.ref b141)] [(.int (1 : Int32))]))
      refine own_st (fun _ k => XS.ifNo X148.here hx rfl (hb hby at_404) rfl ((if0 _ _).trans (feq (by decide)).1) k) ?_
      show own_Go p e below s _ _ _ (T148.setTop (mkF m 407 #[.val (.int pa), .val (.int pb), .val (.int pd), .val (.int pe), .val (.int pn), .val (.int (2 : Int32)), .val (.int c0), .val (.int c1), .val (.int c2), .val (.int c3), .val (.ref b126), .val (.ref b131), .val (.ref b134), .val (.int (Int32.ofNat f)), .val (.int (Int32.ofNat l2)), .val (.ref b141)] []))
      refine own_st (fun _ k => XS.iconst X148.here hx rfl (hb hby at_407) k) ?_
      show own_Go p e below s _ _ _ (T148.setTop (mkF m 408 #[.val (.int pa), .val (.int pb), .val (.int pd), .val (.int pe), .val (.int pn), .val (.int (2 : Int32)), .val (.int c0), .val (.int c1), .val (.int c2), .val (.int c3), .val (.ref b126), .val (.ref b131), .val (.ref b134), .val (.int (Int32.ofNat f)), .val (.int (Int32.ofNat l2)), .val (.ref b141)] [(.int (1 : Int32))]))
      refine own_st (fun _ k => XS.goto X148.here hx rfl (pc0 := 408) (pc' := 412) rfl (hb hby at_408) (by decide) (by decide) k) ?_
      show own_Go p e below s _ _ _ (T148.setTop (mkF m 412 #[.val (.int pa), .val (.int pb), .val (.int pd), .val (.int pe), .val (.int pn), .val (.int (2 : Int32)), .val (.int c0), .val (.int c1), .val (.int c2), .val (.int c3), .val (.ref b126), .val (.ref b131), .val (.ref b134), .val (.int (Int32.ofNat f)), .val (.int (Int32.ofNat l2)), .val (.ref b141)] [(.int (1 : Int32))]))
      exact own_ret X148 hx hlk e148 hret (by decide) (Or.inl ⟨rfl, Or.inr (Or.inl rfl), _, rfl⟩) (hb hby at_412) (by decide) (by decide) ⟨rfl, N148⟩
    refine own_st (fun _ k => XS.iload X137.here hx rfl (hb hby at_173) rfl k) ?_
    show own_Go p e below s _ _ _ (T137.setTop (mkF m 175 #[.val (.int pa), .val (.int pb), .val (.int pd), .val (.int pe), .val (.int pn), .val (.int (2 : Int32)), .val (.int c0), .val (.int c1), .val (.int c2), .val (.int c3), .val (.ref b126), .val (.ref b131), .val (.ref b134), .unset, .unset, .unset] [(.int c0)]))
    have O149 : Old Z n0 h137 := O136.keep ((Keep.refl h134 [b134]).trans K137 (allS (Or.inl (by simp)) all0)) (allS (by omega) all0)
    obtain ⟨T150, v150, L150, h150, X150, e150, q150, st150⟩ := own_callS X137 hx hZ (y := (⟨"com/example/shelfproof/shelfproof/library/RequestsRequiredPinLaw", "ws", "(C)Z"⟩ : MethodName)) hown (hw _ (List.mem_of_getElem? (i := 30) rfl)) (hw _ (List.mem_of_getElem? (i := 31) rfl)) (hw _ (List.mem_of_getElem? (i := 32) rfl)) (hw _ (List.mem_of_getElem? (i := 33) rfl)) (by decide) (own_bk (W := 0) (wsW l Z a0 hw c0 h137 n0 O149) hZ (hw _ (List.mem_of_getElem? (i := 33) rfl)) (hw _ (List.mem_of_getElem? (i := 32) rfl)) (by decide) (by decide)) e137 (by decide) (by decide) (g := (mkF m 175 #[.val (.int pa), .val (.int pb), .val (.int pd), .val (.int pe), .val (.int pn), .val (.int (2 : Int32)), .val (.int c0), .val (.int c1), .val (.int c2), .val (.int c3), .val (.ref b126), .val (.ref b131), .val (.ref b134), .unset, .unset, .unset] [(.int c0)])) rfl (by rw [hml]; rfl) (argsL := [(.int c0)]) (rest := []) (lenOf pd__28C_29Z rfl) rfl rfl (by show 2 * 0 + _ ≤ _; exact Nat.le_of_eq rfl) (hb hby at_175)
    obtain ⟨rfl, N150q, hq150⟩ := q150
    replace e150 := e150.trans hq150
    refine own_st st150 ?_
    have N150 := Fr.app N137 N150q
    show own_Go p e below s _ _ _ (T150.setTop (mkF m 178 #[.val (.int pa), .val (.int pb), .val (.int pd), .val (.int pe), .val (.int pn), .val (.int (2 : Int32)), .val (.int c0), .val (.int c1), .val (.int c2), .val (.int c3), .val (.ref b126), .val (.ref b131), .val (.ref b134), .unset, .unset, .unset] [(.int (if own_ws c0 then (1 : Int32) else 0))]))
    by_cases c151 : (if own_ws c0 then (1 : Int32) else 0) = (0 : Int32)
    · refine own_st (fun _ k => XS.ifNo X150.here hx rfl (hb hby at_178) rfl ((if0 _ _).trans (teq c151).2) k) ?_
      show own_Go p e below s _ _ _ (T150.setTop (mkF m 181 #[.val (.int pa), .val (.int pb), .val (.int pd), .val (.int pe), .val (.int pn), .val (.int (2 : Int32)), .val (.int c0), .val (.int c1), .val (.int c2), .val (.int c3), .val (.ref b126), .val (.ref b131), .val (.ref b134), .unset, .unset, .unset] []))
      refine own_st (fun _ k => XS.iconst X150.here hx rfl (hb hby at_181) k) ?_
      show own_Go p e below s _ _ _ (T150.setTop (mkF m 182 #[.val (.int pa), .val (.int pb), .val (.int pd), .val (.int pe), .val (.int pn), .val (.int (2 : Int32)), .val (.int c0), .val (.int c1), .val (.int c2), .val (.int c3), .val (.ref b126), .val (.ref b131), .val (.ref b134), .unset, .unset, .unset] [(.int (0 : Int32))]))
      refine own_st (fun _ k => XS.istore X150.here hx rfl (hb hby at_182) rfl (l' := #[.val (.int pa), .val (.int pb), .val (.int pd), .val (.int pe), .val (.int pn), .val (.int (2 : Int32)), .val (.int c0), .val (.int c1), .val (.int c2), .val (.int c3), .val (.ref b126), .val (.ref b131), .val (.ref b134), .val (.int (0 : Int32)), .unset, .unset]) rfl k) ?_
      show own_Go p e below s _ _ _ (T150.setTop (mkF m 184 #[.val (.int pa), .val (.int pb), .val (.int pd), .val (.int pe), .val (.int pn), .val (.int (2 : Int32)), .val (.int c0), .val (.int c1), .val (.int c2), .val (.int c3), .val (.ref b126), .val (.ref b131), .val (.ref b134), .val (.int (0 : Int32)), .unset, .unset] []))
      refine own_st (fun _ k => XS.goto X150.here hx rfl (pc0 := 184) (pc' := 250) rfl (hb hby at_184) (by decide) (by decide) k) ?_
      show own_Go p e below s _ _ _ (T150.setTop (mkF m 250 #[.val (.int pa), .val (.int pb), .val (.int pd), .val (.int pe), .val (.int pn), .val (.int (2 : Int32)), .val (.int c0), .val (.int c1), .val (.int c2), .val (.int c3), .val (.ref b126), .val (.ref b131), .val (.ref b134), .val (.int (0 : Int32)), .unset, .unset] []))
      refine own_st (fun _ k => XS.iload X150.here hx rfl (hb hby at_250) rfl k) ?_
      show own_Go p e below s _ _ _ (T150.setTop (mkF m 252 #[.val (.int pa), .val (.int pb), .val (.int pd), .val (.int pe), .val (.int pn), .val (.int (2 : Int32)), .val (.int c0), .val (.int c1), .val (.int c2), .val (.int c3), .val (.ref b126), .val (.ref b131), .val (.ref b134), .val (.int (0 : Int32)), .unset, .unset] [(.int (0 : Int32))]))
      refine own_st (fun _ k => XS.ifYes X150.here hx rfl (pc0 := 252) (pc' := 257) rfl (hb hby at_252) rfl ((if0 _ _).trans (flt (by decide)).2.1) (by decide) (by decide) k) ?_
      show own_Go p e below s _ _ _ (T150.setTop (mkF m 257 #[.val (.int pa), .val (.int pb), .val (.int pd), .val (.int pe), .val (.int pn), .val (.int (2 : Int32)), .val (.int c0), .val (.int c1), .val (.int c2), .val (.int c3), .val (.ref b126), .val (.ref b131), .val (.ref b134), .val (.int (0 : Int32)), .unset, .unset] []))
      refine own_st (fun _ k => XS.iload X150.here hx rfl (hb hby at_257) rfl k) ?_
      show own_Go p e below s _ _ _ (T150.setTop (mkF m 259 #[.val (.int pa), .val (.int pb), .val (.int pd), .val (.int pe), .val (.int pn), .val (.int (2 : Int32)), .val (.int c0), .val (.int c1), .val (.int c2), .val (.int c3), .val (.ref b126), .val (.ref b131), .val (.ref b134), .val (.int (0 : Int32)), .unset, .unset] [(.int (2 : Int32))]))
      refine own_st (fun _ k => XS.iconst X150.here hx rfl (hb hby at_259) k) ?_
      show own_Go p e below s _ _ _ (T150.setTop (mkF m 260 #[.val (.int pa), .val (.int pb), .val (.int pd), .val (.int pe), .val (.int pn), .val (.int (2 : Int32)), .val (.int c0), .val (.int c1), .val (.int c2), .val (.int c3), .val (.ref b126), .val (.ref b131), .val (.ref b134), .val (.int (0 : Int32)), .unset, .unset] [(.int (3 : Int32)), (.int (2 : Int32))]))
      refine own_st (fun _ k => XS.icmpYes X150.here hx rfl (pc0 := 260) (pc' := 277) rfl (hb hby at_260) rfl (flt (by decide)).2.2.2 (by decide) (by decide) k) ?_
      show own_Go p e below s _ _ _ (T150.setTop (mkF m 277 #[.val (.int pa), .val (.int pb), .val (.int pd), .val (.int pe), .val (.int pn), .val (.int (2 : Int32)), .val (.int c0), .val (.int c1), .val (.int c2), .val (.int c3), .val (.ref b126), .val (.ref b131), .val (.ref b134), .val (.int (0 : Int32)), .unset, .unset] []))
      refine own_st (fun _ k => XS.iload X150.here hx rfl (hb hby at_277) rfl k) ?_
      show own_Go p e below s _ _ _ (T150.setTop (mkF m 279 #[.val (.int pa), .val (.int pb), .val (.int pd), .val (.int pe), .val (.int pn), .val (.int (2 : Int32)), .val (.int c0), .val (.int c1), .val (.int c2), .val (.int c3), .val (.ref b126), .val (.ref b131), .val (.ref b134), .val (.int (0 : Int32)), .unset, .unset] [(.int (2 : Int32))]))
      refine own_st (fun _ k => XS.iconst X150.here hx rfl (hb hby at_279) k) ?_
      show own_Go p e below s _ _ _ (T150.setTop (mkF m 280 #[.val (.int pa), .val (.int pb), .val (.int pd), .val (.int pe), .val (.int pn), .val (.int (2 : Int32)), .val (.int c0), .val (.int c1), .val (.int c2), .val (.int c3), .val (.ref b126), .val (.ref b131), .val (.ref b134), .val (.int (0 : Int32)), .unset, .unset] [(.int (2 : Int32)), (.int (2 : Int32))]))
      refine own_st (fun _ k => XS.icmpYes X150.here hx rfl (pc0 := 280) (pc' := 297) rfl (hb hby at_280) rfl (flt (by decide)).2.2.2 (by decide) (by decide) k) ?_
      show own_Go p e below s _ _ _ (T150.setTop (mkF m 297 #[.val (.int pa), .val (.int pb), .val (.int pd), .val (.int pe), .val (.int pn), .val (.int (2 : Int32)), .val (.int c0), .val (.int c1), .val (.int c2), .val (.int c3), .val (.ref b126), .val (.ref b131), .val (.ref b134), .val (.int (0 : Int32)), .unset, .unset] []))
      refine own_st (fun _ k => XS.iload X150.here hx rfl (hb hby at_297) rfl k) ?_
      show own_Go p e below s _ _ _ (T150.setTop (mkF m 299 #[.val (.int pa), .val (.int pb), .val (.int pd), .val (.int pe), .val (.int pn), .val (.int (2 : Int32)), .val (.int c0), .val (.int c1), .val (.int c2), .val (.int c3), .val (.ref b126), .val (.ref b131), .val (.ref b134), .val (.int (0 : Int32)), .unset, .unset] [(.int (2 : Int32))]))
      refine own_st (fun _ k => XS.iconst X150.here hx rfl (hb hby at_299) k) ?_
      show own_Go p e below s _ _ _ (T150.setTop (mkF m 300 #[.val (.int pa), .val (.int pb), .val (.int pd), .val (.int pe), .val (.int pn), .val (.int (2 : Int32)), .val (.int c0), .val (.int c1), .val (.int c2), .val (.int c3), .val (.ref b126), .val (.ref b131), .val (.ref b134), .val (.int (0 : Int32)), .unset, .unset] [(.int (1 : Int32)), (.int (2 : Int32))]))
      refine own_st (fun _ k => XS.icmpNo X150.here hx rfl (hb hby at_300) rfl (tlt (by decide)).2.2.2 k) ?_
      show own_Go p e below s _ _ _ (T150.setTop (mkF m 303 #[.val (.int pa), .val (.int pb), .val (.int pd), .val (.int pe), .val (.int pn), .val (.int (2 : Int32)), .val (.int c0), .val (.int c1), .val (.int c2), .val (.int c3), .val (.ref b126), .val (.ref b131), .val (.ref b134), .val (.int (0 : Int32)), .unset, .unset] []))
      refine own_st (fun _ k => XS.iload X150.here hx rfl (hb hby at_303) rfl k) ?_
      show own_Go p e below s _ _ _ (T150.setTop (mkF m 305 #[.val (.int pa), .val (.int pb), .val (.int pd), .val (.int pe), .val (.int pn), .val (.int (2 : Int32)), .val (.int c0), .val (.int c1), .val (.int c2), .val (.int c3), .val (.ref b126), .val (.ref b131), .val (.ref b134), .val (.int (0 : Int32)), .unset, .unset] [(.int c1)]))
      obtain ⟨T152, v152, L152, h152, X152, e152, q152, st152⟩ := own_callS X150 hx hZ (y := (⟨"com/example/shelfproof/shelfproof/library/RequestsRequiredPinLaw", "ws", "(C)Z"⟩ : MethodName)) hown (hw _ (List.mem_of_getElem? (i := 30) rfl)) (hw _ (List.mem_of_getElem? (i := 31) rfl)) (hw _ (List.mem_of_getElem? (i := 32) rfl)) (hw _ (List.mem_of_getElem? (i := 33) rfl)) (by decide) (own_bk (W := 0) (wsW l Z a0 hw c1 h137 n0 O149) hZ (hw _ (List.mem_of_getElem? (i := 33) rfl)) (hw _ (List.mem_of_getElem? (i := 32) rfl)) (by decide) (by decide)) e150 (by decide) (by decide) (g := (mkF m 305 #[.val (.int pa), .val (.int pb), .val (.int pd), .val (.int pe), .val (.int pn), .val (.int (2 : Int32)), .val (.int c0), .val (.int c1), .val (.int c2), .val (.int c3), .val (.ref b126), .val (.ref b131), .val (.ref b134), .val (.int (0 : Int32)), .unset, .unset] [(.int c1)])) rfl (by rw [hml]; rfl) (argsL := [(.int c1)]) (rest := []) (lenOf pd__28C_29Z rfl) rfl rfl (by show 2 * 0 + _ ≤ _; exact Nat.le_of_eq rfl) (hb hby at_305)
      obtain ⟨rfl, N152q, hq152⟩ := q152
      replace e152 := e152.trans hq152
      refine own_st st152 ?_
      have N152 := Fr.app N150 N152q
      show own_Go p e below s _ _ _ (T152.setTop (mkF m 308 #[.val (.int pa), .val (.int pb), .val (.int pd), .val (.int pe), .val (.int pn), .val (.int (2 : Int32)), .val (.int c0), .val (.int c1), .val (.int c2), .val (.int c3), .val (.ref b126), .val (.ref b131), .val (.ref b134), .val (.int (0 : Int32)), .unset, .unset] [(.int (if own_ws c1 then (1 : Int32) else 0))]))
      by_cases c153 : (if own_ws c1 then (1 : Int32) else 0) = (0 : Int32)
      · refine own_st (fun _ k => XS.ifNo X152.here hx rfl (hb hby at_308) rfl ((if0 _ _).trans (teq c153).2) k) ?_
        show own_Go p e below s _ _ _ (T152.setTop (mkF m 311 #[.val (.int pa), .val (.int pb), .val (.int pd), .val (.int pe), .val (.int pn), .val (.int (2 : Int32)), .val (.int c0), .val (.int c1), .val (.int c2), .val (.int c3), .val (.ref b126), .val (.ref b131), .val (.ref b134), .val (.int (0 : Int32)), .unset, .unset] []))
        refine own_st (fun _ k => XS.iconst X152.here hx rfl (hb hby at_311) k) ?_
        show own_Go p e below s _ _ _ (T152.setTop (mkF m 312 #[.val (.int pa), .val (.int pb), .val (.int pd), .val (.int pe), .val (.int pn), .val (.int (2 : Int32)), .val (.int c0), .val (.int c1), .val (.int c2), .val (.int c3), .val (.ref b126), .val (.ref b131), .val (.ref b134), .val (.int (0 : Int32)), .unset, .unset] [(.int (1 : Int32))]))
        refine own_st (fun _ k => XS.istore X152.here hx rfl (hb hby at_312) rfl (l' := #[.val (.int pa), .val (.int pb), .val (.int pd), .val (.int pe), .val (.int pn), .val (.int (2 : Int32)), .val (.int c0), .val (.int c1), .val (.int c2), .val (.int c3), .val (.ref b126), .val (.ref b131), .val (.ref b134), .val (.int (0 : Int32)), .val (.int (1 : Int32)), .unset]) rfl k) ?_
        show own_Go p e below s _ _ _ (T152.setTop (mkF m 314 #[.val (.int pa), .val (.int pb), .val (.int pd), .val (.int pe), .val (.int pn), .val (.int (2 : Int32)), .val (.int c0), .val (.int c1), .val (.int c2), .val (.int c3), .val (.ref b126), .val (.ref b131), .val (.ref b134), .val (.int (0 : Int32)), .val (.int (1 : Int32)), .unset] []))
        refine own_st (fun _ k => XS.goto X152.here hx rfl (pc0 := 314) (pc' := 320) rfl (hb hby at_314) (by decide) (by decide) k) ?_
        show own_Go p e below s _ _ _ (T152.setTop (mkF m 320 #[.val (.int pa), .val (.int pb), .val (.int pd), .val (.int pe), .val (.int pn), .val (.int (2 : Int32)), .val (.int c0), .val (.int c1), .val (.int c2), .val (.int c3), .val (.ref b126), .val (.ref b131), .val (.ref b134), .val (.int (0 : Int32)), .val (.int (1 : Int32)), .unset] []))
        exact G138 _ _ 0 1 (by decide) (fun j hj => absurd hj (by omega)) (own_ifF c151) (by decide) (by decide) (fun j hj hj2 => absurd hj2 (by omega)) (own_ifF c153) X152 e152 N152
      · refine own_st (fun _ k => XS.ifYes X152.here hx rfl (pc0 := 308) (pc' := 317) rfl (hb hby at_308) rfl ((if0 _ _).trans (feq c153).2) (by decide) (by decide) k) ?_
        show own_Go p e below s _ _ _ (T152.setTop (mkF m 317 #[.val (.int pa), .val (.int pb), .val (.int pd), .val (.int pe), .val (.int pn), .val (.int (2 : Int32)), .val (.int c0), .val (.int c1), .val (.int c2), .val (.int c3), .val (.ref b126), .val (.ref b131), .val (.ref b134), .val (.int (0 : Int32)), .unset, .unset] []))
        refine own_st (fun _ k => XS.iconst X152.here hx rfl (hb hby at_317) k) ?_
        show own_Go p e below s _ _ _ (T152.setTop (mkF m 318 #[.val (.int pa), .val (.int pb), .val (.int pd), .val (.int pe), .val (.int pn), .val (.int (2 : Int32)), .val (.int c0), .val (.int c1), .val (.int c2), .val (.int c3), .val (.ref b126), .val (.ref b131), .val (.ref b134), .val (.int (0 : Int32)), .unset, .unset] [(.int (0 : Int32))]))
        refine own_st (fun _ k => XS.istore X152.here hx rfl (hb hby at_318) rfl (l' := #[.val (.int pa), .val (.int pb), .val (.int pd), .val (.int pe), .val (.int pn), .val (.int (2 : Int32)), .val (.int c0), .val (.int c1), .val (.int c2), .val (.int c3), .val (.ref b126), .val (.ref b131), .val (.ref b134), .val (.int (0 : Int32)), .val (.int (0 : Int32)), .unset]) rfl k) ?_
        show own_Go p e below s _ _ _ (T152.setTop (mkF m 320 #[.val (.int pa), .val (.int pb), .val (.int pd), .val (.int pe), .val (.int pn), .val (.int (2 : Int32)), .val (.int c0), .val (.int c1), .val (.int c2), .val (.int c3), .val (.ref b126), .val (.ref b131), .val (.ref b134), .val (.int (0 : Int32)), .val (.int (0 : Int32)), .unset] []))
        exact G138 _ _ 0 0 (by decide) (fun j hj => absurd hj (by omega)) (own_ifF c151) (by decide) (by decide) (fun j hj hj2 => match j, (show 1 ≤ j ∧ j < 2 from by omega) with | 1, _ => (own_ifT c153)) (own_ifF c151) X152 e152 N152
    · refine own_st (fun _ k => XS.ifYes X150.here hx rfl (pc0 := 178) (pc' := 187) rfl (hb hby at_178) rfl ((if0 _ _).trans (feq c151).2) (by decide) (by decide) k) ?_
      show own_Go p e below s _ _ _ (T150.setTop (mkF m 187 #[.val (.int pa), .val (.int pb), .val (.int pd), .val (.int pe), .val (.int pn), .val (.int (2 : Int32)), .val (.int c0), .val (.int c1), .val (.int c2), .val (.int c3), .val (.ref b126), .val (.ref b131), .val (.ref b134), .unset, .unset, .unset] []))
      refine own_st (fun _ k => XS.iload X150.here hx rfl (hb hby at_187) rfl k) ?_
      show own_Go p e below s _ _ _ (T150.setTop (mkF m 189 #[.val (.int pa), .val (.int pb), .val (.int pd), .val (.int pe), .val (.int pn), .val (.int (2 : Int32)), .val (.int c0), .val (.int c1), .val (.int c2), .val (.int c3), .val (.ref b126), .val (.ref b131), .val (.ref b134), .unset, .unset, .unset] [(.int (2 : Int32))]))
      refine own_st (fun _ k => XS.iconst X150.here hx rfl (hb hby at_189) k) ?_
      show own_Go p e below s _ _ _ (T150.setTop (mkF m 190 #[.val (.int pa), .val (.int pb), .val (.int pd), .val (.int pe), .val (.int pn), .val (.int (2 : Int32)), .val (.int c0), .val (.int c1), .val (.int c2), .val (.int c3), .val (.ref b126), .val (.ref b131), .val (.ref b134), .unset, .unset, .unset] [(.int (1 : Int32)), (.int (2 : Int32))]))
      refine own_st (fun _ k => XS.icmpNo X150.here hx rfl (hb hby at_190) rfl (tlt (by decide)).2.2.2 k) ?_
      show own_Go p e below s _ _ _ (T150.setTop (mkF m 193 #[.val (.int pa), .val (.int pb), .val (.int pd), .val (.int pe), .val (.int pn), .val (.int (2 : Int32)), .val (.int c0), .val (.int c1), .val (.int c2), .val (.int c3), .val (.ref b126), .val (.ref b131), .val (.ref b134), .unset, .unset, .unset] []))
      refine own_st (fun _ k => XS.iload X150.here hx rfl (hb hby at_193) rfl k) ?_
      show own_Go p e below s _ _ _ (T150.setTop (mkF m 195 #[.val (.int pa), .val (.int pb), .val (.int pd), .val (.int pe), .val (.int pn), .val (.int (2 : Int32)), .val (.int c0), .val (.int c1), .val (.int c2), .val (.int c3), .val (.ref b126), .val (.ref b131), .val (.ref b134), .unset, .unset, .unset] [(.int c1)]))
      obtain ⟨T154, v154, L154, h154, X154, e154, q154, st154⟩ := own_callS X150 hx hZ (y := (⟨"com/example/shelfproof/shelfproof/library/RequestsRequiredPinLaw", "ws", "(C)Z"⟩ : MethodName)) hown (hw _ (List.mem_of_getElem? (i := 30) rfl)) (hw _ (List.mem_of_getElem? (i := 31) rfl)) (hw _ (List.mem_of_getElem? (i := 32) rfl)) (hw _ (List.mem_of_getElem? (i := 33) rfl)) (by decide) (own_bk (W := 0) (wsW l Z a0 hw c1 h137 n0 O149) hZ (hw _ (List.mem_of_getElem? (i := 33) rfl)) (hw _ (List.mem_of_getElem? (i := 32) rfl)) (by decide) (by decide)) e150 (by decide) (by decide) (g := (mkF m 195 #[.val (.int pa), .val (.int pb), .val (.int pd), .val (.int pe), .val (.int pn), .val (.int (2 : Int32)), .val (.int c0), .val (.int c1), .val (.int c2), .val (.int c3), .val (.ref b126), .val (.ref b131), .val (.ref b134), .unset, .unset, .unset] [(.int c1)])) rfl (by rw [hml]; rfl) (argsL := [(.int c1)]) (rest := []) (lenOf pd__28C_29Z rfl) rfl rfl (by show 2 * 0 + _ ≤ _; exact Nat.le_of_eq rfl) (hb hby at_195)
      obtain ⟨rfl, N154q, hq154⟩ := q154
      replace e154 := e154.trans hq154
      refine own_st st154 ?_
      have N154 := Fr.app N150 N154q
      show own_Go p e below s _ _ _ (T154.setTop (mkF m 198 #[.val (.int pa), .val (.int pb), .val (.int pd), .val (.int pe), .val (.int pn), .val (.int (2 : Int32)), .val (.int c0), .val (.int c1), .val (.int c2), .val (.int c3), .val (.ref b126), .val (.ref b131), .val (.ref b134), .unset, .unset, .unset] [(.int (if own_ws c1 then (1 : Int32) else 0))]))
      by_cases c155 : (if own_ws c1 then (1 : Int32) else 0) = (0 : Int32)
      · refine own_st (fun _ k => XS.ifNo X154.here hx rfl (hb hby at_198) rfl ((if0 _ _).trans (teq c155).2) k) ?_
        show own_Go p e below s _ _ _ (T154.setTop (mkF m 201 #[.val (.int pa), .val (.int pb), .val (.int pd), .val (.int pe), .val (.int pn), .val (.int (2 : Int32)), .val (.int c0), .val (.int c1), .val (.int c2), .val (.int c3), .val (.ref b126), .val (.ref b131), .val (.ref b134), .unset, .unset, .unset] []))
        refine own_st (fun _ k => XS.iconst X154.here hx rfl (hb hby at_201) k) ?_
        show own_Go p e below s _ _ _ (T154.setTop (mkF m 202 #[.val (.int pa), .val (.int pb), .val (.int pd), .val (.int pe), .val (.int pn), .val (.int (2 : Int32)), .val (.int c0), .val (.int c1), .val (.int c2), .val (.int c3), .val (.ref b126), .val (.ref b131), .val (.ref b134), .unset, .unset, .unset] [(.int (1 : Int32))]))
        refine own_st (fun _ k => XS.istore X154.here hx rfl (hb hby at_202) rfl (l' := #[.val (.int pa), .val (.int pb), .val (.int pd), .val (.int pe), .val (.int pn), .val (.int (2 : Int32)), .val (.int c0), .val (.int c1), .val (.int c2), .val (.int c3), .val (.ref b126), .val (.ref b131), .val (.ref b134), .val (.int (1 : Int32)), .unset, .unset]) rfl k) ?_
        show own_Go p e below s _ _ _ (T154.setTop (mkF m 204 #[.val (.int pa), .val (.int pb), .val (.int pd), .val (.int pe), .val (.int pn), .val (.int (2 : Int32)), .val (.int c0), .val (.int c1), .val (.int c2), .val (.int c3), .val (.ref b126), .val (.ref b131), .val (.ref b134), .val (.int (1 : Int32)), .unset, .unset] []))
        refine own_st (fun _ k => XS.goto X154.here hx rfl (pc0 := 204) (pc' := 250) rfl (hb hby at_204) (by decide) (by decide) k) ?_
        show own_Go p e below s _ _ _ (T154.setTop (mkF m 250 #[.val (.int pa), .val (.int pb), .val (.int pd), .val (.int pe), .val (.int pn), .val (.int (2 : Int32)), .val (.int c0), .val (.int c1), .val (.int c2), .val (.int c3), .val (.ref b126), .val (.ref b131), .val (.ref b134), .val (.int (1 : Int32)), .unset, .unset] []))
        refine own_st (fun _ k => XS.iload X154.here hx rfl (hb hby at_250) rfl k) ?_
        show own_Go p e below s _ _ _ (T154.setTop (mkF m 252 #[.val (.int pa), .val (.int pb), .val (.int pd), .val (.int pe), .val (.int pn), .val (.int (2 : Int32)), .val (.int c0), .val (.int c1), .val (.int c2), .val (.int c3), .val (.ref b126), .val (.ref b131), .val (.ref b134), .val (.int (1 : Int32)), .unset, .unset] [(.int (1 : Int32))]))
        refine own_st (fun _ k => XS.ifYes X154.here hx rfl (pc0 := 252) (pc' := 257) rfl (hb hby at_252) rfl ((if0 _ _).trans (flt (by decide)).2.1) (by decide) (by decide) k) ?_
        show own_Go p e below s _ _ _ (T154.setTop (mkF m 257 #[.val (.int pa), .val (.int pb), .val (.int pd), .val (.int pe), .val (.int pn), .val (.int (2 : Int32)), .val (.int c0), .val (.int c1), .val (.int c2), .val (.int c3), .val (.ref b126), .val (.ref b131), .val (.ref b134), .val (.int (1 : Int32)), .unset, .unset] []))
        refine own_st (fun _ k => XS.iload X154.here hx rfl (hb hby at_257) rfl k) ?_
        show own_Go p e below s _ _ _ (T154.setTop (mkF m 259 #[.val (.int pa), .val (.int pb), .val (.int pd), .val (.int pe), .val (.int pn), .val (.int (2 : Int32)), .val (.int c0), .val (.int c1), .val (.int c2), .val (.int c3), .val (.ref b126), .val (.ref b131), .val (.ref b134), .val (.int (1 : Int32)), .unset, .unset] [(.int (2 : Int32))]))
        refine own_st (fun _ k => XS.iconst X154.here hx rfl (hb hby at_259) k) ?_
        show own_Go p e below s _ _ _ (T154.setTop (mkF m 260 #[.val (.int pa), .val (.int pb), .val (.int pd), .val (.int pe), .val (.int pn), .val (.int (2 : Int32)), .val (.int c0), .val (.int c1), .val (.int c2), .val (.int c3), .val (.ref b126), .val (.ref b131), .val (.ref b134), .val (.int (1 : Int32)), .unset, .unset] [(.int (3 : Int32)), (.int (2 : Int32))]))
        refine own_st (fun _ k => XS.icmpYes X154.here hx rfl (pc0 := 260) (pc' := 277) rfl (hb hby at_260) rfl (flt (by decide)).2.2.2 (by decide) (by decide) k) ?_
        show own_Go p e below s _ _ _ (T154.setTop (mkF m 277 #[.val (.int pa), .val (.int pb), .val (.int pd), .val (.int pe), .val (.int pn), .val (.int (2 : Int32)), .val (.int c0), .val (.int c1), .val (.int c2), .val (.int c3), .val (.ref b126), .val (.ref b131), .val (.ref b134), .val (.int (1 : Int32)), .unset, .unset] []))
        refine own_st (fun _ k => XS.iload X154.here hx rfl (hb hby at_277) rfl k) ?_
        show own_Go p e below s _ _ _ (T154.setTop (mkF m 279 #[.val (.int pa), .val (.int pb), .val (.int pd), .val (.int pe), .val (.int pn), .val (.int (2 : Int32)), .val (.int c0), .val (.int c1), .val (.int c2), .val (.int c3), .val (.ref b126), .val (.ref b131), .val (.ref b134), .val (.int (1 : Int32)), .unset, .unset] [(.int (2 : Int32))]))
        refine own_st (fun _ k => XS.iconst X154.here hx rfl (hb hby at_279) k) ?_
        show own_Go p e below s _ _ _ (T154.setTop (mkF m 280 #[.val (.int pa), .val (.int pb), .val (.int pd), .val (.int pe), .val (.int pn), .val (.int (2 : Int32)), .val (.int c0), .val (.int c1), .val (.int c2), .val (.int c3), .val (.ref b126), .val (.ref b131), .val (.ref b134), .val (.int (1 : Int32)), .unset, .unset] [(.int (2 : Int32)), (.int (2 : Int32))]))
        refine own_st (fun _ k => XS.icmpYes X154.here hx rfl (pc0 := 280) (pc' := 297) rfl (hb hby at_280) rfl (flt (by decide)).2.2.2 (by decide) (by decide) k) ?_
        show own_Go p e below s _ _ _ (T154.setTop (mkF m 297 #[.val (.int pa), .val (.int pb), .val (.int pd), .val (.int pe), .val (.int pn), .val (.int (2 : Int32)), .val (.int c0), .val (.int c1), .val (.int c2), .val (.int c3), .val (.ref b126), .val (.ref b131), .val (.ref b134), .val (.int (1 : Int32)), .unset, .unset] []))
        refine own_st (fun _ k => XS.iload X154.here hx rfl (hb hby at_297) rfl k) ?_
        show own_Go p e below s _ _ _ (T154.setTop (mkF m 299 #[.val (.int pa), .val (.int pb), .val (.int pd), .val (.int pe), .val (.int pn), .val (.int (2 : Int32)), .val (.int c0), .val (.int c1), .val (.int c2), .val (.int c3), .val (.ref b126), .val (.ref b131), .val (.ref b134), .val (.int (1 : Int32)), .unset, .unset] [(.int (2 : Int32))]))
        refine own_st (fun _ k => XS.iconst X154.here hx rfl (hb hby at_299) k) ?_
        show own_Go p e below s _ _ _ (T154.setTop (mkF m 300 #[.val (.int pa), .val (.int pb), .val (.int pd), .val (.int pe), .val (.int pn), .val (.int (2 : Int32)), .val (.int c0), .val (.int c1), .val (.int c2), .val (.int c3), .val (.ref b126), .val (.ref b131), .val (.ref b134), .val (.int (1 : Int32)), .unset, .unset] [(.int (1 : Int32)), (.int (2 : Int32))]))
        refine own_st (fun _ k => XS.icmpNo X154.here hx rfl (hb hby at_300) rfl (tlt (by decide)).2.2.2 k) ?_
        show own_Go p e below s _ _ _ (T154.setTop (mkF m 303 #[.val (.int pa), .val (.int pb), .val (.int pd), .val (.int pe), .val (.int pn), .val (.int (2 : Int32)), .val (.int c0), .val (.int c1), .val (.int c2), .val (.int c3), .val (.ref b126), .val (.ref b131), .val (.ref b134), .val (.int (1 : Int32)), .unset, .unset] []))
        refine own_st (fun _ k => XS.iload X154.here hx rfl (hb hby at_303) rfl k) ?_
        show own_Go p e below s _ _ _ (T154.setTop (mkF m 305 #[.val (.int pa), .val (.int pb), .val (.int pd), .val (.int pe), .val (.int pn), .val (.int (2 : Int32)), .val (.int c0), .val (.int c1), .val (.int c2), .val (.int c3), .val (.ref b126), .val (.ref b131), .val (.ref b134), .val (.int (1 : Int32)), .unset, .unset] [(.int c1)]))
        obtain ⟨T156, v156, L156, h156, X156, e156, q156, st156⟩ := own_callS X154 hx hZ (y := (⟨"com/example/shelfproof/shelfproof/library/RequestsRequiredPinLaw", "ws", "(C)Z"⟩ : MethodName)) hown (hw _ (List.mem_of_getElem? (i := 30) rfl)) (hw _ (List.mem_of_getElem? (i := 31) rfl)) (hw _ (List.mem_of_getElem? (i := 32) rfl)) (hw _ (List.mem_of_getElem? (i := 33) rfl)) (by decide) (own_bk (W := 0) (wsW l Z a0 hw c1 h137 n0 O149) hZ (hw _ (List.mem_of_getElem? (i := 33) rfl)) (hw _ (List.mem_of_getElem? (i := 32) rfl)) (by decide) (by decide)) e154 (by decide) (by decide) (g := (mkF m 305 #[.val (.int pa), .val (.int pb), .val (.int pd), .val (.int pe), .val (.int pn), .val (.int (2 : Int32)), .val (.int c0), .val (.int c1), .val (.int c2), .val (.int c3), .val (.ref b126), .val (.ref b131), .val (.ref b134), .val (.int (1 : Int32)), .unset, .unset] [(.int c1)])) rfl (by rw [hml]; rfl) (argsL := [(.int c1)]) (rest := []) (lenOf pd__28C_29Z rfl) rfl rfl (by show 2 * 0 + _ ≤ _; exact Nat.le_of_eq rfl) (hb hby at_305)
        obtain ⟨rfl, N156q, hq156⟩ := q156
        replace e156 := e156.trans hq156
        refine own_st st156 ?_
        have N156 := Fr.app N154 N156q
        show own_Go p e below s _ _ _ (T156.setTop (mkF m 308 #[.val (.int pa), .val (.int pb), .val (.int pd), .val (.int pe), .val (.int pn), .val (.int (2 : Int32)), .val (.int c0), .val (.int c1), .val (.int c2), .val (.int c3), .val (.ref b126), .val (.ref b131), .val (.ref b134), .val (.int (1 : Int32)), .unset, .unset] [(.int (if own_ws c1 then (1 : Int32) else 0))]))
        refine own_st (fun _ k => XS.ifNo X156.here hx rfl (hb hby at_308) rfl ((if0 _ _).trans (teq c155).2) k) ?_
        show own_Go p e below s _ _ _ (T156.setTop (mkF m 311 #[.val (.int pa), .val (.int pb), .val (.int pd), .val (.int pe), .val (.int pn), .val (.int (2 : Int32)), .val (.int c0), .val (.int c1), .val (.int c2), .val (.int c3), .val (.ref b126), .val (.ref b131), .val (.ref b134), .val (.int (1 : Int32)), .unset, .unset] []))
        refine own_st (fun _ k => XS.iconst X156.here hx rfl (hb hby at_311) k) ?_
        show own_Go p e below s _ _ _ (T156.setTop (mkF m 312 #[.val (.int pa), .val (.int pb), .val (.int pd), .val (.int pe), .val (.int pn), .val (.int (2 : Int32)), .val (.int c0), .val (.int c1), .val (.int c2), .val (.int c3), .val (.ref b126), .val (.ref b131), .val (.ref b134), .val (.int (1 : Int32)), .unset, .unset] [(.int (1 : Int32))]))
        refine own_st (fun _ k => XS.istore X156.here hx rfl (hb hby at_312) rfl (l' := #[.val (.int pa), .val (.int pb), .val (.int pd), .val (.int pe), .val (.int pn), .val (.int (2 : Int32)), .val (.int c0), .val (.int c1), .val (.int c2), .val (.int c3), .val (.ref b126), .val (.ref b131), .val (.ref b134), .val (.int (1 : Int32)), .val (.int (1 : Int32)), .unset]) rfl k) ?_
        show own_Go p e below s _ _ _ (T156.setTop (mkF m 314 #[.val (.int pa), .val (.int pb), .val (.int pd), .val (.int pe), .val (.int pn), .val (.int (2 : Int32)), .val (.int c0), .val (.int c1), .val (.int c2), .val (.int c3), .val (.ref b126), .val (.ref b131), .val (.ref b134), .val (.int (1 : Int32)), .val (.int (1 : Int32)), .unset] []))
        refine own_st (fun _ k => XS.goto X156.here hx rfl (pc0 := 314) (pc' := 320) rfl (hb hby at_314) (by decide) (by decide) k) ?_
        show own_Go p e below s _ _ _ (T156.setTop (mkF m 320 #[.val (.int pa), .val (.int pb), .val (.int pd), .val (.int pe), .val (.int pn), .val (.int (2 : Int32)), .val (.int c0), .val (.int c1), .val (.int c2), .val (.int c3), .val (.ref b126), .val (.ref b131), .val (.ref b134), .val (.int (1 : Int32)), .val (.int (1 : Int32)), .unset] []))
        exact G138 _ _ 1 1 (by decide) (fun j hj => match j, (show 0 ≤ j ∧ j < 1 from by omega) with | 0, _ => (own_ifT c151)) (own_ifF c155) (by decide) (by decide) (fun j hj hj2 => absurd hj2 (by omega)) (own_ifF c155) X156 e156 N156
      · refine own_st (fun _ k => XS.ifYes X154.here hx rfl (pc0 := 198) (pc' := 207) rfl (hb hby at_198) rfl ((if0 _ _).trans (feq c155).2) (by decide) (by decide) k) ?_
        show own_Go p e below s _ _ _ (T154.setTop (mkF m 207 #[.val (.int pa), .val (.int pb), .val (.int pd), .val (.int pe), .val (.int pn), .val (.int (2 : Int32)), .val (.int c0), .val (.int c1), .val (.int c2), .val (.int c3), .val (.ref b126), .val (.ref b131), .val (.ref b134), .unset, .unset, .unset] []))
        refine own_st (fun _ k => XS.iload X154.here hx rfl (hb hby at_207) rfl k) ?_
        show own_Go p e below s _ _ _ (T154.setTop (mkF m 209 #[.val (.int pa), .val (.int pb), .val (.int pd), .val (.int pe), .val (.int pn), .val (.int (2 : Int32)), .val (.int c0), .val (.int c1), .val (.int c2), .val (.int c3), .val (.ref b126), .val (.ref b131), .val (.ref b134), .unset, .unset, .unset] [(.int (2 : Int32))]))
        refine own_st (fun _ k => XS.iconst X154.here hx rfl (hb hby at_209) k) ?_
        show own_Go p e below s _ _ _ (T154.setTop (mkF m 210 #[.val (.int pa), .val (.int pb), .val (.int pd), .val (.int pe), .val (.int pn), .val (.int (2 : Int32)), .val (.int c0), .val (.int c1), .val (.int c2), .val (.int c3), .val (.ref b126), .val (.ref b131), .val (.ref b134), .unset, .unset, .unset] [(.int (2 : Int32)), (.int (2 : Int32))]))
        refine own_st (fun _ k => XS.icmpYes X154.here hx rfl (pc0 := 210) (pc' := 227) rfl (hb hby at_210) rfl (flt (by decide)).2.2.2 (by decide) (by decide) k) ?_
        show own_Go p e below s _ _ _ (T154.setTop (mkF m 227 #[.val (.int pa), .val (.int pb), .val (.int pd), .val (.int pe), .val (.int pn), .val (.int (2 : Int32)), .val (.int c0), .val (.int c1), .val (.int c2), .val (.int c3), .val (.ref b126), .val (.ref b131), .val (.ref b134), .unset, .unset, .unset] []))
        refine own_st (fun _ k => XS.iload X154.here hx rfl (hb hby at_227) rfl k) ?_
        show own_Go p e below s _ _ _ (T154.setTop (mkF m 229 #[.val (.int pa), .val (.int pb), .val (.int pd), .val (.int pe), .val (.int pn), .val (.int (2 : Int32)), .val (.int c0), .val (.int c1), .val (.int c2), .val (.int c3), .val (.ref b126), .val (.ref b131), .val (.ref b134), .unset, .unset, .unset] [(.int (2 : Int32))]))
        refine own_st (fun _ k => XS.iconst X154.here hx rfl (hb hby at_229) k) ?_
        show own_Go p e below s _ _ _ (T154.setTop (mkF m 230 #[.val (.int pa), .val (.int pb), .val (.int pd), .val (.int pe), .val (.int pn), .val (.int (2 : Int32)), .val (.int c0), .val (.int c1), .val (.int c2), .val (.int c3), .val (.ref b126), .val (.ref b131), .val (.ref b134), .unset, .unset, .unset] [(.int (3 : Int32)), (.int (2 : Int32))]))
        refine own_st (fun _ k => XS.icmpYes X154.here hx rfl (pc0 := 230) (pc' := 247) rfl (hb hby at_230) rfl (flt (by decide)).2.2.2 (by decide) (by decide) k) ?_
        show own_Go p e below s _ _ _ (T154.setTop (mkF m 247 #[.val (.int pa), .val (.int pb), .val (.int pd), .val (.int pe), .val (.int pn), .val (.int (2 : Int32)), .val (.int c0), .val (.int c1), .val (.int c2), .val (.int c3), .val (.ref b126), .val (.ref b131), .val (.ref b134), .unset, .unset, .unset] []))
        refine own_st (fun _ k => XS.iconst X154.here hx rfl (hb hby at_247) k) ?_
        show own_Go p e below s _ _ _ (T154.setTop (mkF m 248 #[.val (.int pa), .val (.int pb), .val (.int pd), .val (.int pe), .val (.int pn), .val (.int (2 : Int32)), .val (.int c0), .val (.int c1), .val (.int c2), .val (.int c3), .val (.ref b126), .val (.ref b131), .val (.ref b134), .unset, .unset, .unset] [(.int (-1 : Int32))]))
        refine own_st (fun _ k => XS.istore X154.here hx rfl (hb hby at_248) rfl (l' := #[.val (.int pa), .val (.int pb), .val (.int pd), .val (.int pe), .val (.int pn), .val (.int (2 : Int32)), .val (.int c0), .val (.int c1), .val (.int c2), .val (.int c3), .val (.ref b126), .val (.ref b131), .val (.ref b134), .val (.int (-1 : Int32)), .unset, .unset]) rfl k) ?_
        show own_Go p e below s _ _ _ (T154.setTop (mkF m 250 #[.val (.int pa), .val (.int pb), .val (.int pd), .val (.int pe), .val (.int pn), .val (.int (2 : Int32)), .val (.int c0), .val (.int c1), .val (.int c2), .val (.int c3), .val (.ref b126), .val (.ref b131), .val (.ref b134), .val (.int (-1 : Int32)), .unset, .unset] []))
        refine own_st (fun _ k => XS.iload X154.here hx rfl (hb hby at_250) rfl k) ?_
        show own_Go p e below s _ _ _ (T154.setTop (mkF m 252 #[.val (.int pa), .val (.int pb), .val (.int pd), .val (.int pe), .val (.int pn), .val (.int (2 : Int32)), .val (.int c0), .val (.int c1), .val (.int c2), .val (.int c3), .val (.ref b126), .val (.ref b131), .val (.ref b134), .val (.int (-1 : Int32)), .unset, .unset] [(.int (-1 : Int32))]))
        refine own_st (fun _ k => XS.ifNo X154.here hx rfl (hb hby at_252) rfl ((if0 _ _).trans (tlt (by decide)).2.1) k) ?_
        show own_Go p e below s _ _ _ (T154.setTop (mkF m 255 #[.val (.int pa), .val (.int pb), .val (.int pd), .val (.int pe), .val (.int pn), .val (.int (2 : Int32)), .val (.int c0), .val (.int c1), .val (.int c2), .val (.int c3), .val (.ref b126), .val (.ref b131), .val (.ref b134), .val (.int (-1 : Int32)), .unset, .unset] []))
        refine own_st (fun _ k => XS.iconst X154.here hx rfl (hb hby at_255) k) ?_
        show own_Go p e below s _ _ _ (T154.setTop (mkF m 256 #[.val (.int pa), .val (.int pb), .val (.int pd), .val (.int pe), .val (.int pn), .val (.int (2 : Int32)), .val (.int c0), .val (.int c1), .val (.int c2), .val (.int c3), .val (.ref b126), .val (.ref b131), .val (.ref b134), .val (.int (-1 : Int32)), .unset, .unset] [(.int (1 : Int32))]))
        exact own_ret X154 hx hlk e154 hret (by decide) (Or.inl ⟨rfl, Or.inr (Or.inl rfl), _, rfl⟩) (hb hby at_256) (by decide) (by decide) ⟨rfl, N154⟩
  · rw [hn3]
    show own_Go p e below s _ _ _ (T0.setTop (mkF m 6 #[.val (.int pa), .val (.int pb), .val (.int pd), .val (.int pe), .val (.int pn), .unset, .unset, .unset, .unset, .unset, .unset, .unset, .unset, .unset, .unset, .unset] [(.int (3 : Int32))]))
    refine own_st (fun _ k => XS.istore X0.here hx rfl (hb hby at_6) rfl (l' := #[.val (.int pa), .val (.int pb), .val (.int pd), .val (.int pe), .val (.int pn), .val (.int (3 : Int32)), .unset, .unset, .unset, .unset, .unset, .unset, .unset, .unset, .unset, .unset]) rfl k) ?_
    show own_Go p e below s _ _ _ (T0.setTop (mkF m 8 #[.val (.int pa), .val (.int pb), .val (.int pd), .val (.int pe), .val (.int pn), .val (.int (3 : Int32)), .unset, .unset, .unset, .unset, .unset, .unset, .unset, .unset, .unset, .unset] []))
    refine own_st (fun _ k => XS.iloadN X0.here hx rfl (hb hby at_8) rfl k) ?_
    show own_Go p e below s _ _ _ (T0.setTop (mkF m 9 #[.val (.int pa), .val (.int pb), .val (.int pd), .val (.int pe), .val (.int pn), .val (.int (3 : Int32)), .unset, .unset, .unset, .unset, .unset, .unset, .unset, .unset, .unset, .unset] [(.int pa)]))
    refine own_st (fun _ k => XS.sipush X0.here hx rfl (hb hby at_9) k) ?_
    show own_Go p e below s _ _ _ (T0.setTop (mkF m 12 #[.val (.int pa), .val (.int pb), .val (.int pd), .val (.int pe), .val (.int pn), .val (.int (3 : Int32)), .unset, .unset, .unset, .unset, .unset, .unset, .unset, .unset, .unset, .unset] [(.int (255 : Int32)), (.int pa)]))
    refine own_st (fun _ k => XS.iand X0.here hx rfl (hb hby at_12) rfl k) ?_
    show own_Go p e below s _ _ _ (T0.setTop (mkF m 13 #[.val (.int pa), .val (.int pb), .val (.int pd), .val (.int pe), .val (.int pn), .val (.int (3 : Int32)), .unset, .unset, .unset, .unset, .unset, .unset, .unset, .unset, .unset, .unset] [(.int (pa &&& (255 : Int32)))]))
    refine own_st (fun _ k => XS.i2c X0.here hx rfl (hb hby at_13) rfl k) ?_
    show own_Go p e below s _ _ _ (T0.setTop (mkF m 14 #[.val (.int pa), .val (.int pb), .val (.int pd), .val (.int pe), .val (.int pn), .val (.int (3 : Int32)), .unset, .unset, .unset, .unset, .unset, .unset, .unset, .unset, .unset, .unset] [(.int ((pa &&& (255 : Int32)).toUInt32.toUInt16.toUInt32.toInt32))]))
    obtain ⟨c0, ec0, hc0⟩ : ∃ c : Int32, ((pa &&& (255 : Int32)).toUInt32.toUInt16.toUInt32.toInt32) = c ∧ (¬ c < 0 ∧ ¬ (255 : Int32) < c) := ⟨_, rfl, by rw [own_i2cm]; exact own_m255 _⟩
    rw [ec0]
    show own_Go p e below s _ _ _ (T0.setTop (mkF m 14 #[.val (.int pa), .val (.int pb), .val (.int pd), .val (.int pe), .val (.int pn), .val (.int (3 : Int32)), .unset, .unset, .unset, .unset, .unset, .unset, .unset, .unset, .unset, .unset] [(.int c0)]))
    refine own_st (fun _ k => XS.istore X0.here hx rfl (hb hby at_14) rfl (l' := #[.val (.int pa), .val (.int pb), .val (.int pd), .val (.int pe), .val (.int pn), .val (.int (3 : Int32)), .val (.int c0), .unset, .unset, .unset, .unset, .unset, .unset, .unset, .unset, .unset]) rfl k) ?_
    show own_Go p e below s _ _ _ (T0.setTop (mkF m 16 #[.val (.int pa), .val (.int pb), .val (.int pd), .val (.int pe), .val (.int pn), .val (.int (3 : Int32)), .val (.int c0), .unset, .unset, .unset, .unset, .unset, .unset, .unset, .unset, .unset] []))
    refine own_st (fun _ k => XS.iloadN X0.here hx rfl (hb hby at_16) rfl k) ?_
    show own_Go p e below s _ _ _ (T0.setTop (mkF m 17 #[.val (.int pa), .val (.int pb), .val (.int pd), .val (.int pe), .val (.int pn), .val (.int (3 : Int32)), .val (.int c0), .unset, .unset, .unset, .unset, .unset, .unset, .unset, .unset, .unset] [(.int pb)]))
    refine own_st (fun _ k => XS.sipush X0.here hx rfl (hb hby at_17) k) ?_
    show own_Go p e below s _ _ _ (T0.setTop (mkF m 20 #[.val (.int pa), .val (.int pb), .val (.int pd), .val (.int pe), .val (.int pn), .val (.int (3 : Int32)), .val (.int c0), .unset, .unset, .unset, .unset, .unset, .unset, .unset, .unset, .unset] [(.int (255 : Int32)), (.int pb)]))
    refine own_st (fun _ k => XS.iand X0.here hx rfl (hb hby at_20) rfl k) ?_
    show own_Go p e below s _ _ _ (T0.setTop (mkF m 21 #[.val (.int pa), .val (.int pb), .val (.int pd), .val (.int pe), .val (.int pn), .val (.int (3 : Int32)), .val (.int c0), .unset, .unset, .unset, .unset, .unset, .unset, .unset, .unset, .unset] [(.int (pb &&& (255 : Int32)))]))
    refine own_st (fun _ k => XS.i2c X0.here hx rfl (hb hby at_21) rfl k) ?_
    show own_Go p e below s _ _ _ (T0.setTop (mkF m 22 #[.val (.int pa), .val (.int pb), .val (.int pd), .val (.int pe), .val (.int pn), .val (.int (3 : Int32)), .val (.int c0), .unset, .unset, .unset, .unset, .unset, .unset, .unset, .unset, .unset] [(.int ((pb &&& (255 : Int32)).toUInt32.toUInt16.toUInt32.toInt32))]))
    obtain ⟨c1, ec1, hc1⟩ : ∃ c : Int32, ((pb &&& (255 : Int32)).toUInt32.toUInt16.toUInt32.toInt32) = c ∧ (¬ c < 0 ∧ ¬ (255 : Int32) < c) := ⟨_, rfl, by rw [own_i2cm]; exact own_m255 _⟩
    rw [ec1]
    show own_Go p e below s _ _ _ (T0.setTop (mkF m 22 #[.val (.int pa), .val (.int pb), .val (.int pd), .val (.int pe), .val (.int pn), .val (.int (3 : Int32)), .val (.int c0), .unset, .unset, .unset, .unset, .unset, .unset, .unset, .unset, .unset] [(.int c1)]))
    refine own_st (fun _ k => XS.istore X0.here hx rfl (hb hby at_22) rfl (l' := #[.val (.int pa), .val (.int pb), .val (.int pd), .val (.int pe), .val (.int pn), .val (.int (3 : Int32)), .val (.int c0), .val (.int c1), .unset, .unset, .unset, .unset, .unset, .unset, .unset, .unset]) rfl k) ?_
    show own_Go p e below s _ _ _ (T0.setTop (mkF m 24 #[.val (.int pa), .val (.int pb), .val (.int pd), .val (.int pe), .val (.int pn), .val (.int (3 : Int32)), .val (.int c0), .val (.int c1), .unset, .unset, .unset, .unset, .unset, .unset, .unset, .unset] []))
    refine own_st (fun _ k => XS.iloadN X0.here hx rfl (hb hby at_24) rfl k) ?_
    show own_Go p e below s _ _ _ (T0.setTop (mkF m 25 #[.val (.int pa), .val (.int pb), .val (.int pd), .val (.int pe), .val (.int pn), .val (.int (3 : Int32)), .val (.int c0), .val (.int c1), .unset, .unset, .unset, .unset, .unset, .unset, .unset, .unset] [(.int pd)]))
    refine own_st (fun _ k => XS.sipush X0.here hx rfl (hb hby at_25) k) ?_
    show own_Go p e below s _ _ _ (T0.setTop (mkF m 28 #[.val (.int pa), .val (.int pb), .val (.int pd), .val (.int pe), .val (.int pn), .val (.int (3 : Int32)), .val (.int c0), .val (.int c1), .unset, .unset, .unset, .unset, .unset, .unset, .unset, .unset] [(.int (255 : Int32)), (.int pd)]))
    refine own_st (fun _ k => XS.iand X0.here hx rfl (hb hby at_28) rfl k) ?_
    show own_Go p e below s _ _ _ (T0.setTop (mkF m 29 #[.val (.int pa), .val (.int pb), .val (.int pd), .val (.int pe), .val (.int pn), .val (.int (3 : Int32)), .val (.int c0), .val (.int c1), .unset, .unset, .unset, .unset, .unset, .unset, .unset, .unset] [(.int (pd &&& (255 : Int32)))]))
    refine own_st (fun _ k => XS.i2c X0.here hx rfl (hb hby at_29) rfl k) ?_
    show own_Go p e below s _ _ _ (T0.setTop (mkF m 30 #[.val (.int pa), .val (.int pb), .val (.int pd), .val (.int pe), .val (.int pn), .val (.int (3 : Int32)), .val (.int c0), .val (.int c1), .unset, .unset, .unset, .unset, .unset, .unset, .unset, .unset] [(.int ((pd &&& (255 : Int32)).toUInt32.toUInt16.toUInt32.toInt32))]))
    obtain ⟨c2, ec2, hc2⟩ : ∃ c : Int32, ((pd &&& (255 : Int32)).toUInt32.toUInt16.toUInt32.toInt32) = c ∧ (¬ c < 0 ∧ ¬ (255 : Int32) < c) := ⟨_, rfl, by rw [own_i2cm]; exact own_m255 _⟩
    rw [ec2]
    show own_Go p e below s _ _ _ (T0.setTop (mkF m 30 #[.val (.int pa), .val (.int pb), .val (.int pd), .val (.int pe), .val (.int pn), .val (.int (3 : Int32)), .val (.int c0), .val (.int c1), .unset, .unset, .unset, .unset, .unset, .unset, .unset, .unset] [(.int c2)]))
    refine own_st (fun _ k => XS.istore X0.here hx rfl (hb hby at_30) rfl (l' := #[.val (.int pa), .val (.int pb), .val (.int pd), .val (.int pe), .val (.int pn), .val (.int (3 : Int32)), .val (.int c0), .val (.int c1), .val (.int c2), .unset, .unset, .unset, .unset, .unset, .unset, .unset]) rfl k) ?_
    show own_Go p e below s _ _ _ (T0.setTop (mkF m 32 #[.val (.int pa), .val (.int pb), .val (.int pd), .val (.int pe), .val (.int pn), .val (.int (3 : Int32)), .val (.int c0), .val (.int c1), .val (.int c2), .unset, .unset, .unset, .unset, .unset, .unset, .unset] []))
    refine own_st (fun _ k => XS.iloadN X0.here hx rfl (hb hby at_32) rfl k) ?_
    show own_Go p e below s _ _ _ (T0.setTop (mkF m 33 #[.val (.int pa), .val (.int pb), .val (.int pd), .val (.int pe), .val (.int pn), .val (.int (3 : Int32)), .val (.int c0), .val (.int c1), .val (.int c2), .unset, .unset, .unset, .unset, .unset, .unset, .unset] [(.int pe)]))
    refine own_st (fun _ k => XS.sipush X0.here hx rfl (hb hby at_33) k) ?_
    show own_Go p e below s _ _ _ (T0.setTop (mkF m 36 #[.val (.int pa), .val (.int pb), .val (.int pd), .val (.int pe), .val (.int pn), .val (.int (3 : Int32)), .val (.int c0), .val (.int c1), .val (.int c2), .unset, .unset, .unset, .unset, .unset, .unset, .unset] [(.int (255 : Int32)), (.int pe)]))
    refine own_st (fun _ k => XS.iand X0.here hx rfl (hb hby at_36) rfl k) ?_
    show own_Go p e below s _ _ _ (T0.setTop (mkF m 37 #[.val (.int pa), .val (.int pb), .val (.int pd), .val (.int pe), .val (.int pn), .val (.int (3 : Int32)), .val (.int c0), .val (.int c1), .val (.int c2), .unset, .unset, .unset, .unset, .unset, .unset, .unset] [(.int (pe &&& (255 : Int32)))]))
    refine own_st (fun _ k => XS.i2c X0.here hx rfl (hb hby at_37) rfl k) ?_
    show own_Go p e below s _ _ _ (T0.setTop (mkF m 38 #[.val (.int pa), .val (.int pb), .val (.int pd), .val (.int pe), .val (.int pn), .val (.int (3 : Int32)), .val (.int c0), .val (.int c1), .val (.int c2), .unset, .unset, .unset, .unset, .unset, .unset, .unset] [(.int ((pe &&& (255 : Int32)).toUInt32.toUInt16.toUInt32.toInt32))]))
    obtain ⟨c3, ec3, hc3⟩ : ∃ c : Int32, ((pe &&& (255 : Int32)).toUInt32.toUInt16.toUInt32.toInt32) = c ∧ (¬ c < 0 ∧ ¬ (255 : Int32) < c) := ⟨_, rfl, by rw [own_i2cm]; exact own_m255 _⟩
    rw [ec3]
    show own_Go p e below s _ _ _ (T0.setTop (mkF m 38 #[.val (.int pa), .val (.int pb), .val (.int pd), .val (.int pe), .val (.int pn), .val (.int (3 : Int32)), .val (.int c0), .val (.int c1), .val (.int c2), .unset, .unset, .unset, .unset, .unset, .unset, .unset] [(.int c3)]))
    refine own_st (fun _ k => XS.istore X0.here hx rfl (hb hby at_38) rfl (l' := #[.val (.int pa), .val (.int pb), .val (.int pd), .val (.int pe), .val (.int pn), .val (.int (3 : Int32)), .val (.int c0), .val (.int c1), .val (.int c2), .val (.int c3), .unset, .unset, .unset, .unset, .unset, .unset]) rfl k) ?_
    show own_Go p e below s _ _ _ (T0.setTop (mkF m 40 #[.val (.int pa), .val (.int pb), .val (.int pd), .val (.int pe), .val (.int pn), .val (.int (3 : Int32)), .val (.int c0), .val (.int c1), .val (.int c2), .val (.int c3), .unset, .unset, .unset, .unset, .unset, .unset] []))
    refine own_st (fun _ k => XS.iconst X0.here hx rfl (hb hby at_40) k) ?_
    show own_Go p e below s _ _ _ (T0.setTop (mkF m 41 #[.val (.int pa), .val (.int pb), .val (.int pd), .val (.int pe), .val (.int pn), .val (.int (3 : Int32)), .val (.int c0), .val (.int c1), .val (.int c2), .val (.int c3), .unset, .unset, .unset, .unset, .unset, .unset] [(.int (4 : Int32))]))
    obtain ⟨T157, h157, k157, X157, e157, E157, A157, st157⟩ := newP X0 hx hZ (hw _ (List.mem_of_getElem? (i := 0) rfl)) e0 (g := (mkF m 41 #[.val (.int pa), .val (.int pb), .val (.int pd), .val (.int pe), .val (.int pn), .val (.int (3 : Int32)), .val (.int c0), .val (.int c1), .val (.int c2), .val (.int c3), .unset, .unset, .unset, .unset, .unset, .unset] [(.int (4 : Int32))])) rfl (hb hby at_41) rfl (by decide) (cap := 4) (by decide) (by decide) (by decide) (by decide)
    obtain ⟨b157, g157⟩ : ∃ z, z = h0.size := ⟨_, rfl⟩
    rw [← g157] at A157 st157
    have K157 : Keep h0 h157 [] := (Keep.refl _ _).ext E157
    have l157 : b157 < h157.size := A157.lt
    refine own_st st157 ?_
    have zK157 := K157.1
    have V157 : Arv Z h157 b157 k157 .char (4 : Int32) [(.int (0 : Int32)), (.int (0 : Int32)), (.int (0 : Int32)), (.int (0 : Int32))] (.int (0 : Int32)) := (Arv.new A157 (by decide)).pad (pad_rep [] (.int (0 : Int32)) 4)
    show own_Go p e below s _ _ _ (T157.setTop (mkF m 43 #[.val (.int pa), .val (.int pb), .val (.int pd), .val (.int pe), .val (.int pn), .val (.int (3 : Int32)), .val (.int c0), .val (.int c1), .val (.int c2), .val (.int c3), .unset, .unset, .unset, .unset, .unset, .unset] [(.ref b157)]))
    refine own_st (fun _ k => XS.dup X157.here hx rfl (hb hby at_43) rfl rfl k) ?_
    show own_Go p e below s _ _ _ (T157.setTop (mkF m 44 #[.val (.int pa), .val (.int pb), .val (.int pd), .val (.int pe), .val (.int pn), .val (.int (3 : Int32)), .val (.int c0), .val (.int c1), .val (.int c2), .val (.int c3), .unset, .unset, .unset, .unset, .unset, .unset] [(.ref b157), (.ref b157)]))
    refine own_st (fun _ k => XS.iconst X157.here hx rfl (hb hby at_44) k) ?_
    show own_Go p e below s _ _ _ (T157.setTop (mkF m 45 #[.val (.int pa), .val (.int pb), .val (.int pd), .val (.int pe), .val (.int pn), .val (.int (3 : Int32)), .val (.int c0), .val (.int c1), .val (.int c2), .val (.int c3), .unset, .unset, .unset, .unset, .unset, .unset] [(.int (0 : Int32)), (.ref b157), (.ref b157)]))
    refine own_st (fun _ k => XS.iload X157.here hx rfl (hb hby at_45) rfl k) ?_
    show own_Go p e below s _ _ _ (T157.setTop (mkF m 47 #[.val (.int pa), .val (.int pb), .val (.int pd), .val (.int pe), .val (.int pn), .val (.int (3 : Int32)), .val (.int c0), .val (.int c1), .val (.int c2), .val (.int c3), .unset, .unset, .unset, .unset, .unset, .unset] [(.int c0), (.int (0 : Int32)), (.ref b157), (.ref b157)]))
    obtain ⟨c158, Ar158, q158, S158, M158, H158, U158⟩ := V157
    obtain ⟨T158, h158, X158, e158, W158, st158⟩ := stC X157 hx hZ e157 Ar158 (j := (0 : Int32)) (inb_of S158 ⟨by decide, by decide⟩) (g := (mkF m 47 #[.val (.int pa), .val (.int pb), .val (.int pd), .val (.int pe), .val (.int pn), .val (.int (3 : Int32)), .val (.int c0), .val (.int c1), .val (.int c2), .val (.int c3), .unset, .unset, .unset, .unset, .unset, .unset] [(.int c0), (.int (0 : Int32)), (.ref b157), (.ref b157)])) rfl rfl (hb hby at_47)
    have V158 : Arv Z h158 b157 k157 .char (4 : Int32) [(.int c0), (.int (0 : Int32)), (.int (0 : Int32)), (.int (0 : Int32))] (.int (0 : Int32)) := by
      have q := Arv.set Ar158 q158 S158 M158 H158 U158 (fits_nar_char _) W158 0 rfl (Nat.le_of_ble_eq_true rfl)
      rw [own_narC (own_up1 hc0)] at q
      exact q
    have K158 := Keep.of_wr W158
    have N158 := Fr.snoc X158 N0 (by omega : n0 ≤ b157)
    refine own_st st158 ?_
    have zK158 := K158.1
    show own_Go p e below s _ _ _ (T158.setTop (mkF m 48 #[.val (.int pa), .val (.int pb), .val (.int pd), .val (.int pe), .val (.int pn), .val (.int (3 : Int32)), .val (.int c0), .val (.int c1), .val (.int c2), .val (.int c3), .unset, .unset, .unset, .unset, .unset, .unset] [(.ref b157)]))
    refine own_st (fun _ k => XS.dup X158.here hx rfl (hb hby at_48) rfl rfl k) ?_
    show own_Go p e below s _ _ _ (T158.setTop (mkF m 49 #[.val (.int pa), .val (.int pb), .val (.int pd), .val (.int pe), .val (.int pn), .val (.int (3 : Int32)), .val (.int c0), .val (.int c1), .val (.int c2), .val (.int c3), .unset, .unset, .unset, .unset, .unset, .unset] [(.ref b157), (.ref b157)]))
    refine own_st (fun _ k => XS.iconst X158.here hx rfl (hb hby at_49) k) ?_
    show own_Go p e below s _ _ _ (T158.setTop (mkF m 50 #[.val (.int pa), .val (.int pb), .val (.int pd), .val (.int pe), .val (.int pn), .val (.int (3 : Int32)), .val (.int c0), .val (.int c1), .val (.int c2), .val (.int c3), .unset, .unset, .unset, .unset, .unset, .unset] [(.int (1 : Int32)), (.ref b157), (.ref b157)]))
    refine own_st (fun _ k => XS.iload X158.here hx rfl (hb hby at_50) rfl k) ?_
    show own_Go p e below s _ _ _ (T158.setTop (mkF m 52 #[.val (.int pa), .val (.int pb), .val (.int pd), .val (.int pe), .val (.int pn), .val (.int (3 : Int32)), .val (.int c0), .val (.int c1), .val (.int c2), .val (.int c3), .unset, .unset, .unset, .unset, .unset, .unset] [(.int c1), (.int (1 : Int32)), (.ref b157), (.ref b157)]))
    obtain ⟨c159, Ar159, q159, S159, M159, H159, U159⟩ := V158
    obtain ⟨T159, h159, X159, e159, W159, st159⟩ := stC X158 hx hZ e158 Ar159 (j := (1 : Int32)) (inb_of S159 ⟨by decide, by decide⟩) (g := (mkF m 52 #[.val (.int pa), .val (.int pb), .val (.int pd), .val (.int pe), .val (.int pn), .val (.int (3 : Int32)), .val (.int c0), .val (.int c1), .val (.int c2), .val (.int c3), .unset, .unset, .unset, .unset, .unset, .unset] [(.int c1), (.int (1 : Int32)), (.ref b157), (.ref b157)])) rfl rfl (hb hby at_52)
    have V159 : Arv Z h159 b157 k157 .char (4 : Int32) [(.int c0), (.int c1), (.int (0 : Int32)), (.int (0 : Int32))] (.int (0 : Int32)) := by
      have q := Arv.set Ar159 q159 S159 M159 H159 U159 (fits_nar_char _) W159 1 rfl (Nat.le_of_ble_eq_true rfl)
      rw [own_narC (own_up1 hc1)] at q
      exact q
    have K159 := Keep.of_wr W159
    have N159 := Fr.snoc X159 N158 (by omega : n0 ≤ b157)
    refine own_st st159 ?_
    have zK159 := K159.1
    show own_Go p e below s _ _ _ (T159.setTop (mkF m 53 #[.val (.int pa), .val (.int pb), .val (.int pd), .val (.int pe), .val (.int pn), .val (.int (3 : Int32)), .val (.int c0), .val (.int c1), .val (.int c2), .val (.int c3), .unset, .unset, .unset, .unset, .unset, .unset] [(.ref b157)]))
    refine own_st (fun _ k => XS.dup X159.here hx rfl (hb hby at_53) rfl rfl k) ?_
    show own_Go p e below s _ _ _ (T159.setTop (mkF m 54 #[.val (.int pa), .val (.int pb), .val (.int pd), .val (.int pe), .val (.int pn), .val (.int (3 : Int32)), .val (.int c0), .val (.int c1), .val (.int c2), .val (.int c3), .unset, .unset, .unset, .unset, .unset, .unset] [(.ref b157), (.ref b157)]))
    refine own_st (fun _ k => XS.iconst X159.here hx rfl (hb hby at_54) k) ?_
    show own_Go p e below s _ _ _ (T159.setTop (mkF m 55 #[.val (.int pa), .val (.int pb), .val (.int pd), .val (.int pe), .val (.int pn), .val (.int (3 : Int32)), .val (.int c0), .val (.int c1), .val (.int c2), .val (.int c3), .unset, .unset, .unset, .unset, .unset, .unset] [(.int (2 : Int32)), (.ref b157), (.ref b157)]))
    refine own_st (fun _ k => XS.iload X159.here hx rfl (hb hby at_55) rfl k) ?_
    show own_Go p e below s _ _ _ (T159.setTop (mkF m 57 #[.val (.int pa), .val (.int pb), .val (.int pd), .val (.int pe), .val (.int pn), .val (.int (3 : Int32)), .val (.int c0), .val (.int c1), .val (.int c2), .val (.int c3), .unset, .unset, .unset, .unset, .unset, .unset] [(.int c2), (.int (2 : Int32)), (.ref b157), (.ref b157)]))
    obtain ⟨c160, Ar160, q160, S160, M160, H160, U160⟩ := V159
    obtain ⟨T160, h160, X160, e160, W160, st160⟩ := stC X159 hx hZ e159 Ar160 (j := (2 : Int32)) (inb_of S160 ⟨by decide, by decide⟩) (g := (mkF m 57 #[.val (.int pa), .val (.int pb), .val (.int pd), .val (.int pe), .val (.int pn), .val (.int (3 : Int32)), .val (.int c0), .val (.int c1), .val (.int c2), .val (.int c3), .unset, .unset, .unset, .unset, .unset, .unset] [(.int c2), (.int (2 : Int32)), (.ref b157), (.ref b157)])) rfl rfl (hb hby at_57)
    have V160 : Arv Z h160 b157 k157 .char (4 : Int32) [(.int c0), (.int c1), (.int c2), (.int (0 : Int32))] (.int (0 : Int32)) := by
      have q := Arv.set Ar160 q160 S160 M160 H160 U160 (fits_nar_char _) W160 2 rfl (Nat.le_of_ble_eq_true rfl)
      rw [own_narC (own_up1 hc2)] at q
      exact q
    have K160 := Keep.of_wr W160
    have N160 := Fr.snoc X160 N159 (by omega : n0 ≤ b157)
    refine own_st st160 ?_
    have zK160 := K160.1
    show own_Go p e below s _ _ _ (T160.setTop (mkF m 58 #[.val (.int pa), .val (.int pb), .val (.int pd), .val (.int pe), .val (.int pn), .val (.int (3 : Int32)), .val (.int c0), .val (.int c1), .val (.int c2), .val (.int c3), .unset, .unset, .unset, .unset, .unset, .unset] [(.ref b157)]))
    refine own_st (fun _ k => XS.dup X160.here hx rfl (hb hby at_58) rfl rfl k) ?_
    show own_Go p e below s _ _ _ (T160.setTop (mkF m 59 #[.val (.int pa), .val (.int pb), .val (.int pd), .val (.int pe), .val (.int pn), .val (.int (3 : Int32)), .val (.int c0), .val (.int c1), .val (.int c2), .val (.int c3), .unset, .unset, .unset, .unset, .unset, .unset] [(.ref b157), (.ref b157)]))
    refine own_st (fun _ k => XS.iconst X160.here hx rfl (hb hby at_59) k) ?_
    show own_Go p e below s _ _ _ (T160.setTop (mkF m 60 #[.val (.int pa), .val (.int pb), .val (.int pd), .val (.int pe), .val (.int pn), .val (.int (3 : Int32)), .val (.int c0), .val (.int c1), .val (.int c2), .val (.int c3), .unset, .unset, .unset, .unset, .unset, .unset] [(.int (3 : Int32)), (.ref b157), (.ref b157)]))
    refine own_st (fun _ k => XS.iload X160.here hx rfl (hb hby at_60) rfl k) ?_
    show own_Go p e below s _ _ _ (T160.setTop (mkF m 62 #[.val (.int pa), .val (.int pb), .val (.int pd), .val (.int pe), .val (.int pn), .val (.int (3 : Int32)), .val (.int c0), .val (.int c1), .val (.int c2), .val (.int c3), .unset, .unset, .unset, .unset, .unset, .unset] [(.int c3), (.int (3 : Int32)), (.ref b157), (.ref b157)]))
    obtain ⟨c161, Ar161, q161, S161, M161, H161, U161⟩ := V160
    obtain ⟨T161, h161, X161, e161, W161, st161⟩ := stC X160 hx hZ e160 Ar161 (j := (3 : Int32)) (inb_of S161 ⟨by decide, by decide⟩) (g := (mkF m 62 #[.val (.int pa), .val (.int pb), .val (.int pd), .val (.int pe), .val (.int pn), .val (.int (3 : Int32)), .val (.int c0), .val (.int c1), .val (.int c2), .val (.int c3), .unset, .unset, .unset, .unset, .unset, .unset] [(.int c3), (.int (3 : Int32)), (.ref b157), (.ref b157)])) rfl rfl (hb hby at_62)
    have V161 : Arv Z h161 b157 k157 .char (4 : Int32) [(.int c0), (.int c1), (.int c2), (.int c3)] (.int (0 : Int32)) := by
      have q := Arv.set Ar161 q161 S161 M161 H161 U161 (fits_nar_char _) W161 3 rfl (Nat.le_of_ble_eq_true rfl)
      rw [own_narC (own_up1 hc3)] at q
      exact q
    have K161 := Keep.of_wr W161
    have N161 := Fr.snoc X161 N160 (by omega : n0 ≤ b157)
    refine own_st st161 ?_
    have zK161 := K161.1
    show own_Go p e below s _ _ _ (T161.setTop (mkF m 63 #[.val (.int pa), .val (.int pb), .val (.int pd), .val (.int pe), .val (.int pn), .val (.int (3 : Int32)), .val (.int c0), .val (.int c1), .val (.int c2), .val (.int c3), .unset, .unset, .unset, .unset, .unset, .unset] [(.ref b157)]))
    refine own_st (fun _ k => XS.astore X161.here hx rfl (hb hby at_63) rfl rfl (l' := #[.val (.int pa), .val (.int pb), .val (.int pd), .val (.int pe), .val (.int pn), .val (.int (3 : Int32)), .val (.int c0), .val (.int c1), .val (.int c2), .val (.int c3), .val (.ref b157), .unset, .unset, .unset, .unset, .unset]) rfl k) ?_
    show own_Go p e below s _ _ _ (T161.setTop (mkF m 65 #[.val (.int pa), .val (.int pb), .val (.int pd), .val (.int pe), .val (.int pn), .val (.int (3 : Int32)), .val (.int c0), .val (.int c1), .val (.int c2), .val (.int c3), .val (.ref b157), .unset, .unset, .unset, .unset, .unset] []))
    refine own_st (fun _ k => XS.iload X161.here hx rfl (hb hby at_65) rfl k) ?_
    show own_Go p e below s _ _ _ (T161.setTop (mkF m 67 #[.val (.int pa), .val (.int pb), .val (.int pd), .val (.int pe), .val (.int pn), .val (.int (3 : Int32)), .val (.int c0), .val (.int c1), .val (.int c2), .val (.int c3), .val (.ref b157), .unset, .unset, .unset, .unset, .unset] [(.int (3 : Int32))]))
    refine own_st (fun _ k => XS.iconst X161.here hx rfl (hb hby at_67) k) ?_
    show own_Go p e below s _ _ _ (T161.setTop (mkF m 68 #[.val (.int pa), .val (.int pb), .val (.int pd), .val (.int pe), .val (.int pn), .val (.int (3 : Int32)), .val (.int c0), .val (.int c1), .val (.int c2), .val (.int c3), .val (.ref b157), .unset, .unset, .unset, .unset, .unset] [(.int (1 : Int32)), (.int (3 : Int32))]))
    refine own_st (fun _ k => XS.icmpYes X161.here hx rfl (pc0 := 68) (pc' := 84) rfl (hb hby at_68) rfl (feq (by decide)).2 (by decide) (by decide) k) ?_
    show own_Go p e below s _ _ _ (T161.setTop (mkF m 84 #[.val (.int pa), .val (.int pb), .val (.int pd), .val (.int pe), .val (.int pn), .val (.int (3 : Int32)), .val (.int c0), .val (.int c1), .val (.int c2), .val (.int c3), .val (.ref b157), .unset, .unset, .unset, .unset, .unset] []))
    refine own_st (fun _ k => XS.iload X161.here hx rfl (hb hby at_84) rfl k) ?_
    show own_Go p e below s _ _ _ (T161.setTop (mkF m 86 #[.val (.int pa), .val (.int pb), .val (.int pd), .val (.int pe), .val (.int pn), .val (.int (3 : Int32)), .val (.int c0), .val (.int c1), .val (.int c2), .val (.int c3), .val (.ref b157), .unset, .unset, .unset, .unset, .unset] [(.int (3 : Int32))]))
    refine own_st (fun _ k => XS.iconst X161.here hx rfl (hb hby at_86) k) ?_
    show own_Go p e below s _ _ _ (T161.setTop (mkF m 87 #[.val (.int pa), .val (.int pb), .val (.int pd), .val (.int pe), .val (.int pn), .val (.int (3 : Int32)), .val (.int c0), .val (.int c1), .val (.int c2), .val (.int c3), .val (.ref b157), .unset, .unset, .unset, .unset, .unset] [(.int (2 : Int32)), (.int (3 : Int32))]))
    refine own_st (fun _ k => XS.icmpYes X161.here hx rfl (pc0 := 87) (pc' := 108) rfl (hb hby at_87) rfl (feq (by decide)).2 (by decide) (by decide) k) ?_
    show own_Go p e below s _ _ _ (T161.setTop (mkF m 108 #[.val (.int pa), .val (.int pb), .val (.int pd), .val (.int pe), .val (.int pn), .val (.int (3 : Int32)), .val (.int c0), .val (.int c1), .val (.int c2), .val (.int c3), .val (.ref b157), .unset, .unset, .unset, .unset, .unset] []))
    refine own_st (fun _ k => XS.iload X161.here hx rfl (hb hby at_108) rfl k) ?_
    show own_Go p e below s _ _ _ (T161.setTop (mkF m 110 #[.val (.int pa), .val (.int pb), .val (.int pd), .val (.int pe), .val (.int pn), .val (.int (3 : Int32)), .val (.int c0), .val (.int c1), .val (.int c2), .val (.int c3), .val (.ref b157), .unset, .unset, .unset, .unset, .unset] [(.int (3 : Int32))]))
    refine own_st (fun _ k => XS.iconst X161.here hx rfl (hb hby at_110) k) ?_
    show own_Go p e below s _ _ _ (T161.setTop (mkF m 111 #[.val (.int pa), .val (.int pb), .val (.int pd), .val (.int pe), .val (.int pn), .val (.int (3 : Int32)), .val (.int c0), .val (.int c1), .val (.int c2), .val (.int c3), .val (.ref b157), .unset, .unset, .unset, .unset, .unset] [(.int (3 : Int32)), (.int (3 : Int32))]))
    refine own_st (fun _ k => XS.icmpNo X161.here hx rfl (hb hby at_111) rfl (teq (by decide)).2 k) ?_
    show own_Go p e below s _ _ _ (T161.setTop (mkF m 114 #[.val (.int pa), .val (.int pb), .val (.int pd), .val (.int pe), .val (.int pn), .val (.int (3 : Int32)), .val (.int c0), .val (.int c1), .val (.int c2), .val (.int c3), .val (.ref b157), .unset, .unset, .unset, .unset, .unset] []))
    refine own_st (fun _ k => XS.iconst X161.here hx rfl (hb hby at_114) k) ?_
    show own_Go p e below s _ _ _ (T161.setTop (mkF m 115 #[.val (.int pa), .val (.int pb), .val (.int pd), .val (.int pe), .val (.int pn), .val (.int (3 : Int32)), .val (.int c0), .val (.int c1), .val (.int c2), .val (.int c3), .val (.ref b157), .unset, .unset, .unset, .unset, .unset] [(.int (3 : Int32))]))
    obtain ⟨T162, h162, k162, X162, e162, E162, A162, st162⟩ := newP X161 hx hZ (hw _ (List.mem_of_getElem? (i := 0) rfl)) e161 (g := (mkF m 115 #[.val (.int pa), .val (.int pb), .val (.int pd), .val (.int pe), .val (.int pn), .val (.int (3 : Int32)), .val (.int c0), .val (.int c1), .val (.int c2), .val (.int c3), .val (.ref b157), .unset, .unset, .unset, .unset, .unset] [(.int (3 : Int32))])) rfl (hb hby at_115) rfl (by decide) (cap := 3) (by decide) (by decide) (by decide) (by decide)
    obtain ⟨b162, g162⟩ : ∃ z, z = h161.size := ⟨_, rfl⟩
    rw [← g162] at A162 st162
    have K162 : Keep h161 h162 [] := (Keep.refl _ _).ext E162
    have l162 : b162 < h162.size := A162.lt
    refine own_st st162 ?_
    have zK162 := K162.1
    have V162 : Arv Z h162 b162 k162 .char (3 : Int32) [(.int (0 : Int32)), (.int (0 : Int32)), (.int (0 : Int32))] (.int (0 : Int32)) := (Arv.new A162 (by decide)).pad (pad_rep [] (.int (0 : Int32)) 3)
    show own_Go p e below s _ _ _ (T162.setTop (mkF m 117 #[.val (.int pa), .val (.int pb), .val (.int pd), .val (.int pe), .val (.int pn), .val (.int (3 : Int32)), .val (.int c0), .val (.int c1), .val (.int c2), .val (.int c3), .val (.ref b157), .unset, .unset, .unset, .unset, .unset] [(.ref b162)]))
    refine own_st (fun _ k => XS.dup X162.here hx rfl (hb hby at_117) rfl rfl k) ?_
    show own_Go p e below s _ _ _ (T162.setTop (mkF m 118 #[.val (.int pa), .val (.int pb), .val (.int pd), .val (.int pe), .val (.int pn), .val (.int (3 : Int32)), .val (.int c0), .val (.int c1), .val (.int c2), .val (.int c3), .val (.ref b157), .unset, .unset, .unset, .unset, .unset] [(.ref b162), (.ref b162)]))
    refine own_st (fun _ k => XS.iconst X162.here hx rfl (hb hby at_118) k) ?_
    show own_Go p e below s _ _ _ (T162.setTop (mkF m 119 #[.val (.int pa), .val (.int pb), .val (.int pd), .val (.int pe), .val (.int pn), .val (.int (3 : Int32)), .val (.int c0), .val (.int c1), .val (.int c2), .val (.int c3), .val (.ref b157), .unset, .unset, .unset, .unset, .unset] [(.int (0 : Int32)), (.ref b162), (.ref b162)]))
    refine own_st (fun _ k => XS.iload X162.here hx rfl (hb hby at_119) rfl k) ?_
    show own_Go p e below s _ _ _ (T162.setTop (mkF m 121 #[.val (.int pa), .val (.int pb), .val (.int pd), .val (.int pe), .val (.int pn), .val (.int (3 : Int32)), .val (.int c0), .val (.int c1), .val (.int c2), .val (.int c3), .val (.ref b157), .unset, .unset, .unset, .unset, .unset] [(.int c0), (.int (0 : Int32)), (.ref b162), (.ref b162)]))
    obtain ⟨c163, Ar163, q163, S163, M163, H163, U163⟩ := V162
    obtain ⟨T163, h163, X163, e163, W163, st163⟩ := stC X162 hx hZ e162 Ar163 (j := (0 : Int32)) (inb_of S163 ⟨by decide, by decide⟩) (g := (mkF m 121 #[.val (.int pa), .val (.int pb), .val (.int pd), .val (.int pe), .val (.int pn), .val (.int (3 : Int32)), .val (.int c0), .val (.int c1), .val (.int c2), .val (.int c3), .val (.ref b157), .unset, .unset, .unset, .unset, .unset] [(.int c0), (.int (0 : Int32)), (.ref b162), (.ref b162)])) rfl rfl (hb hby at_121)
    have V163 : Arv Z h163 b162 k162 .char (3 : Int32) [(.int c0), (.int (0 : Int32)), (.int (0 : Int32))] (.int (0 : Int32)) := by
      have q := Arv.set Ar163 q163 S163 M163 H163 U163 (fits_nar_char _) W163 0 rfl (Nat.le_of_ble_eq_true rfl)
      rw [own_narC (own_up1 hc0)] at q
      exact q
    have K163 := Keep.of_wr W163
    have N163 := Fr.snoc X163 N161 (by omega : n0 ≤ b162)
    refine own_st st163 ?_
    have zK163 := K163.1
    show own_Go p e below s _ _ _ (T163.setTop (mkF m 122 #[.val (.int pa), .val (.int pb), .val (.int pd), .val (.int pe), .val (.int pn), .val (.int (3 : Int32)), .val (.int c0), .val (.int c1), .val (.int c2), .val (.int c3), .val (.ref b157), .unset, .unset, .unset, .unset, .unset] [(.ref b162)]))
    refine own_st (fun _ k => XS.dup X163.here hx rfl (hb hby at_122) rfl rfl k) ?_
    show own_Go p e below s _ _ _ (T163.setTop (mkF m 123 #[.val (.int pa), .val (.int pb), .val (.int pd), .val (.int pe), .val (.int pn), .val (.int (3 : Int32)), .val (.int c0), .val (.int c1), .val (.int c2), .val (.int c3), .val (.ref b157), .unset, .unset, .unset, .unset, .unset] [(.ref b162), (.ref b162)]))
    refine own_st (fun _ k => XS.iconst X163.here hx rfl (hb hby at_123) k) ?_
    show own_Go p e below s _ _ _ (T163.setTop (mkF m 124 #[.val (.int pa), .val (.int pb), .val (.int pd), .val (.int pe), .val (.int pn), .val (.int (3 : Int32)), .val (.int c0), .val (.int c1), .val (.int c2), .val (.int c3), .val (.ref b157), .unset, .unset, .unset, .unset, .unset] [(.int (1 : Int32)), (.ref b162), (.ref b162)]))
    refine own_st (fun _ k => XS.iload X163.here hx rfl (hb hby at_124) rfl k) ?_
    show own_Go p e below s _ _ _ (T163.setTop (mkF m 126 #[.val (.int pa), .val (.int pb), .val (.int pd), .val (.int pe), .val (.int pn), .val (.int (3 : Int32)), .val (.int c0), .val (.int c1), .val (.int c2), .val (.int c3), .val (.ref b157), .unset, .unset, .unset, .unset, .unset] [(.int c1), (.int (1 : Int32)), (.ref b162), (.ref b162)]))
    obtain ⟨c164, Ar164, q164, S164, M164, H164, U164⟩ := V163
    obtain ⟨T164, h164, X164, e164, W164, st164⟩ := stC X163 hx hZ e163 Ar164 (j := (1 : Int32)) (inb_of S164 ⟨by decide, by decide⟩) (g := (mkF m 126 #[.val (.int pa), .val (.int pb), .val (.int pd), .val (.int pe), .val (.int pn), .val (.int (3 : Int32)), .val (.int c0), .val (.int c1), .val (.int c2), .val (.int c3), .val (.ref b157), .unset, .unset, .unset, .unset, .unset] [(.int c1), (.int (1 : Int32)), (.ref b162), (.ref b162)])) rfl rfl (hb hby at_126)
    have V164 : Arv Z h164 b162 k162 .char (3 : Int32) [(.int c0), (.int c1), (.int (0 : Int32))] (.int (0 : Int32)) := by
      have q := Arv.set Ar164 q164 S164 M164 H164 U164 (fits_nar_char _) W164 1 rfl (Nat.le_of_ble_eq_true rfl)
      rw [own_narC (own_up1 hc1)] at q
      exact q
    have K164 := Keep.of_wr W164
    have N164 := Fr.snoc X164 N163 (by omega : n0 ≤ b162)
    refine own_st st164 ?_
    have zK164 := K164.1
    show own_Go p e below s _ _ _ (T164.setTop (mkF m 127 #[.val (.int pa), .val (.int pb), .val (.int pd), .val (.int pe), .val (.int pn), .val (.int (3 : Int32)), .val (.int c0), .val (.int c1), .val (.int c2), .val (.int c3), .val (.ref b157), .unset, .unset, .unset, .unset, .unset] [(.ref b162)]))
    refine own_st (fun _ k => XS.dup X164.here hx rfl (hb hby at_127) rfl rfl k) ?_
    show own_Go p e below s _ _ _ (T164.setTop (mkF m 128 #[.val (.int pa), .val (.int pb), .val (.int pd), .val (.int pe), .val (.int pn), .val (.int (3 : Int32)), .val (.int c0), .val (.int c1), .val (.int c2), .val (.int c3), .val (.ref b157), .unset, .unset, .unset, .unset, .unset] [(.ref b162), (.ref b162)]))
    refine own_st (fun _ k => XS.iconst X164.here hx rfl (hb hby at_128) k) ?_
    show own_Go p e below s _ _ _ (T164.setTop (mkF m 129 #[.val (.int pa), .val (.int pb), .val (.int pd), .val (.int pe), .val (.int pn), .val (.int (3 : Int32)), .val (.int c0), .val (.int c1), .val (.int c2), .val (.int c3), .val (.ref b157), .unset, .unset, .unset, .unset, .unset] [(.int (2 : Int32)), (.ref b162), (.ref b162)]))
    refine own_st (fun _ k => XS.iload X164.here hx rfl (hb hby at_129) rfl k) ?_
    show own_Go p e below s _ _ _ (T164.setTop (mkF m 131 #[.val (.int pa), .val (.int pb), .val (.int pd), .val (.int pe), .val (.int pn), .val (.int (3 : Int32)), .val (.int c0), .val (.int c1), .val (.int c2), .val (.int c3), .val (.ref b157), .unset, .unset, .unset, .unset, .unset] [(.int c2), (.int (2 : Int32)), (.ref b162), (.ref b162)]))
    obtain ⟨c165, Ar165, q165, S165, M165, H165, U165⟩ := V164
    obtain ⟨T165, h165, X165, e165, W165, st165⟩ := stC X164 hx hZ e164 Ar165 (j := (2 : Int32)) (inb_of S165 ⟨by decide, by decide⟩) (g := (mkF m 131 #[.val (.int pa), .val (.int pb), .val (.int pd), .val (.int pe), .val (.int pn), .val (.int (3 : Int32)), .val (.int c0), .val (.int c1), .val (.int c2), .val (.int c3), .val (.ref b157), .unset, .unset, .unset, .unset, .unset] [(.int c2), (.int (2 : Int32)), (.ref b162), (.ref b162)])) rfl rfl (hb hby at_131)
    have V165 : Arv Z h165 b162 k162 .char (3 : Int32) [(.int c0), (.int c1), (.int c2)] (.int (0 : Int32)) := by
      have q := Arv.set Ar165 q165 S165 M165 H165 U165 (fits_nar_char _) W165 2 rfl (Nat.le_of_ble_eq_true rfl)
      rw [own_narC (own_up1 hc2)] at q
      exact q
    have K165 := Keep.of_wr W165
    have N165 := Fr.snoc X165 N164 (by omega : n0 ≤ b162)
    refine own_st st165 ?_
    have zK165 := K165.1
    show own_Go p e below s _ _ _ (T165.setTop (mkF m 132 #[.val (.int pa), .val (.int pb), .val (.int pd), .val (.int pe), .val (.int pn), .val (.int (3 : Int32)), .val (.int c0), .val (.int c1), .val (.int c2), .val (.int c3), .val (.ref b157), .unset, .unset, .unset, .unset, .unset] [(.ref b162)]))
    refine own_st (fun _ k => XS.astore X165.here hx rfl (hb hby at_132) rfl rfl (l' := #[.val (.int pa), .val (.int pb), .val (.int pd), .val (.int pe), .val (.int pn), .val (.int (3 : Int32)), .val (.int c0), .val (.int c1), .val (.int c2), .val (.int c3), .val (.ref b157), .val (.ref b162), .unset, .unset, .unset, .unset]) rfl k) ?_
    show own_Go p e below s _ _ _ (T165.setTop (mkF m 134 #[.val (.int pa), .val (.int pb), .val (.int pd), .val (.int pe), .val (.int pn), .val (.int (3 : Int32)), .val (.int c0), .val (.int c1), .val (.int c2), .val (.int c3), .val (.ref b157), .val (.ref b162), .unset, .unset, .unset, .unset] []))
    refine own_st (fun _ k => XS.goto X165.here hx rfl (pc0 := 134) (pc' := 162) rfl (hb hby at_134) (by decide) (by decide) k) ?_
    show own_Go p e below s _ _ _ (T165.setTop (mkF m 162 #[.val (.int pa), .val (.int pb), .val (.int pd), .val (.int pe), .val (.int pn), .val (.int (3 : Int32)), .val (.int c0), .val (.int c1), .val (.int c2), .val (.int c3), .val (.ref b157), .val (.ref b162), .unset, .unset, .unset, .unset] []))
    obtain ⟨T166, h166, X166, e166, E166, A166, D166, -, st166⟩ := newO X165 hx hZ hown (hw _ (List.mem_of_getElem? (i := 1) rfl)) (hw _ (List.mem_of_getElem? (i := 2) rfl)) (hw _ (List.mem_of_getElem? (i := 3) rfl)) e165 (g := (mkF m 162 #[.val (.int pa), .val (.int pb), .val (.int pd), .val (.int pe), .val (.int pn), .val (.int (3 : Int32)), .val (.int c0), .val (.int c1), .val (.int c2), .val (.int c3), .val (.ref b157), .val (.ref b162), .unset, .unset, .unset, .unset] [])) rfl (hb hby at_162) (by decide) (by decide)
    obtain ⟨b166, g166⟩ : ∃ z, z = h165.size := ⟨_, rfl⟩
    rw [← g166] at A166 D166 st166
    have K166 : Keep h165 h166 [] := (Keep.refl _ _).ext E166
    have l166 : b166 < h166.size := A166.lt
    refine own_st st166 ?_
    have zK166 := K166.1
    show own_Go p e below s _ _ _ (T166.setTop (mkF m 165 #[.val (.int pa), .val (.int pb), .val (.int pd), .val (.int pe), .val (.int pn), .val (.int (3 : Int32)), .val (.int c0), .val (.int c1), .val (.int c2), .val (.int c3), .val (.ref b157), .val (.ref b162), .unset, .unset, .unset, .unset] [(.ref b166)]))
    refine own_st (fun _ k => XS.dup X166.here hx rfl (hb hby at_165) rfl rfl k) ?_
    show own_Go p e below s _ _ _ (T166.setTop (mkF m 166 #[.val (.int pa), .val (.int pb), .val (.int pd), .val (.int pe), .val (.int pn), .val (.int (3 : Int32)), .val (.int c0), .val (.int c1), .val (.int c2), .val (.int c3), .val (.ref b157), .val (.ref b162), .unset, .unset, .unset, .unset] [(.ref b166), (.ref b166)]))
    refine own_st (fun _ k => XS.aload X166.here hx rfl (hb hby at_166) rfl rfl k) ?_
    show own_Go p e below s _ _ _ (T166.setTop (mkF m 168 #[.val (.int pa), .val (.int pb), .val (.int pd), .val (.int pe), .val (.int pn), .val (.int (3 : Int32)), .val (.int c0), .val (.int c1), .val (.int c2), .val (.int c3), .val (.ref b157), .val (.ref b162), .unset, .unset, .unset, .unset] [(.ref b162), (.ref b166), (.ref b166)]))
    have F_value_b166 : Fld Z h166 b166 "java/lang/String" "value" "[B" .null := D166 (Or.inr (hw _ (List.mem_of_getElem? (i := 29) rfl))) (ty := (.array .byte)) (by decide)
    have F_coder_b166 : Fld Z h166 b166 "java/lang/String" "coder" "B" (.int (0 : Int32)) := D166 (Or.inr (hw _ (List.mem_of_getElem? (i := 27) rfl))) (ty := .byte) (by decide)
    have f167 := (V165.keep ((Keep.refl h165 []).trans K166 all0) nin0)
    have O168 : Old Z n0 h166 := O0.keep (((((((((((Keep.refl h0 []).trans K157 all0).trans K158 (allS (Or.inr (by omega)) all0)).trans K159 (allS (Or.inr (by omega)) all0)).trans K160 (allS (Or.inr (by omega)) all0)).trans K161 (allS (Or.inr (by omega)) all0)).trans K162 all0).trans K163 (allS (Or.inr (by omega)) all0)).trans K164 (allS (Or.inr (by omega)) all0)).trans K165 (allS (Or.inr (by omega)) all0)).trans K166 all0) all0
    obtain ⟨T169, v169, L169, h169, X169, e169, q169, st169⟩ := own_callI X166 hx hZ (y := (⟨"java/lang/String", "<init>", "([C)V"⟩ : MethodName)) rfl hown (hw _ (List.mem_of_getElem? (i := 4) rfl)) (hw _ (List.mem_of_getElem? (i := 5) rfl)) (hw _ (List.mem_of_getElem? (i := 6) rfl)) (by decide) (own_nsB (W := 1) hZ (own_wNew hw) (kI := 4) (hw _ (List.mem_of_getElem? (i := 2) rfl)) (cs := [c0, c1, c2]) (n := 3) (by omega : n0 ≤ b166) O168 CS A166 F_value_b166 F_coder_b166 f167 rfl rfl (by decide) (by decide) (own_allC hc0 (own_allC hc1 (own_all1 hc2))) (by decide) (by decide)) e166 (by decide) (by decide) (g := (mkF m 168 #[.val (.int pa), .val (.int pb), .val (.int pd), .val (.int pe), .val (.int pn), .val (.int (3 : Int32)), .val (.int c0), .val (.int c1), .val (.int c2), .val (.int c3), .val (.ref b157), .val (.ref b162), .unset, .unset, .unset, .unset] [(.ref b162), (.ref b166), (.ref b166)])) rfl (by rw [hml]; rfl) (a := b166) (argsL := [(.ref b162)]) (rest := [(.ref b166)]) (lenOf pd__28_5bC_29V rfl) rfl rfl (by show 2 * 0 + _ ≤ _; exact Nat.le_of_eq rfl) (hb hby at_168)
    obtain ⟨rfl, N169q, K169, S169⟩ := q169
    refine own_st st169 ?_
    have zK169 := K169.1
    have N169 := Fr.app N165 N169q
    have A169 := S169.1
    show own_Go p e below s _ _ _ (T169.setTop (mkF m 171 #[.val (.int pa), .val (.int pb), .val (.int pd), .val (.int pe), .val (.int pn), .val (.int (3 : Int32)), .val (.int c0), .val (.int c1), .val (.int c2), .val (.int c3), .val (.ref b157), .val (.ref b162), .unset, .unset, .unset, .unset] [(.ref b166)]))
    refine own_st (fun _ k => XS.astore X169.here hx rfl (hb hby at_171) rfl rfl (l' := #[.val (.int pa), .val (.int pb), .val (.int pd), .val (.int pe), .val (.int pn), .val (.int (3 : Int32)), .val (.int c0), .val (.int c1), .val (.int c2), .val (.int c3), .val (.ref b157), .val (.ref b162), .val (.ref b166), .unset, .unset, .unset]) rfl k) ?_
    show own_Go p e below s _ _ _ (T169.setTop (mkF m 173 #[.val (.int pa), .val (.int pb), .val (.int pd), .val (.int pe), .val (.int pn), .val (.int (3 : Int32)), .val (.int c0), .val (.int c1), .val (.int c2), .val (.int c3), .val (.ref b157), .val (.ref b162), .val (.ref b166), .unset, .unset, .unset] []))
    have G170 : ∀ (Tj : State) (Lj : List Loc) (f l2 : Nat), (f < 3) → (∀ j, j < f → own_ws ([c0, c1, c2].getD j 0)) → (¬ own_ws ([c0, c1, c2].getD f 0)) → (f ≤ l2) → (l2 < 3) → (∀ j, l2 + 1 ≤ j → j < 3 → own_ws ([c0, c1, c2].getD j 0)) → (¬ own_ws ([c0, c1, c2].getD (l2 + 1 - 1) 0)) → Stand p l e room_1 s m #[(.int pa), (.int pb), (.int pd), (.int pe), (.int pn)] below meth c Tj Lj 4 14 → Tj.heap = h169 → Fr n0 Lj → own_Go p e below s (fun v h L => v = some (.int 1) ∧ Fr n0 L) room_1.cells room_1.slots (Tj.setTop (mkF m 320 #[.val (.int pa), .val (.int pb), .val (.int pd), .val (.int pe), .val (.int pn), .val (.int (3 : Int32)), .val (.int c0), .val (.int c1), .val (.int c2), .val (.int c3), .val (.ref b157), .val (.ref b162), .val (.ref b166), .val (.int (Int32.ofNat f)), .val (.int (Int32.ofNat l2)), .unset] [])) := by
      intro TG170 LG170 f l2 hf hf1 hf2 hfl hl hl1 hl2 XG170 eG170 NG170
      have hbd : ∀ c ∈ [c0, c1, c2], ¬ c < 0 ∧ ¬ (255 : Int32) < c := (own_allC hc0 (own_allC hc1 (own_all1 hc2)))
      have hds : ∀ j, f ≤ j → j ≤ l2 → j - f < (([c0, c1, c2].drop f).take (l2 + 1 - f)).length ∧ (([c0, c1, c2].drop f).take (l2 + 1 - f)).getD (j - f) 0 = [c0, c1, c2, c3].getD j 0 := by
        intro j h1 h2
        have e1 : (([c0, c1, c2].drop f).take (l2 + 1 - f)).length = l2 + 1 - f := by rw [List.length_take, List.length_drop]; show min _ (3 - f) = _; omega
        refine ⟨by rw [e1]; omega, ?_⟩
        have e2 : j - f < l2 + 1 - f := by omega
        rw [List.getD_eq_getElem?_getD, List.getElem?_take, if_pos e2, List.getElem?_drop, show f + (j - f) = j from by omega]
        have e3 : j < 3 := by omega
        match j, e3 with
        | 0, _ => rfl
        | 1, _ => rfl
        | 2, _ => rfl
      have hdb : ∀ c ∈ (([c0, c1, c2].drop f).take (l2 + 1 - f)), ¬ (255 : Int32) < c := fun c hc => (hbd c (own_memdt hc)).2
      have hln : (([c0, c1, c2].drop f).take (l2 + 1 - f)).length = l2 + 1 - f := by rw [List.length_take, List.length_drop]; show min _ (3 - f) = _; omega
      refine own_st (fun _ k => XS.aload XG170.here hx rfl (hb hby at_320) rfl rfl k) ?_
      show own_Go p e below s _ _ _ (TG170.setTop (mkF m 322 #[.val (.int pa), .val (.int pb), .val (.int pd), .val (.int pe), .val (.int pn), .val (.int (3 : Int32)), .val (.int c0), .val (.int c1), .val (.int c2), .val (.int c3), .val (.ref b157), .val (.ref b162), .val (.ref b166), .val (.int (Int32.ofNat f)), .val (.int (Int32.ofNat l2)), .unset] [(.ref b166)]))
      have O172 : Old Z n0 h169 := O168.keep ((Keep.refl h166 [b166]).trans K169 (allS (Or.inl (by simp)) all0)) (allS (by omega) all0)
      obtain ⟨T171, X171, e171, st171⟩ := getS2 XG170 hx hZ hown (host := "") (Or.inl (hw _ (List.mem_of_getElem? (i := 34) rfl))) Via.refl eG170 (Sr.ext O172.2) (g := (mkF m 322 #[.val (.int pa), .val (.int pb), .val (.int pd), .val (.int pe), .val (.int pn), .val (.int (3 : Int32)), .val (.int c0), .val (.int c1), .val (.int c2), .val (.int c3), .val (.ref b157), .val (.ref b162), .val (.ref b166), .val (.int (Int32.ofNat f)), .val (.int (Int32.ofNat l2)), .unset] [(.ref b166)])) rfl (hb hby at_322)
      refine own_st st171 ?_
      show own_Go p e below s _ _ _ (T171.setTop (mkF m 325 #[.val (.int pa), .val (.int pb), .val (.int pd), .val (.int pe), .val (.int pn), .val (.int (3 : Int32)), .val (.int c0), .val (.int c1), .val (.int c2), .val (.int c3), .val (.ref b157), .val (.ref b162), .val (.ref b166), .val (.int (Int32.ofNat f)), .val (.int (Int32.ofNat l2)), .unset] [(.ref ar), (.ref b166)]))
      obtain ⟨T173, v173, L173, h173, X173, e173, q173, st173⟩ := own_callS X171 hx hZ (y := (⟨"com/example/shelfproof/shelfproof/library/Requests", "required", "(Ljava/lang/String;Lcom/example/shelfproof/shelfproof/library/Refusal;)Ljava/lang/String;"⟩ : MethodName)) hown (hw _ (List.mem_of_getElem? (i := 37) rfl)) (hw _ (List.mem_of_getElem? (i := 38) rfl)) (hw _ (List.mem_of_getElem? (i := 39) rfl)) (hw _ (List.mem_of_getElem? (i := 40) rfl)) (by decide) (own_bk (W := 0) (rqW l Z a0 hw b166 ar [c0, c1, c2] f (l2 + 1) h169 n0 O172 CS CDs (show 3 ≤ 4 from by decide) hbd hf hf1 hf2 (by omega) (by show l2 + 1 ≤ 3; omega) hl1 hl2 S169) hZ (hw _ (List.mem_of_getElem? (i := 40) rfl)) (hw _ (List.mem_of_getElem? (i := 39) rfl)) (by decide) (by decide)) e171 (by decide) (by decide) (g := (mkF m 325 #[.val (.int pa), .val (.int pb), .val (.int pd), .val (.int pe), .val (.int pn), .val (.int (3 : Int32)), .val (.int c0), .val (.int c1), .val (.int c2), .val (.int c3), .val (.ref b157), .val (.ref b162), .val (.ref b166), .val (.int (Int32.ofNat f)), .val (.int (Int32.ofNat l2)), .unset] [(.ref ar), (.ref b166)])) rfl (by rw [hml]; rfl) (argsL := [(.ref b166), (.ref ar)]) (rest := []) (lenOf pd__28Ljava_2flang_2fString_3bLcom_2fexample_2fshelfproof_2fshelfproof_2flibrary_2fRefusal_3b_29Ljava_2flang_2fString_3b rfl) rfl rfl (by show 2 * 0 + _ ≤ _; exact Nat.le_of_eq rfl) (hb hby at_325)
      obtain ⟨N173q, K173, b173, rfl, S173⟩ := q173
      refine own_st st173 ?_
      have zK173 := K173.1
      have N173 := Fr.app NG170 N173q
      show own_Go p e below s _ _ _ (T173.setTop (mkF m 328 #[.val (.int pa), .val (.int pb), .val (.int pd), .val (.int pe), .val (.int pn), .val (.int (3 : Int32)), .val (.int c0), .val (.int c1), .val (.int c2), .val (.int c3), .val (.ref b157), .val (.ref b162), .val (.ref b166), .val (.int (Int32.ofNat f)), .val (.int (Int32.ofNat l2)), .unset] [(.ref b173)]))
      refine own_st (fun _ k => XS.astore X173.here hx rfl (hb hby at_328) rfl rfl (l' := #[.val (.int pa), .val (.int pb), .val (.int pd), .val (.int pe), .val (.int pn), .val (.int (3 : Int32)), .val (.int c0), .val (.int c1), .val (.int c2), .val (.int c3), .val (.ref b157), .val (.ref b162), .val (.ref b166), .val (.int (Int32.ofNat f)), .val (.int (Int32.ofNat l2)), .val (.ref b173)]) rfl k) ?_
      show own_Go p e below s _ _ _ (T173.setTop (mkF m 330 #[.val (.int pa), .val (.int pb), .val (.int pd), .val (.int pe), .val (.int pn), .val (.int (3 : Int32)), .val (.int c0), .val (.int c1), .val (.int c2), .val (.int c3), .val (.ref b157), .val (.ref b162), .val (.ref b166), .val (.int (Int32.ofNat f)), .val (.int (Int32.ofNat l2)), .val (.ref b173)] []))
      refine own_st (fun _ k => XS.aload X173.here hx rfl (hb hby at_330) rfl rfl k) ?_
      show own_Go p e below s _ _ _ (T173.setTop (mkF m 332 #[.val (.int pa), .val (.int pb), .val (.int pd), .val (.int pe), .val (.int pn), .val (.int (3 : Int32)), .val (.int c0), .val (.int c1), .val (.int c2), .val (.int c3), .val (.ref b157), .val (.ref b162), .val (.ref b166), .val (.int (Int32.ofNat f)), .val (.int (Int32.ofNat l2)), .val (.ref b173)] [(.ref b173)]))
      have O174 : Old Z n0 h173 := O172.keep ((Keep.refl h169 []).trans K173 all0) all0
      obtain ⟨T175, v175, L175, h175, X175, e175, q175, st175⟩ := own_callV X173 hx hZ (y := (⟨"java/lang/String", "length", "()I"⟩ : MethodName)) (z := (⟨"java/lang/String", "length", "()I"⟩ : MethodName)) hown (hw _ (List.mem_of_getElem? (i := 85) rfl)) (hw _ (List.mem_of_getElem? (i := 86) rfl)) (notFace_of_selects (args := #[]) (mvT hZ (hw _ (List.mem_of_getElem? (i := 88) rfl)))) (hw _ (List.mem_of_getElem? (i := 88) rfl)) (hw _ (List.mem_of_getElem? (i := 87) rfl)) (by decide) (own_lenB (W := 0) hZ (own_wLen hw) (kI := 4) (hw _ (List.mem_of_getElem? (i := 2) rfl)) O174 CS S173 (by decide) (by decide)) e173 S173.1 (by decide) (by decide) (g := (mkF m 332 #[.val (.int pa), .val (.int pb), .val (.int pd), .val (.int pe), .val (.int pn), .val (.int (3 : Int32)), .val (.int c0), .val (.int c1), .val (.int c2), .val (.int c3), .val (.ref b157), .val (.ref b162), .val (.ref b166), .val (.int (Int32.ofNat f)), .val (.int (Int32.ofNat l2)), .val (.ref b173)] [(.ref b173)])) rfl (by rw [hml]; rfl) (argsL := []) (rest := []) (lenOf pd__28_29I rfl) rfl rfl (by show 2 * 0 + _ ≤ _; exact Nat.le_of_eq rfl) (hb hby at_332)
      obtain ⟨rfl, N175q, hq175⟩ := q175
      replace e175 := e175.trans hq175
      refine own_st st175 ?_
      have N175 := Fr.app N173 N175q
      show own_Go p e below s _ _ _ (T175.setTop (mkF m 335 #[.val (.int pa), .val (.int pb), .val (.int pd), .val (.int pe), .val (.int pn), .val (.int (3 : Int32)), .val (.int c0), .val (.int c1), .val (.int c2), .val (.int c3), .val (.ref b157), .val (.ref b162), .val (.ref b166), .val (.int (Int32.ofNat f)), .val (.int (Int32.ofNat l2)), .val (.ref b173)] [(.int (Int32.ofNat ((([c0, c1, c2].drop f).take (l2 + 1 - f))).length))]))
      refine own_st (fun _ k => XS.iload X175.here hx rfl (hb hby at_335) rfl k) ?_
      show own_Go p e below s _ _ _ (T175.setTop (mkF m 337 #[.val (.int pa), .val (.int pb), .val (.int pd), .val (.int pe), .val (.int pn), .val (.int (3 : Int32)), .val (.int c0), .val (.int c1), .val (.int c2), .val (.int c3), .val (.ref b157), .val (.ref b162), .val (.ref b166), .val (.int (Int32.ofNat f)), .val (.int (Int32.ofNat l2)), .val (.ref b173)] [(.int (Int32.ofNat l2)), (.int (Int32.ofNat ((([c0, c1, c2].drop f).take (l2 + 1 - f))).length))]))
      refine own_st (fun _ k => XS.iload X175.here hx rfl (hb hby at_337) rfl k) ?_
      show own_Go p e below s _ _ _ (T175.setTop (mkF m 339 #[.val (.int pa), .val (.int pb), .val (.int pd), .val (.int pe), .val (.int pn), .val (.int (3 : Int32)), .val (.int c0), .val (.int c1), .val (.int c2), .val (.int c3), .val (.ref b157), .val (.ref b162), .val (.ref b166), .val (.int (Int32.ofNat f)), .val (.int (Int32.ofNat l2)), .val (.ref b173)] [(.int (Int32.ofNat f)), (.int (Int32.ofNat l2)), (.int (Int32.ofNat ((([c0, c1, c2].drop f).take (l2 + 1 - f))).length))]))
      refine own_st (fun _ k => XS.isub X175.here hx rfl (hb hby at_339) rfl k) ?_
      show own_Go p e below s _ _ _ (T175.setTop (mkF m 340 #[.val (.int pa), .val (.int pb), .val (.int pd), .val (.int pe), .val (.int pn), .val (.int (3 : Int32)), .val (.int c0), .val (.int c1), .val (.int c2), .val (.int c3), .val (.ref b157), .val (.ref b162), .val (.ref b166), .val (.int (Int32.ofNat f)), .val (.int (Int32.ofNat l2)), .val (.ref b173)] [(.int ((Int32.ofNat l2) - (Int32.ofNat f))), (.int (Int32.ofNat ((([c0, c1, c2].drop f).take (l2 + 1 - f))).length))]))
      refine own_st (fun _ k => XS.iconst X175.here hx rfl (hb hby at_340) k) ?_
      show own_Go p e below s _ _ _ (T175.setTop (mkF m 341 #[.val (.int pa), .val (.int pb), .val (.int pd), .val (.int pe), .val (.int pn), .val (.int (3 : Int32)), .val (.int c0), .val (.int c1), .val (.int c2), .val (.int c3), .val (.ref b157), .val (.ref b162), .val (.ref b166), .val (.int (Int32.ofNat f)), .val (.int (Int32.ofNat l2)), .val (.ref b173)] [(.int (1 : Int32)), (.int ((Int32.ofNat l2) - (Int32.ofNat f))), (.int (Int32.ofNat ((([c0, c1, c2].drop f).take (l2 + 1 - f))).length))]))
      refine own_st (fun _ k => XS.iadd X175.here hx rfl (hb hby at_341) rfl k) ?_
      show own_Go p e below s _ _ _ (T175.setTop (mkF m 342 #[.val (.int pa), .val (.int pb), .val (.int pd), .val (.int pe), .val (.int pn), .val (.int (3 : Int32)), .val (.int c0), .val (.int c1), .val (.int c2), .val (.int c3), .val (.ref b157), .val (.ref b162), .val (.ref b166), .val (.int (Int32.ofNat f)), .val (.int (Int32.ofNat l2)), .val (.ref b173)] [(.int (((Int32.ofNat l2) - (Int32.ofNat f)) + (1 : Int32))), (.int (Int32.ofNat ((([c0, c1, c2].drop f).take (l2 + 1 - f))).length))]))
      rw [own_sub1 hfl (by omega)]
      show own_Go p e below s _ _ _ (T175.setTop (mkF m 342 #[.val (.int pa), .val (.int pb), .val (.int pd), .val (.int pe), .val (.int pn), .val (.int (3 : Int32)), .val (.int c0), .val (.int c1), .val (.int c2), .val (.int c3), .val (.ref b157), .val (.ref b162), .val (.ref b166), .val (.int (Int32.ofNat f)), .val (.int (Int32.ofNat l2)), .val (.ref b173)] [(.int (Int32.ofNat (l2 + 1 - f))), (.int (Int32.ofNat ((([c0, c1, c2].drop f).take (l2 + 1 - f))).length))]))
      refine own_st (fun _ k => XS.icmpYes X175.here hx rfl (pc0 := 342) (pc' := 347) rfl (hb hby at_342) rfl (teq (by rw [hln])).1 (by decide) (by decide) k) ?_
      show own_Go p e below s _ _ _ (T175.setTop (mkF m 347 #[.val (.int pa), .val (.int pb), .val (.int pd), .val (.int pe), .val (.int pn), .val (.int (3 : Int32)), .val (.int c0), .val (.int c1), .val (.int c2), .val (.int c3), .val (.ref b157), .val (.ref b162), .val (.ref b166), .val (.int (Int32.ofNat f)), .val (.int (Int32.ofNat l2)), .val (.ref b173)] []))
      refine own_st (fun _ k => XS.aload X175.here hx rfl (hb hby at_347) rfl rfl k) ?_
      show own_Go p e below s _ _ _ (T175.setTop (mkF m 349 #[.val (.int pa), .val (.int pb), .val (.int pd), .val (.int pe), .val (.int pn), .val (.int (3 : Int32)), .val (.int c0), .val (.int c1), .val (.int c2), .val (.int c3), .val (.ref b157), .val (.ref b162), .val (.ref b166), .val (.int (Int32.ofNat f)), .val (.int (Int32.ofNat l2)), .val (.ref b173)] [(.ref b173)]))
      refine own_st (fun _ k => XS.aload X175.here hx rfl (hb hby at_349) rfl rfl k) ?_
      show own_Go p e below s _ _ _ (T175.setTop (mkF m 351 #[.val (.int pa), .val (.int pb), .val (.int pd), .val (.int pe), .val (.int pn), .val (.int (3 : Int32)), .val (.int c0), .val (.int c1), .val (.int c2), .val (.int c3), .val (.ref b157), .val (.ref b162), .val (.ref b166), .val (.int (Int32.ofNat f)), .val (.int (Int32.ofNat l2)), .val (.ref b173)] [(.ref b157), (.ref b173)]))
      refine own_st (fun _ k => XS.iconst X175.here hx rfl (hb hby at_351) k) ?_
      show own_Go p e below s _ _ _ (T175.setTop (mkF m 352 #[.val (.int pa), .val (.int pb), .val (.int pd), .val (.int pe), .val (.int pn), .val (.int (3 : Int32)), .val (.int c0), .val (.int c1), .val (.int c2), .val (.int c3), .val (.ref b157), .val (.ref b162), .val (.ref b166), .val (.int (Int32.ofNat f)), .val (.int (Int32.ofNat l2)), .val (.ref b173)] [(.int (0 : Int32)), (.ref b157), (.ref b173)]))
      refine own_st (fun _ k => XS.iload X175.here hx rfl (hb hby at_352) rfl k) ?_
      show own_Go p e below s _ _ _ (T175.setTop (mkF m 354 #[.val (.int pa), .val (.int pb), .val (.int pd), .val (.int pe), .val (.int pn), .val (.int (3 : Int32)), .val (.int c0), .val (.int c1), .val (.int c2), .val (.int c3), .val (.ref b157), .val (.ref b162), .val (.ref b166), .val (.int (Int32.ofNat f)), .val (.int (Int32.ofNat l2)), .val (.ref b173)] [(.int (Int32.ofNat f)), (.int (0 : Int32)), (.ref b157), (.ref b173)]))
      refine own_st (fun _ k => XS.iload X175.here hx rfl (hb hby at_354) rfl k) ?_
      show own_Go p e below s _ _ _ (T175.setTop (mkF m 356 #[.val (.int pa), .val (.int pb), .val (.int pd), .val (.int pe), .val (.int pn), .val (.int (3 : Int32)), .val (.int c0), .val (.int c1), .val (.int c2), .val (.int c3), .val (.ref b157), .val (.ref b162), .val (.ref b166), .val (.int (Int32.ofNat f)), .val (.int (Int32.ofNat l2)), .val (.ref b173)] [(.int (Int32.ofNat l2)), (.int (Int32.ofNat f)), (.int (0 : Int32)), (.ref b157), (.ref b173)]))
      have f176 := (V161.keep ((((((((Keep.refl h161 []).trans K162 all0).trans K163 (allS (Or.inr (by omega)) all0)).trans K164 (allS (Or.inr (by omega)) all0)).trans K165 (allS (Or.inr (by omega)) all0)).trans K166 all0).trans K169 (allS (Or.inr (by omega)) all0)).trans K173 all0) nin0)
      obtain ⟨T177, v177, L177, h177, X177, e177, q177, st177⟩ := own_callS X175 hx hZ (y := (⟨"com/example/shelfproof/shelfproof/library/RequestsRequiredPinLaw", "at", "(Ljava/lang/String;[CIII)Z"⟩ : MethodName)) hown (hw _ (List.mem_of_getElem? (i := 95) rfl)) (hw _ (List.mem_of_getElem? (i := 96) rfl)) (hw _ (List.mem_of_getElem? (i := 32) rfl)) (hw _ (List.mem_of_getElem? (i := 97) rfl)) (by decide) (own_bk (W := 0) (atW l Z a0 hw b173 b157 _ [c0, c1, c2, c3] (([c0, c1, c2].drop f).take (l2 + 1 - f)) 0 f l2 h173 n0 O174 CS FM hds (by omega) rfl (by decide) hfl hdb S173 f176) hZ (hw _ (List.mem_of_getElem? (i := 97) rfl)) (hw _ (List.mem_of_getElem? (i := 32) rfl)) (by decide) (by decide)) e175 (by decide) (by decide) (g := (mkF m 356 #[.val (.int pa), .val (.int pb), .val (.int pd), .val (.int pe), .val (.int pn), .val (.int (3 : Int32)), .val (.int c0), .val (.int c1), .val (.int c2), .val (.int c3), .val (.ref b157), .val (.ref b162), .val (.ref b166), .val (.int (Int32.ofNat f)), .val (.int (Int32.ofNat l2)), .val (.ref b173)] [(.int (Int32.ofNat l2)), (.int (Int32.ofNat f)), (.int (0 : Int32)), (.ref b157), (.ref b173)])) rfl (by rw [hml]; rfl) (argsL := [(.ref b173), (.ref b157), (.int (0 : Int32)), (.int (Int32.ofNat f)), (.int (Int32.ofNat l2))]) (rest := []) (lenOf pd__28Ljava_2flang_2fString_3b_5bCIII_29Z rfl) rfl rfl (by show 2 * 0 + _ ≤ _; exact Nat.le_of_eq rfl) (hb hby at_356)
      obtain ⟨rfl, N177q, hq177⟩ := q177
      replace e177 := e177.trans hq177
      refine own_st st177 ?_
      have N177 := Fr.app N175 N177q
      show own_Go p e below s _ _ _ (T177.setTop (mkF m 359 #[.val (.int pa), .val (.int pb), .val (.int pd), .val (.int pe), .val (.int pn), .val (.int (3 : Int32)), .val (.int c0), .val (.int c1), .val (.int c2), .val (.int c3), .val (.ref b157), .val (.ref b162), .val (.ref b166), .val (.int (Int32.ofNat f)), .val (.int (Int32.ofNat l2)), .val (.ref b173)] [(.int (1 : Int32))]))
      refine own_st (fun _ k => XS.ifNo X177.here hx rfl (hb hby at_359) rfl ((if0 _ _).trans (feq (by decide)).1) k) ?_
      show own_Go p e below s _ _ _ (T177.setTop (mkF m 362 #[.val (.int pa), .val (.int pb), .val (.int pd), .val (.int pe), .val (.int pn), .val (.int (3 : Int32)), .val (.int c0), .val (.int c1), .val (.int c2), .val (.int c3), .val (.ref b157), .val (.ref b162), .val (.ref b166), .val (.int (Int32.ofNat f)), .val (.int (Int32.ofNat l2)), .val (.ref b173)] []))
      refine own_st (fun _ k => XS.aload X177.here hx rfl (hb hby at_362) rfl rfl k) ?_
      show own_Go p e below s _ _ _ (T177.setTop (mkF m 364 #[.val (.int pa), .val (.int pb), .val (.int pd), .val (.int pe), .val (.int pn), .val (.int (3 : Int32)), .val (.int c0), .val (.int c1), .val (.int c2), .val (.int c3), .val (.ref b157), .val (.ref b162), .val (.ref b166), .val (.int (Int32.ofNat f)), .val (.int (Int32.ofNat l2)), .val (.ref b173)] [(.ref b173)]))
      refine own_st (fun _ k => XS.aload X177.here hx rfl (hb hby at_364) rfl rfl k) ?_
      show own_Go p e below s _ _ _ (T177.setTop (mkF m 366 #[.val (.int pa), .val (.int pb), .val (.int pd), .val (.int pe), .val (.int pn), .val (.int (3 : Int32)), .val (.int c0), .val (.int c1), .val (.int c2), .val (.int c3), .val (.ref b157), .val (.ref b162), .val (.ref b166), .val (.int (Int32.ofNat f)), .val (.int (Int32.ofNat l2)), .val (.ref b173)] [(.ref b157), (.ref b173)]))
      refine own_st (fun _ k => XS.iconst X177.here hx rfl (hb hby at_366) k) ?_
      show own_Go p e below s _ _ _ (T177.setTop (mkF m 367 #[.val (.int pa), .val (.int pb), .val (.int pd), .val (.int pe), .val (.int pn), .val (.int (3 : Int32)), .val (.int c0), .val (.int c1), .val (.int c2), .val (.int c3), .val (.ref b157), .val (.ref b162), .val (.ref b166), .val (.int (Int32.ofNat f)), .val (.int (Int32.ofNat l2)), .val (.ref b173)] [(.int (1 : Int32)), (.ref b157), (.ref b173)]))
      refine own_st (fun _ k => XS.iload X177.here hx rfl (hb hby at_367) rfl k) ?_
      show own_Go p e below s _ _ _ (T177.setTop (mkF m 369 #[.val (.int pa), .val (.int pb), .val (.int pd), .val (.int pe), .val (.int pn), .val (.int (3 : Int32)), .val (.int c0), .val (.int c1), .val (.int c2), .val (.int c3), .val (.ref b157), .val (.ref b162), .val (.ref b166), .val (.int (Int32.ofNat f)), .val (.int (Int32.ofNat l2)), .val (.ref b173)] [(.int (Int32.ofNat f)), (.int (1 : Int32)), (.ref b157), (.ref b173)]))
      refine own_st (fun _ k => XS.iload X177.here hx rfl (hb hby at_369) rfl k) ?_
      show own_Go p e below s _ _ _ (T177.setTop (mkF m 371 #[.val (.int pa), .val (.int pb), .val (.int pd), .val (.int pe), .val (.int pn), .val (.int (3 : Int32)), .val (.int c0), .val (.int c1), .val (.int c2), .val (.int c3), .val (.ref b157), .val (.ref b162), .val (.ref b166), .val (.int (Int32.ofNat f)), .val (.int (Int32.ofNat l2)), .val (.ref b173)] [(.int (Int32.ofNat l2)), (.int (Int32.ofNat f)), (.int (1 : Int32)), (.ref b157), (.ref b173)]))
      obtain ⟨T178, v178, L178, h178, X178, e178, q178, st178⟩ := own_callS X177 hx hZ (y := (⟨"com/example/shelfproof/shelfproof/library/RequestsRequiredPinLaw", "at", "(Ljava/lang/String;[CIII)Z"⟩ : MethodName)) hown (hw _ (List.mem_of_getElem? (i := 95) rfl)) (hw _ (List.mem_of_getElem? (i := 96) rfl)) (hw _ (List.mem_of_getElem? (i := 32) rfl)) (hw _ (List.mem_of_getElem? (i := 97) rfl)) (by decide) (own_bk (W := 0) (atW l Z a0 hw b173 b157 _ [c0, c1, c2, c3] (([c0, c1, c2].drop f).take (l2 + 1 - f)) 1 f l2 h173 n0 O174 CS FM hds (by omega) rfl (by decide) hfl hdb S173 f176) hZ (hw _ (List.mem_of_getElem? (i := 97) rfl)) (hw _ (List.mem_of_getElem? (i := 32) rfl)) (by decide) (by decide)) e177 (by decide) (by decide) (g := (mkF m 371 #[.val (.int pa), .val (.int pb), .val (.int pd), .val (.int pe), .val (.int pn), .val (.int (3 : Int32)), .val (.int c0), .val (.int c1), .val (.int c2), .val (.int c3), .val (.ref b157), .val (.ref b162), .val (.ref b166), .val (.int (Int32.ofNat f)), .val (.int (Int32.ofNat l2)), .val (.ref b173)] [(.int (Int32.ofNat l2)), (.int (Int32.ofNat f)), (.int (1 : Int32)), (.ref b157), (.ref b173)])) rfl (by rw [hml]; rfl) (argsL := [(.ref b173), (.ref b157), (.int (1 : Int32)), (.int (Int32.ofNat f)), (.int (Int32.ofNat l2))]) (rest := []) (lenOf pd__28Ljava_2flang_2fString_3b_5bCIII_29Z rfl) rfl rfl (by show 2 * 0 + _ ≤ _; exact Nat.le_of_eq rfl) (hb hby at_371)
      obtain ⟨rfl, N178q, hq178⟩ := q178
      replace e178 := e178.trans hq178
      refine own_st st178 ?_
      have N178 := Fr.app N177 N178q
      show own_Go p e below s _ _ _ (T178.setTop (mkF m 374 #[.val (.int pa), .val (.int pb), .val (.int pd), .val (.int pe), .val (.int pn), .val (.int (3 : Int32)), .val (.int c0), .val (.int c1), .val (.int c2), .val (.int c3), .val (.ref b157), .val (.ref b162), .val (.ref b166), .val (.int (Int32.ofNat f)), .val (.int (Int32.ofNat l2)), .val (.ref b173)] [(.int (1 : Int32))]))
      refine own_st (fun _ k => XS.ifNo X178.here hx rfl (hb hby at_374) rfl ((if0 _ _).trans (feq (by decide)).1) k) ?_
      show own_Go p e below s _ _ _ (T178.setTop (mkF m 377 #[.val (.int pa), .val (.int pb), .val (.int pd), .val (.int pe), .val (.int pn), .val (.int (3 : Int32)), .val (.int c0), .val (.int c1), .val (.int c2), .val (.int c3), .val (.ref b157), .val (.ref b162), .val (.ref b166), .val (.int (Int32.ofNat f)), .val (.int (Int32.ofNat l2)), .val (.ref b173)] []))
      refine own_st (fun _ k => XS.aload X178.here hx rfl (hb hby at_377) rfl rfl k) ?_
      show own_Go p e below s _ _ _ (T178.setTop (mkF m 379 #[.val (.int pa), .val (.int pb), .val (.int pd), .val (.int pe), .val (.int pn), .val (.int (3 : Int32)), .val (.int c0), .val (.int c1), .val (.int c2), .val (.int c3), .val (.ref b157), .val (.ref b162), .val (.ref b166), .val (.int (Int32.ofNat f)), .val (.int (Int32.ofNat l2)), .val (.ref b173)] [(.ref b173)]))
      refine own_st (fun _ k => XS.aload X178.here hx rfl (hb hby at_379) rfl rfl k) ?_
      show own_Go p e below s _ _ _ (T178.setTop (mkF m 381 #[.val (.int pa), .val (.int pb), .val (.int pd), .val (.int pe), .val (.int pn), .val (.int (3 : Int32)), .val (.int c0), .val (.int c1), .val (.int c2), .val (.int c3), .val (.ref b157), .val (.ref b162), .val (.ref b166), .val (.int (Int32.ofNat f)), .val (.int (Int32.ofNat l2)), .val (.ref b173)] [(.ref b157), (.ref b173)]))
      refine own_st (fun _ k => XS.iconst X178.here hx rfl (hb hby at_381) k) ?_
      show own_Go p e below s _ _ _ (T178.setTop (mkF m 382 #[.val (.int pa), .val (.int pb), .val (.int pd), .val (.int pe), .val (.int pn), .val (.int (3 : Int32)), .val (.int c0), .val (.int c1), .val (.int c2), .val (.int c3), .val (.ref b157), .val (.ref b162), .val (.ref b166), .val (.int (Int32.ofNat f)), .val (.int (Int32.ofNat l2)), .val (.ref b173)] [(.int (2 : Int32)), (.ref b157), (.ref b173)]))
      refine own_st (fun _ k => XS.iload X178.here hx rfl (hb hby at_382) rfl k) ?_
      show own_Go p e below s _ _ _ (T178.setTop (mkF m 384 #[.val (.int pa), .val (.int pb), .val (.int pd), .val (.int pe), .val (.int pn), .val (.int (3 : Int32)), .val (.int c0), .val (.int c1), .val (.int c2), .val (.int c3), .val (.ref b157), .val (.ref b162), .val (.ref b166), .val (.int (Int32.ofNat f)), .val (.int (Int32.ofNat l2)), .val (.ref b173)] [(.int (Int32.ofNat f)), (.int (2 : Int32)), (.ref b157), (.ref b173)]))
      refine own_st (fun _ k => XS.iload X178.here hx rfl (hb hby at_384) rfl k) ?_
      show own_Go p e below s _ _ _ (T178.setTop (mkF m 386 #[.val (.int pa), .val (.int pb), .val (.int pd), .val (.int pe), .val (.int pn), .val (.int (3 : Int32)), .val (.int c0), .val (.int c1), .val (.int c2), .val (.int c3), .val (.ref b157), .val (.ref b162), .val (.ref b166), .val (.int (Int32.ofNat f)), .val (.int (Int32.ofNat l2)), .val (.ref b173)] [(.int (Int32.ofNat l2)), (.int (Int32.ofNat f)), (.int (2 : Int32)), (.ref b157), (.ref b173)]))
      obtain ⟨T179, v179, L179, h179, X179, e179, q179, st179⟩ := own_callS X178 hx hZ (y := (⟨"com/example/shelfproof/shelfproof/library/RequestsRequiredPinLaw", "at", "(Ljava/lang/String;[CIII)Z"⟩ : MethodName)) hown (hw _ (List.mem_of_getElem? (i := 95) rfl)) (hw _ (List.mem_of_getElem? (i := 96) rfl)) (hw _ (List.mem_of_getElem? (i := 32) rfl)) (hw _ (List.mem_of_getElem? (i := 97) rfl)) (by decide) (own_bk (W := 0) (atW l Z a0 hw b173 b157 _ [c0, c1, c2, c3] (([c0, c1, c2].drop f).take (l2 + 1 - f)) 2 f l2 h173 n0 O174 CS FM hds (by omega) rfl (by decide) hfl hdb S173 f176) hZ (hw _ (List.mem_of_getElem? (i := 97) rfl)) (hw _ (List.mem_of_getElem? (i := 32) rfl)) (by decide) (by decide)) e178 (by decide) (by decide) (g := (mkF m 386 #[.val (.int pa), .val (.int pb), .val (.int pd), .val (.int pe), .val (.int pn), .val (.int (3 : Int32)), .val (.int c0), .val (.int c1), .val (.int c2), .val (.int c3), .val (.ref b157), .val (.ref b162), .val (.ref b166), .val (.int (Int32.ofNat f)), .val (.int (Int32.ofNat l2)), .val (.ref b173)] [(.int (Int32.ofNat l2)), (.int (Int32.ofNat f)), (.int (2 : Int32)), (.ref b157), (.ref b173)])) rfl (by rw [hml]; rfl) (argsL := [(.ref b173), (.ref b157), (.int (2 : Int32)), (.int (Int32.ofNat f)), (.int (Int32.ofNat l2))]) (rest := []) (lenOf pd__28Ljava_2flang_2fString_3b_5bCIII_29Z rfl) rfl rfl (by show 2 * 0 + _ ≤ _; exact Nat.le_of_eq rfl) (hb hby at_386)
      obtain ⟨rfl, N179q, hq179⟩ := q179
      replace e179 := e179.trans hq179
      refine own_st st179 ?_
      have N179 := Fr.app N178 N179q
      show own_Go p e below s _ _ _ (T179.setTop (mkF m 389 #[.val (.int pa), .val (.int pb), .val (.int pd), .val (.int pe), .val (.int pn), .val (.int (3 : Int32)), .val (.int c0), .val (.int c1), .val (.int c2), .val (.int c3), .val (.ref b157), .val (.ref b162), .val (.ref b166), .val (.int (Int32.ofNat f)), .val (.int (Int32.ofNat l2)), .val (.ref b173)] [(.int (1 : Int32))]))
      refine own_st (fun _ k => XS.ifNo X179.here hx rfl (hb hby at_389) rfl ((if0 _ _).trans (feq (by decide)).1) k) ?_
      show own_Go p e below s _ _ _ (T179.setTop (mkF m 392 #[.val (.int pa), .val (.int pb), .val (.int pd), .val (.int pe), .val (.int pn), .val (.int (3 : Int32)), .val (.int c0), .val (.int c1), .val (.int c2), .val (.int c3), .val (.ref b157), .val (.ref b162), .val (.ref b166), .val (.int (Int32.ofNat f)), .val (.int (Int32.ofNat l2)), .val (.ref b173)] []))
      refine own_st (fun _ k => XS.aload X179.here hx rfl (hb hby at_392) rfl rfl k) ?_
      show own_Go p e below s _ _ _ (T179.setTop (mkF m 394 #[.val (.int pa), .val (.int pb), .val (.int pd), .val (.int pe), .val (.int pn), .val (.int (3 : Int32)), .val (.int c0), .val (.int c1), .val (.int c2), .val (.int c3), .val (.ref b157), .val (.ref b162), .val (.ref b166), .val (.int (Int32.ofNat f)), .val (.int (Int32.ofNat l2)), .val (.ref b173)] [(.ref b173)]))
      refine own_st (fun _ k => XS.aload X179.here hx rfl (hb hby at_394) rfl rfl k) ?_
      show own_Go p e below s _ _ _ (T179.setTop (mkF m 396 #[.val (.int pa), .val (.int pb), .val (.int pd), .val (.int pe), .val (.int pn), .val (.int (3 : Int32)), .val (.int c0), .val (.int c1), .val (.int c2), .val (.int c3), .val (.ref b157), .val (.ref b162), .val (.ref b166), .val (.int (Int32.ofNat f)), .val (.int (Int32.ofNat l2)), .val (.ref b173)] [(.ref b157), (.ref b173)]))
      refine own_st (fun _ k => XS.iconst X179.here hx rfl (hb hby at_396) k) ?_
      show own_Go p e below s _ _ _ (T179.setTop (mkF m 397 #[.val (.int pa), .val (.int pb), .val (.int pd), .val (.int pe), .val (.int pn), .val (.int (3 : Int32)), .val (.int c0), .val (.int c1), .val (.int c2), .val (.int c3), .val (.ref b157), .val (.ref b162), .val (.ref b166), .val (.int (Int32.ofNat f)), .val (.int (Int32.ofNat l2)), .val (.ref b173)] [(.int (3 : Int32)), (.ref b157), (.ref b173)]))
      refine own_st (fun _ k => XS.iload X179.here hx rfl (hb hby at_397) rfl k) ?_
      show own_Go p e below s _ _ _ (T179.setTop (mkF m 399 #[.val (.int pa), .val (.int pb), .val (.int pd), .val (.int pe), .val (.int pn), .val (.int (3 : Int32)), .val (.int c0), .val (.int c1), .val (.int c2), .val (.int c3), .val (.ref b157), .val (.ref b162), .val (.ref b166), .val (.int (Int32.ofNat f)), .val (.int (Int32.ofNat l2)), .val (.ref b173)] [(.int (Int32.ofNat f)), (.int (3 : Int32)), (.ref b157), (.ref b173)]))
      refine own_st (fun _ k => XS.iload X179.here hx rfl (hb hby at_399) rfl k) ?_
      show own_Go p e below s _ _ _ (T179.setTop (mkF m 401 #[.val (.int pa), .val (.int pb), .val (.int pd), .val (.int pe), .val (.int pn), .val (.int (3 : Int32)), .val (.int c0), .val (.int c1), .val (.int c2), .val (.int c3), .val (.ref b157), .val (.ref b162), .val (.ref b166), .val (.int (Int32.ofNat f)), .val (.int (Int32.ofNat l2)), .val (.ref b173)] [(.int (Int32.ofNat l2)), (.int (Int32.ofNat f)), (.int (3 : Int32)), (.ref b157), (.ref b173)]))
      obtain ⟨T180, v180, L180, h180, X180, e180, q180, st180⟩ := own_callS X179 hx hZ (y := (⟨"com/example/shelfproof/shelfproof/library/RequestsRequiredPinLaw", "at", "(Ljava/lang/String;[CIII)Z"⟩ : MethodName)) hown (hw _ (List.mem_of_getElem? (i := 95) rfl)) (hw _ (List.mem_of_getElem? (i := 96) rfl)) (hw _ (List.mem_of_getElem? (i := 32) rfl)) (hw _ (List.mem_of_getElem? (i := 97) rfl)) (by decide) (own_bk (W := 0) (atW l Z a0 hw b173 b157 _ [c0, c1, c2, c3] (([c0, c1, c2].drop f).take (l2 + 1 - f)) 3 f l2 h173 n0 O174 CS FM hds (by omega) rfl (by decide) hfl hdb S173 f176) hZ (hw _ (List.mem_of_getElem? (i := 97) rfl)) (hw _ (List.mem_of_getElem? (i := 32) rfl)) (by decide) (by decide)) e179 (by decide) (by decide) (g := (mkF m 401 #[.val (.int pa), .val (.int pb), .val (.int pd), .val (.int pe), .val (.int pn), .val (.int (3 : Int32)), .val (.int c0), .val (.int c1), .val (.int c2), .val (.int c3), .val (.ref b157), .val (.ref b162), .val (.ref b166), .val (.int (Int32.ofNat f)), .val (.int (Int32.ofNat l2)), .val (.ref b173)] [(.int (Int32.ofNat l2)), (.int (Int32.ofNat f)), (.int (3 : Int32)), (.ref b157), (.ref b173)])) rfl (by rw [hml]; rfl) (argsL := [(.ref b173), (.ref b157), (.int (3 : Int32)), (.int (Int32.ofNat f)), (.int (Int32.ofNat l2))]) (rest := []) (lenOf pd__28Ljava_2flang_2fString_3b_5bCIII_29Z rfl) rfl rfl (by show 2 * 0 + _ ≤ _; exact Nat.le_of_eq rfl) (hb hby at_401)
      obtain ⟨rfl, N180q, hq180⟩ := q180
      replace e180 := e180.trans hq180
      refine own_st st180 ?_
      have N180 := Fr.app N179 N180q
      show own_Go p e below s _ _ _ (T180.setTop (mkF m 404 #[.val (.int pa), .val (.int pb), .val (.int pd), .val (.int pe), .val (.int pn), .val (.int (3 : Int32)), .val (.int c0), .val (.int c1), .val (.int c2), .val (.int c3), .val (.ref b157), .val (.ref b162), .val (.ref b166), .val (.int (Int32.ofNat f)), .val (.int (Int32.ofNat l2)), .val (.ref b173)] [(.int (1 : Int32))]))
      refine own_st (fun _ k => XS.ifNo X180.here hx rfl (hb hby at_404) rfl ((if0 _ _).trans (feq (by decide)).1) k) ?_
      show own_Go p e below s _ _ _ (T180.setTop (mkF m 407 #[.val (.int pa), .val (.int pb), .val (.int pd), .val (.int pe), .val (.int pn), .val (.int (3 : Int32)), .val (.int c0), .val (.int c1), .val (.int c2), .val (.int c3), .val (.ref b157), .val (.ref b162), .val (.ref b166), .val (.int (Int32.ofNat f)), .val (.int (Int32.ofNat l2)), .val (.ref b173)] []))
      refine own_st (fun _ k => XS.iconst X180.here hx rfl (hb hby at_407) k) ?_
      show own_Go p e below s _ _ _ (T180.setTop (mkF m 408 #[.val (.int pa), .val (.int pb), .val (.int pd), .val (.int pe), .val (.int pn), .val (.int (3 : Int32)), .val (.int c0), .val (.int c1), .val (.int c2), .val (.int c3), .val (.ref b157), .val (.ref b162), .val (.ref b166), .val (.int (Int32.ofNat f)), .val (.int (Int32.ofNat l2)), .val (.ref b173)] [(.int (1 : Int32))]))
      refine own_st (fun _ k => XS.goto X180.here hx rfl (pc0 := 408) (pc' := 412) rfl (hb hby at_408) (by decide) (by decide) k) ?_
      show own_Go p e below s _ _ _ (T180.setTop (mkF m 412 #[.val (.int pa), .val (.int pb), .val (.int pd), .val (.int pe), .val (.int pn), .val (.int (3 : Int32)), .val (.int c0), .val (.int c1), .val (.int c2), .val (.int c3), .val (.ref b157), .val (.ref b162), .val (.ref b166), .val (.int (Int32.ofNat f)), .val (.int (Int32.ofNat l2)), .val (.ref b173)] [(.int (1 : Int32))]))
      exact own_ret X180 hx hlk e180 hret (by decide) (Or.inl ⟨rfl, Or.inr (Or.inl rfl), _, rfl⟩) (hb hby at_412) (by decide) (by decide) ⟨rfl, N180⟩
    refine own_st (fun _ k => XS.iload X169.here hx rfl (hb hby at_173) rfl k) ?_
    show own_Go p e below s _ _ _ (T169.setTop (mkF m 175 #[.val (.int pa), .val (.int pb), .val (.int pd), .val (.int pe), .val (.int pn), .val (.int (3 : Int32)), .val (.int c0), .val (.int c1), .val (.int c2), .val (.int c3), .val (.ref b157), .val (.ref b162), .val (.ref b166), .unset, .unset, .unset] [(.int c0)]))
    have O181 : Old Z n0 h169 := O168.keep ((Keep.refl h166 [b166]).trans K169 (allS (Or.inl (by simp)) all0)) (allS (by omega) all0)
    obtain ⟨T182, v182, L182, h182, X182, e182, q182, st182⟩ := own_callS X169 hx hZ (y := (⟨"com/example/shelfproof/shelfproof/library/RequestsRequiredPinLaw", "ws", "(C)Z"⟩ : MethodName)) hown (hw _ (List.mem_of_getElem? (i := 30) rfl)) (hw _ (List.mem_of_getElem? (i := 31) rfl)) (hw _ (List.mem_of_getElem? (i := 32) rfl)) (hw _ (List.mem_of_getElem? (i := 33) rfl)) (by decide) (own_bk (W := 0) (wsW l Z a0 hw c0 h169 n0 O181) hZ (hw _ (List.mem_of_getElem? (i := 33) rfl)) (hw _ (List.mem_of_getElem? (i := 32) rfl)) (by decide) (by decide)) e169 (by decide) (by decide) (g := (mkF m 175 #[.val (.int pa), .val (.int pb), .val (.int pd), .val (.int pe), .val (.int pn), .val (.int (3 : Int32)), .val (.int c0), .val (.int c1), .val (.int c2), .val (.int c3), .val (.ref b157), .val (.ref b162), .val (.ref b166), .unset, .unset, .unset] [(.int c0)])) rfl (by rw [hml]; rfl) (argsL := [(.int c0)]) (rest := []) (lenOf pd__28C_29Z rfl) rfl rfl (by show 2 * 0 + _ ≤ _; exact Nat.le_of_eq rfl) (hb hby at_175)
    obtain ⟨rfl, N182q, hq182⟩ := q182
    replace e182 := e182.trans hq182
    refine own_st st182 ?_
    have N182 := Fr.app N169 N182q
    show own_Go p e below s _ _ _ (T182.setTop (mkF m 178 #[.val (.int pa), .val (.int pb), .val (.int pd), .val (.int pe), .val (.int pn), .val (.int (3 : Int32)), .val (.int c0), .val (.int c1), .val (.int c2), .val (.int c3), .val (.ref b157), .val (.ref b162), .val (.ref b166), .unset, .unset, .unset] [(.int (if own_ws c0 then (1 : Int32) else 0))]))
    by_cases c183 : (if own_ws c0 then (1 : Int32) else 0) = (0 : Int32)
    · refine own_st (fun _ k => XS.ifNo X182.here hx rfl (hb hby at_178) rfl ((if0 _ _).trans (teq c183).2) k) ?_
      show own_Go p e below s _ _ _ (T182.setTop (mkF m 181 #[.val (.int pa), .val (.int pb), .val (.int pd), .val (.int pe), .val (.int pn), .val (.int (3 : Int32)), .val (.int c0), .val (.int c1), .val (.int c2), .val (.int c3), .val (.ref b157), .val (.ref b162), .val (.ref b166), .unset, .unset, .unset] []))
      refine own_st (fun _ k => XS.iconst X182.here hx rfl (hb hby at_181) k) ?_
      show own_Go p e below s _ _ _ (T182.setTop (mkF m 182 #[.val (.int pa), .val (.int pb), .val (.int pd), .val (.int pe), .val (.int pn), .val (.int (3 : Int32)), .val (.int c0), .val (.int c1), .val (.int c2), .val (.int c3), .val (.ref b157), .val (.ref b162), .val (.ref b166), .unset, .unset, .unset] [(.int (0 : Int32))]))
      refine own_st (fun _ k => XS.istore X182.here hx rfl (hb hby at_182) rfl (l' := #[.val (.int pa), .val (.int pb), .val (.int pd), .val (.int pe), .val (.int pn), .val (.int (3 : Int32)), .val (.int c0), .val (.int c1), .val (.int c2), .val (.int c3), .val (.ref b157), .val (.ref b162), .val (.ref b166), .val (.int (0 : Int32)), .unset, .unset]) rfl k) ?_
      show own_Go p e below s _ _ _ (T182.setTop (mkF m 184 #[.val (.int pa), .val (.int pb), .val (.int pd), .val (.int pe), .val (.int pn), .val (.int (3 : Int32)), .val (.int c0), .val (.int c1), .val (.int c2), .val (.int c3), .val (.ref b157), .val (.ref b162), .val (.ref b166), .val (.int (0 : Int32)), .unset, .unset] []))
      refine own_st (fun _ k => XS.goto X182.here hx rfl (pc0 := 184) (pc' := 250) rfl (hb hby at_184) (by decide) (by decide) k) ?_
      show own_Go p e below s _ _ _ (T182.setTop (mkF m 250 #[.val (.int pa), .val (.int pb), .val (.int pd), .val (.int pe), .val (.int pn), .val (.int (3 : Int32)), .val (.int c0), .val (.int c1), .val (.int c2), .val (.int c3), .val (.ref b157), .val (.ref b162), .val (.ref b166), .val (.int (0 : Int32)), .unset, .unset] []))
      refine own_st (fun _ k => XS.iload X182.here hx rfl (hb hby at_250) rfl k) ?_
      show own_Go p e below s _ _ _ (T182.setTop (mkF m 252 #[.val (.int pa), .val (.int pb), .val (.int pd), .val (.int pe), .val (.int pn), .val (.int (3 : Int32)), .val (.int c0), .val (.int c1), .val (.int c2), .val (.int c3), .val (.ref b157), .val (.ref b162), .val (.ref b166), .val (.int (0 : Int32)), .unset, .unset] [(.int (0 : Int32))]))
      refine own_st (fun _ k => XS.ifYes X182.here hx rfl (pc0 := 252) (pc' := 257) rfl (hb hby at_252) rfl ((if0 _ _).trans (flt (by decide)).2.1) (by decide) (by decide) k) ?_
      show own_Go p e below s _ _ _ (T182.setTop (mkF m 257 #[.val (.int pa), .val (.int pb), .val (.int pd), .val (.int pe), .val (.int pn), .val (.int (3 : Int32)), .val (.int c0), .val (.int c1), .val (.int c2), .val (.int c3), .val (.ref b157), .val (.ref b162), .val (.ref b166), .val (.int (0 : Int32)), .unset, .unset] []))
      refine own_st (fun _ k => XS.iload X182.here hx rfl (hb hby at_257) rfl k) ?_
      show own_Go p e below s _ _ _ (T182.setTop (mkF m 259 #[.val (.int pa), .val (.int pb), .val (.int pd), .val (.int pe), .val (.int pn), .val (.int (3 : Int32)), .val (.int c0), .val (.int c1), .val (.int c2), .val (.int c3), .val (.ref b157), .val (.ref b162), .val (.ref b166), .val (.int (0 : Int32)), .unset, .unset] [(.int (3 : Int32))]))
      refine own_st (fun _ k => XS.iconst X182.here hx rfl (hb hby at_259) k) ?_
      show own_Go p e below s _ _ _ (T182.setTop (mkF m 260 #[.val (.int pa), .val (.int pb), .val (.int pd), .val (.int pe), .val (.int pn), .val (.int (3 : Int32)), .val (.int c0), .val (.int c1), .val (.int c2), .val (.int c3), .val (.ref b157), .val (.ref b162), .val (.ref b166), .val (.int (0 : Int32)), .unset, .unset] [(.int (3 : Int32)), (.int (3 : Int32))]))
      refine own_st (fun _ k => XS.icmpYes X182.here hx rfl (pc0 := 260) (pc' := 277) rfl (hb hby at_260) rfl (flt (by decide)).2.2.2 (by decide) (by decide) k) ?_
      show own_Go p e below s _ _ _ (T182.setTop (mkF m 277 #[.val (.int pa), .val (.int pb), .val (.int pd), .val (.int pe), .val (.int pn), .val (.int (3 : Int32)), .val (.int c0), .val (.int c1), .val (.int c2), .val (.int c3), .val (.ref b157), .val (.ref b162), .val (.ref b166), .val (.int (0 : Int32)), .unset, .unset] []))
      refine own_st (fun _ k => XS.iload X182.here hx rfl (hb hby at_277) rfl k) ?_
      show own_Go p e below s _ _ _ (T182.setTop (mkF m 279 #[.val (.int pa), .val (.int pb), .val (.int pd), .val (.int pe), .val (.int pn), .val (.int (3 : Int32)), .val (.int c0), .val (.int c1), .val (.int c2), .val (.int c3), .val (.ref b157), .val (.ref b162), .val (.ref b166), .val (.int (0 : Int32)), .unset, .unset] [(.int (3 : Int32))]))
      refine own_st (fun _ k => XS.iconst X182.here hx rfl (hb hby at_279) k) ?_
      show own_Go p e below s _ _ _ (T182.setTop (mkF m 280 #[.val (.int pa), .val (.int pb), .val (.int pd), .val (.int pe), .val (.int pn), .val (.int (3 : Int32)), .val (.int c0), .val (.int c1), .val (.int c2), .val (.int c3), .val (.ref b157), .val (.ref b162), .val (.ref b166), .val (.int (0 : Int32)), .unset, .unset] [(.int (2 : Int32)), (.int (3 : Int32))]))
      refine own_st (fun _ k => XS.icmpNo X182.here hx rfl (hb hby at_280) rfl (tlt (by decide)).2.2.2 k) ?_
      show own_Go p e below s _ _ _ (T182.setTop (mkF m 283 #[.val (.int pa), .val (.int pb), .val (.int pd), .val (.int pe), .val (.int pn), .val (.int (3 : Int32)), .val (.int c0), .val (.int c1), .val (.int c2), .val (.int c3), .val (.ref b157), .val (.ref b162), .val (.ref b166), .val (.int (0 : Int32)), .unset, .unset] []))
      refine own_st (fun _ k => XS.iload X182.here hx rfl (hb hby at_283) rfl k) ?_
      show own_Go p e below s _ _ _ (T182.setTop (mkF m 285 #[.val (.int pa), .val (.int pb), .val (.int pd), .val (.int pe), .val (.int pn), .val (.int (3 : Int32)), .val (.int c0), .val (.int c1), .val (.int c2), .val (.int c3), .val (.ref b157), .val (.ref b162), .val (.ref b166), .val (.int (0 : Int32)), .unset, .unset] [(.int c2)]))
      obtain ⟨T184, v184, L184, h184, X184, e184, q184, st184⟩ := own_callS X182 hx hZ (y := (⟨"com/example/shelfproof/shelfproof/library/RequestsRequiredPinLaw", "ws", "(C)Z"⟩ : MethodName)) hown (hw _ (List.mem_of_getElem? (i := 30) rfl)) (hw _ (List.mem_of_getElem? (i := 31) rfl)) (hw _ (List.mem_of_getElem? (i := 32) rfl)) (hw _ (List.mem_of_getElem? (i := 33) rfl)) (by decide) (own_bk (W := 0) (wsW l Z a0 hw c2 h169 n0 O181) hZ (hw _ (List.mem_of_getElem? (i := 33) rfl)) (hw _ (List.mem_of_getElem? (i := 32) rfl)) (by decide) (by decide)) e182 (by decide) (by decide) (g := (mkF m 285 #[.val (.int pa), .val (.int pb), .val (.int pd), .val (.int pe), .val (.int pn), .val (.int (3 : Int32)), .val (.int c0), .val (.int c1), .val (.int c2), .val (.int c3), .val (.ref b157), .val (.ref b162), .val (.ref b166), .val (.int (0 : Int32)), .unset, .unset] [(.int c2)])) rfl (by rw [hml]; rfl) (argsL := [(.int c2)]) (rest := []) (lenOf pd__28C_29Z rfl) rfl rfl (by show 2 * 0 + _ ≤ _; exact Nat.le_of_eq rfl) (hb hby at_285)
      obtain ⟨rfl, N184q, hq184⟩ := q184
      replace e184 := e184.trans hq184
      refine own_st st184 ?_
      have N184 := Fr.app N182 N184q
      show own_Go p e below s _ _ _ (T184.setTop (mkF m 288 #[.val (.int pa), .val (.int pb), .val (.int pd), .val (.int pe), .val (.int pn), .val (.int (3 : Int32)), .val (.int c0), .val (.int c1), .val (.int c2), .val (.int c3), .val (.ref b157), .val (.ref b162), .val (.ref b166), .val (.int (0 : Int32)), .unset, .unset] [(.int (if own_ws c2 then (1 : Int32) else 0))]))
      by_cases c185 : (if own_ws c2 then (1 : Int32) else 0) = (0 : Int32)
      · refine own_st (fun _ k => XS.ifNo X184.here hx rfl (hb hby at_288) rfl ((if0 _ _).trans (teq c185).2) k) ?_
        show own_Go p e below s _ _ _ (T184.setTop (mkF m 291 #[.val (.int pa), .val (.int pb), .val (.int pd), .val (.int pe), .val (.int pn), .val (.int (3 : Int32)), .val (.int c0), .val (.int c1), .val (.int c2), .val (.int c3), .val (.ref b157), .val (.ref b162), .val (.ref b166), .val (.int (0 : Int32)), .unset, .unset] []))
        refine own_st (fun _ k => XS.iconst X184.here hx rfl (hb hby at_291) k) ?_
        show own_Go p e below s _ _ _ (T184.setTop (mkF m 292 #[.val (.int pa), .val (.int pb), .val (.int pd), .val (.int pe), .val (.int pn), .val (.int (3 : Int32)), .val (.int c0), .val (.int c1), .val (.int c2), .val (.int c3), .val (.ref b157), .val (.ref b162), .val (.ref b166), .val (.int (0 : Int32)), .unset, .unset] [(.int (2 : Int32))]))
        refine own_st (fun _ k => XS.istore X184.here hx rfl (hb hby at_292) rfl (l' := #[.val (.int pa), .val (.int pb), .val (.int pd), .val (.int pe), .val (.int pn), .val (.int (3 : Int32)), .val (.int c0), .val (.int c1), .val (.int c2), .val (.int c3), .val (.ref b157), .val (.ref b162), .val (.ref b166), .val (.int (0 : Int32)), .val (.int (2 : Int32)), .unset]) rfl k) ?_
        show own_Go p e below s _ _ _ (T184.setTop (mkF m 294 #[.val (.int pa), .val (.int pb), .val (.int pd), .val (.int pe), .val (.int pn), .val (.int (3 : Int32)), .val (.int c0), .val (.int c1), .val (.int c2), .val (.int c3), .val (.ref b157), .val (.ref b162), .val (.ref b166), .val (.int (0 : Int32)), .val (.int (2 : Int32)), .unset] []))
        refine own_st (fun _ k => XS.goto X184.here hx rfl (pc0 := 294) (pc' := 320) rfl (hb hby at_294) (by decide) (by decide) k) ?_
        show own_Go p e below s _ _ _ (T184.setTop (mkF m 320 #[.val (.int pa), .val (.int pb), .val (.int pd), .val (.int pe), .val (.int pn), .val (.int (3 : Int32)), .val (.int c0), .val (.int c1), .val (.int c2), .val (.int c3), .val (.ref b157), .val (.ref b162), .val (.ref b166), .val (.int (0 : Int32)), .val (.int (2 : Int32)), .unset] []))
        exact G170 _ _ 0 2 (by decide) (fun j hj => absurd hj (by omega)) (own_ifF c183) (by decide) (by decide) (fun j hj hj2 => absurd hj2 (by omega)) (own_ifF c185) X184 e184 N184
      · refine own_st (fun _ k => XS.ifYes X184.here hx rfl (pc0 := 288) (pc' := 297) rfl (hb hby at_288) rfl ((if0 _ _).trans (feq c185).2) (by decide) (by decide) k) ?_
        show own_Go p e below s _ _ _ (T184.setTop (mkF m 297 #[.val (.int pa), .val (.int pb), .val (.int pd), .val (.int pe), .val (.int pn), .val (.int (3 : Int32)), .val (.int c0), .val (.int c1), .val (.int c2), .val (.int c3), .val (.ref b157), .val (.ref b162), .val (.ref b166), .val (.int (0 : Int32)), .unset, .unset] []))
        refine own_st (fun _ k => XS.iload X184.here hx rfl (hb hby at_297) rfl k) ?_
        show own_Go p e below s _ _ _ (T184.setTop (mkF m 299 #[.val (.int pa), .val (.int pb), .val (.int pd), .val (.int pe), .val (.int pn), .val (.int (3 : Int32)), .val (.int c0), .val (.int c1), .val (.int c2), .val (.int c3), .val (.ref b157), .val (.ref b162), .val (.ref b166), .val (.int (0 : Int32)), .unset, .unset] [(.int (3 : Int32))]))
        refine own_st (fun _ k => XS.iconst X184.here hx rfl (hb hby at_299) k) ?_
        show own_Go p e below s _ _ _ (T184.setTop (mkF m 300 #[.val (.int pa), .val (.int pb), .val (.int pd), .val (.int pe), .val (.int pn), .val (.int (3 : Int32)), .val (.int c0), .val (.int c1), .val (.int c2), .val (.int c3), .val (.ref b157), .val (.ref b162), .val (.ref b166), .val (.int (0 : Int32)), .unset, .unset] [(.int (1 : Int32)), (.int (3 : Int32))]))
        refine own_st (fun _ k => XS.icmpNo X184.here hx rfl (hb hby at_300) rfl (tlt (by decide)).2.2.2 k) ?_
        show own_Go p e below s _ _ _ (T184.setTop (mkF m 303 #[.val (.int pa), .val (.int pb), .val (.int pd), .val (.int pe), .val (.int pn), .val (.int (3 : Int32)), .val (.int c0), .val (.int c1), .val (.int c2), .val (.int c3), .val (.ref b157), .val (.ref b162), .val (.ref b166), .val (.int (0 : Int32)), .unset, .unset] []))
        refine own_st (fun _ k => XS.iload X184.here hx rfl (hb hby at_303) rfl k) ?_
        show own_Go p e below s _ _ _ (T184.setTop (mkF m 305 #[.val (.int pa), .val (.int pb), .val (.int pd), .val (.int pe), .val (.int pn), .val (.int (3 : Int32)), .val (.int c0), .val (.int c1), .val (.int c2), .val (.int c3), .val (.ref b157), .val (.ref b162), .val (.ref b166), .val (.int (0 : Int32)), .unset, .unset] [(.int c1)]))
        obtain ⟨T186, v186, L186, h186, X186, e186, q186, st186⟩ := own_callS X184 hx hZ (y := (⟨"com/example/shelfproof/shelfproof/library/RequestsRequiredPinLaw", "ws", "(C)Z"⟩ : MethodName)) hown (hw _ (List.mem_of_getElem? (i := 30) rfl)) (hw _ (List.mem_of_getElem? (i := 31) rfl)) (hw _ (List.mem_of_getElem? (i := 32) rfl)) (hw _ (List.mem_of_getElem? (i := 33) rfl)) (by decide) (own_bk (W := 0) (wsW l Z a0 hw c1 h169 n0 O181) hZ (hw _ (List.mem_of_getElem? (i := 33) rfl)) (hw _ (List.mem_of_getElem? (i := 32) rfl)) (by decide) (by decide)) e184 (by decide) (by decide) (g := (mkF m 305 #[.val (.int pa), .val (.int pb), .val (.int pd), .val (.int pe), .val (.int pn), .val (.int (3 : Int32)), .val (.int c0), .val (.int c1), .val (.int c2), .val (.int c3), .val (.ref b157), .val (.ref b162), .val (.ref b166), .val (.int (0 : Int32)), .unset, .unset] [(.int c1)])) rfl (by rw [hml]; rfl) (argsL := [(.int c1)]) (rest := []) (lenOf pd__28C_29Z rfl) rfl rfl (by show 2 * 0 + _ ≤ _; exact Nat.le_of_eq rfl) (hb hby at_305)
        obtain ⟨rfl, N186q, hq186⟩ := q186
        replace e186 := e186.trans hq186
        refine own_st st186 ?_
        have N186 := Fr.app N184 N186q
        show own_Go p e below s _ _ _ (T186.setTop (mkF m 308 #[.val (.int pa), .val (.int pb), .val (.int pd), .val (.int pe), .val (.int pn), .val (.int (3 : Int32)), .val (.int c0), .val (.int c1), .val (.int c2), .val (.int c3), .val (.ref b157), .val (.ref b162), .val (.ref b166), .val (.int (0 : Int32)), .unset, .unset] [(.int (if own_ws c1 then (1 : Int32) else 0))]))
        by_cases c187 : (if own_ws c1 then (1 : Int32) else 0) = (0 : Int32)
        · refine own_st (fun _ k => XS.ifNo X186.here hx rfl (hb hby at_308) rfl ((if0 _ _).trans (teq c187).2) k) ?_
          show own_Go p e below s _ _ _ (T186.setTop (mkF m 311 #[.val (.int pa), .val (.int pb), .val (.int pd), .val (.int pe), .val (.int pn), .val (.int (3 : Int32)), .val (.int c0), .val (.int c1), .val (.int c2), .val (.int c3), .val (.ref b157), .val (.ref b162), .val (.ref b166), .val (.int (0 : Int32)), .unset, .unset] []))
          refine own_st (fun _ k => XS.iconst X186.here hx rfl (hb hby at_311) k) ?_
          show own_Go p e below s _ _ _ (T186.setTop (mkF m 312 #[.val (.int pa), .val (.int pb), .val (.int pd), .val (.int pe), .val (.int pn), .val (.int (3 : Int32)), .val (.int c0), .val (.int c1), .val (.int c2), .val (.int c3), .val (.ref b157), .val (.ref b162), .val (.ref b166), .val (.int (0 : Int32)), .unset, .unset] [(.int (1 : Int32))]))
          refine own_st (fun _ k => XS.istore X186.here hx rfl (hb hby at_312) rfl (l' := #[.val (.int pa), .val (.int pb), .val (.int pd), .val (.int pe), .val (.int pn), .val (.int (3 : Int32)), .val (.int c0), .val (.int c1), .val (.int c2), .val (.int c3), .val (.ref b157), .val (.ref b162), .val (.ref b166), .val (.int (0 : Int32)), .val (.int (1 : Int32)), .unset]) rfl k) ?_
          show own_Go p e below s _ _ _ (T186.setTop (mkF m 314 #[.val (.int pa), .val (.int pb), .val (.int pd), .val (.int pe), .val (.int pn), .val (.int (3 : Int32)), .val (.int c0), .val (.int c1), .val (.int c2), .val (.int c3), .val (.ref b157), .val (.ref b162), .val (.ref b166), .val (.int (0 : Int32)), .val (.int (1 : Int32)), .unset] []))
          refine own_st (fun _ k => XS.goto X186.here hx rfl (pc0 := 314) (pc' := 320) rfl (hb hby at_314) (by decide) (by decide) k) ?_
          show own_Go p e below s _ _ _ (T186.setTop (mkF m 320 #[.val (.int pa), .val (.int pb), .val (.int pd), .val (.int pe), .val (.int pn), .val (.int (3 : Int32)), .val (.int c0), .val (.int c1), .val (.int c2), .val (.int c3), .val (.ref b157), .val (.ref b162), .val (.ref b166), .val (.int (0 : Int32)), .val (.int (1 : Int32)), .unset] []))
          exact G170 _ _ 0 1 (by decide) (fun j hj => absurd hj (by omega)) (own_ifF c183) (by decide) (by decide) (fun j hj hj2 => match j, (show 2 ≤ j ∧ j < 3 from by omega) with | 2, _ => (own_ifT c185)) (own_ifF c187) X186 e186 N186
        · refine own_st (fun _ k => XS.ifYes X186.here hx rfl (pc0 := 308) (pc' := 317) rfl (hb hby at_308) rfl ((if0 _ _).trans (feq c187).2) (by decide) (by decide) k) ?_
          show own_Go p e below s _ _ _ (T186.setTop (mkF m 317 #[.val (.int pa), .val (.int pb), .val (.int pd), .val (.int pe), .val (.int pn), .val (.int (3 : Int32)), .val (.int c0), .val (.int c1), .val (.int c2), .val (.int c3), .val (.ref b157), .val (.ref b162), .val (.ref b166), .val (.int (0 : Int32)), .unset, .unset] []))
          refine own_st (fun _ k => XS.iconst X186.here hx rfl (hb hby at_317) k) ?_
          show own_Go p e below s _ _ _ (T186.setTop (mkF m 318 #[.val (.int pa), .val (.int pb), .val (.int pd), .val (.int pe), .val (.int pn), .val (.int (3 : Int32)), .val (.int c0), .val (.int c1), .val (.int c2), .val (.int c3), .val (.ref b157), .val (.ref b162), .val (.ref b166), .val (.int (0 : Int32)), .unset, .unset] [(.int (0 : Int32))]))
          refine own_st (fun _ k => XS.istore X186.here hx rfl (hb hby at_318) rfl (l' := #[.val (.int pa), .val (.int pb), .val (.int pd), .val (.int pe), .val (.int pn), .val (.int (3 : Int32)), .val (.int c0), .val (.int c1), .val (.int c2), .val (.int c3), .val (.ref b157), .val (.ref b162), .val (.ref b166), .val (.int (0 : Int32)), .val (.int (0 : Int32)), .unset]) rfl k) ?_
          show own_Go p e below s _ _ _ (T186.setTop (mkF m 320 #[.val (.int pa), .val (.int pb), .val (.int pd), .val (.int pe), .val (.int pn), .val (.int (3 : Int32)), .val (.int c0), .val (.int c1), .val (.int c2), .val (.int c3), .val (.ref b157), .val (.ref b162), .val (.ref b166), .val (.int (0 : Int32)), .val (.int (0 : Int32)), .unset] []))
          exact G170 _ _ 0 0 (by decide) (fun j hj => absurd hj (by omega)) (own_ifF c183) (by decide) (by decide) (fun j hj hj2 => match j, (show 1 ≤ j ∧ j < 3 from by omega) with | 1, _ => (own_ifT c187) | 2, _ => (own_ifT c185)) (own_ifF c183) X186 e186 N186
    · refine own_st (fun _ k => XS.ifYes X182.here hx rfl (pc0 := 178) (pc' := 187) rfl (hb hby at_178) rfl ((if0 _ _).trans (feq c183).2) (by decide) (by decide) k) ?_
      show own_Go p e below s _ _ _ (T182.setTop (mkF m 187 #[.val (.int pa), .val (.int pb), .val (.int pd), .val (.int pe), .val (.int pn), .val (.int (3 : Int32)), .val (.int c0), .val (.int c1), .val (.int c2), .val (.int c3), .val (.ref b157), .val (.ref b162), .val (.ref b166), .unset, .unset, .unset] []))
      refine own_st (fun _ k => XS.iload X182.here hx rfl (hb hby at_187) rfl k) ?_
      show own_Go p e below s _ _ _ (T182.setTop (mkF m 189 #[.val (.int pa), .val (.int pb), .val (.int pd), .val (.int pe), .val (.int pn), .val (.int (3 : Int32)), .val (.int c0), .val (.int c1), .val (.int c2), .val (.int c3), .val (.ref b157), .val (.ref b162), .val (.ref b166), .unset, .unset, .unset] [(.int (3 : Int32))]))
      refine own_st (fun _ k => XS.iconst X182.here hx rfl (hb hby at_189) k) ?_
      show own_Go p e below s _ _ _ (T182.setTop (mkF m 190 #[.val (.int pa), .val (.int pb), .val (.int pd), .val (.int pe), .val (.int pn), .val (.int (3 : Int32)), .val (.int c0), .val (.int c1), .val (.int c2), .val (.int c3), .val (.ref b157), .val (.ref b162), .val (.ref b166), .unset, .unset, .unset] [(.int (1 : Int32)), (.int (3 : Int32))]))
      refine own_st (fun _ k => XS.icmpNo X182.here hx rfl (hb hby at_190) rfl (tlt (by decide)).2.2.2 k) ?_
      show own_Go p e below s _ _ _ (T182.setTop (mkF m 193 #[.val (.int pa), .val (.int pb), .val (.int pd), .val (.int pe), .val (.int pn), .val (.int (3 : Int32)), .val (.int c0), .val (.int c1), .val (.int c2), .val (.int c3), .val (.ref b157), .val (.ref b162), .val (.ref b166), .unset, .unset, .unset] []))
      refine own_st (fun _ k => XS.iload X182.here hx rfl (hb hby at_193) rfl k) ?_
      show own_Go p e below s _ _ _ (T182.setTop (mkF m 195 #[.val (.int pa), .val (.int pb), .val (.int pd), .val (.int pe), .val (.int pn), .val (.int (3 : Int32)), .val (.int c0), .val (.int c1), .val (.int c2), .val (.int c3), .val (.ref b157), .val (.ref b162), .val (.ref b166), .unset, .unset, .unset] [(.int c1)]))
      obtain ⟨T188, v188, L188, h188, X188, e188, q188, st188⟩ := own_callS X182 hx hZ (y := (⟨"com/example/shelfproof/shelfproof/library/RequestsRequiredPinLaw", "ws", "(C)Z"⟩ : MethodName)) hown (hw _ (List.mem_of_getElem? (i := 30) rfl)) (hw _ (List.mem_of_getElem? (i := 31) rfl)) (hw _ (List.mem_of_getElem? (i := 32) rfl)) (hw _ (List.mem_of_getElem? (i := 33) rfl)) (by decide) (own_bk (W := 0) (wsW l Z a0 hw c1 h169 n0 O181) hZ (hw _ (List.mem_of_getElem? (i := 33) rfl)) (hw _ (List.mem_of_getElem? (i := 32) rfl)) (by decide) (by decide)) e182 (by decide) (by decide) (g := (mkF m 195 #[.val (.int pa), .val (.int pb), .val (.int pd), .val (.int pe), .val (.int pn), .val (.int (3 : Int32)), .val (.int c0), .val (.int c1), .val (.int c2), .val (.int c3), .val (.ref b157), .val (.ref b162), .val (.ref b166), .unset, .unset, .unset] [(.int c1)])) rfl (by rw [hml]; rfl) (argsL := [(.int c1)]) (rest := []) (lenOf pd__28C_29Z rfl) rfl rfl (by show 2 * 0 + _ ≤ _; exact Nat.le_of_eq rfl) (hb hby at_195)
      obtain ⟨rfl, N188q, hq188⟩ := q188
      replace e188 := e188.trans hq188
      refine own_st st188 ?_
      have N188 := Fr.app N182 N188q
      show own_Go p e below s _ _ _ (T188.setTop (mkF m 198 #[.val (.int pa), .val (.int pb), .val (.int pd), .val (.int pe), .val (.int pn), .val (.int (3 : Int32)), .val (.int c0), .val (.int c1), .val (.int c2), .val (.int c3), .val (.ref b157), .val (.ref b162), .val (.ref b166), .unset, .unset, .unset] [(.int (if own_ws c1 then (1 : Int32) else 0))]))
      by_cases c189 : (if own_ws c1 then (1 : Int32) else 0) = (0 : Int32)
      · refine own_st (fun _ k => XS.ifNo X188.here hx rfl (hb hby at_198) rfl ((if0 _ _).trans (teq c189).2) k) ?_
        show own_Go p e below s _ _ _ (T188.setTop (mkF m 201 #[.val (.int pa), .val (.int pb), .val (.int pd), .val (.int pe), .val (.int pn), .val (.int (3 : Int32)), .val (.int c0), .val (.int c1), .val (.int c2), .val (.int c3), .val (.ref b157), .val (.ref b162), .val (.ref b166), .unset, .unset, .unset] []))
        refine own_st (fun _ k => XS.iconst X188.here hx rfl (hb hby at_201) k) ?_
        show own_Go p e below s _ _ _ (T188.setTop (mkF m 202 #[.val (.int pa), .val (.int pb), .val (.int pd), .val (.int pe), .val (.int pn), .val (.int (3 : Int32)), .val (.int c0), .val (.int c1), .val (.int c2), .val (.int c3), .val (.ref b157), .val (.ref b162), .val (.ref b166), .unset, .unset, .unset] [(.int (1 : Int32))]))
        refine own_st (fun _ k => XS.istore X188.here hx rfl (hb hby at_202) rfl (l' := #[.val (.int pa), .val (.int pb), .val (.int pd), .val (.int pe), .val (.int pn), .val (.int (3 : Int32)), .val (.int c0), .val (.int c1), .val (.int c2), .val (.int c3), .val (.ref b157), .val (.ref b162), .val (.ref b166), .val (.int (1 : Int32)), .unset, .unset]) rfl k) ?_
        show own_Go p e below s _ _ _ (T188.setTop (mkF m 204 #[.val (.int pa), .val (.int pb), .val (.int pd), .val (.int pe), .val (.int pn), .val (.int (3 : Int32)), .val (.int c0), .val (.int c1), .val (.int c2), .val (.int c3), .val (.ref b157), .val (.ref b162), .val (.ref b166), .val (.int (1 : Int32)), .unset, .unset] []))
        refine own_st (fun _ k => XS.goto X188.here hx rfl (pc0 := 204) (pc' := 250) rfl (hb hby at_204) (by decide) (by decide) k) ?_
        show own_Go p e below s _ _ _ (T188.setTop (mkF m 250 #[.val (.int pa), .val (.int pb), .val (.int pd), .val (.int pe), .val (.int pn), .val (.int (3 : Int32)), .val (.int c0), .val (.int c1), .val (.int c2), .val (.int c3), .val (.ref b157), .val (.ref b162), .val (.ref b166), .val (.int (1 : Int32)), .unset, .unset] []))
        refine own_st (fun _ k => XS.iload X188.here hx rfl (hb hby at_250) rfl k) ?_
        show own_Go p e below s _ _ _ (T188.setTop (mkF m 252 #[.val (.int pa), .val (.int pb), .val (.int pd), .val (.int pe), .val (.int pn), .val (.int (3 : Int32)), .val (.int c0), .val (.int c1), .val (.int c2), .val (.int c3), .val (.ref b157), .val (.ref b162), .val (.ref b166), .val (.int (1 : Int32)), .unset, .unset] [(.int (1 : Int32))]))
        refine own_st (fun _ k => XS.ifYes X188.here hx rfl (pc0 := 252) (pc' := 257) rfl (hb hby at_252) rfl ((if0 _ _).trans (flt (by decide)).2.1) (by decide) (by decide) k) ?_
        show own_Go p e below s _ _ _ (T188.setTop (mkF m 257 #[.val (.int pa), .val (.int pb), .val (.int pd), .val (.int pe), .val (.int pn), .val (.int (3 : Int32)), .val (.int c0), .val (.int c1), .val (.int c2), .val (.int c3), .val (.ref b157), .val (.ref b162), .val (.ref b166), .val (.int (1 : Int32)), .unset, .unset] []))
        refine own_st (fun _ k => XS.iload X188.here hx rfl (hb hby at_257) rfl k) ?_
        show own_Go p e below s _ _ _ (T188.setTop (mkF m 259 #[.val (.int pa), .val (.int pb), .val (.int pd), .val (.int pe), .val (.int pn), .val (.int (3 : Int32)), .val (.int c0), .val (.int c1), .val (.int c2), .val (.int c3), .val (.ref b157), .val (.ref b162), .val (.ref b166), .val (.int (1 : Int32)), .unset, .unset] [(.int (3 : Int32))]))
        refine own_st (fun _ k => XS.iconst X188.here hx rfl (hb hby at_259) k) ?_
        show own_Go p e below s _ _ _ (T188.setTop (mkF m 260 #[.val (.int pa), .val (.int pb), .val (.int pd), .val (.int pe), .val (.int pn), .val (.int (3 : Int32)), .val (.int c0), .val (.int c1), .val (.int c2), .val (.int c3), .val (.ref b157), .val (.ref b162), .val (.ref b166), .val (.int (1 : Int32)), .unset, .unset] [(.int (3 : Int32)), (.int (3 : Int32))]))
        refine own_st (fun _ k => XS.icmpYes X188.here hx rfl (pc0 := 260) (pc' := 277) rfl (hb hby at_260) rfl (flt (by decide)).2.2.2 (by decide) (by decide) k) ?_
        show own_Go p e below s _ _ _ (T188.setTop (mkF m 277 #[.val (.int pa), .val (.int pb), .val (.int pd), .val (.int pe), .val (.int pn), .val (.int (3 : Int32)), .val (.int c0), .val (.int c1), .val (.int c2), .val (.int c3), .val (.ref b157), .val (.ref b162), .val (.ref b166), .val (.int (1 : Int32)), .unset, .unset] []))
        refine own_st (fun _ k => XS.iload X188.here hx rfl (hb hby at_277) rfl k) ?_
        show own_Go p e below s _ _ _ (T188.setTop (mkF m 279 #[.val (.int pa), .val (.int pb), .val (.int pd), .val (.int pe), .val (.int pn), .val (.int (3 : Int32)), .val (.int c0), .val (.int c1), .val (.int c2), .val (.int c3), .val (.ref b157), .val (.ref b162), .val (.ref b166), .val (.int (1 : Int32)), .unset, .unset] [(.int (3 : Int32))]))
        refine own_st (fun _ k => XS.iconst X188.here hx rfl (hb hby at_279) k) ?_
        show own_Go p e below s _ _ _ (T188.setTop (mkF m 280 #[.val (.int pa), .val (.int pb), .val (.int pd), .val (.int pe), .val (.int pn), .val (.int (3 : Int32)), .val (.int c0), .val (.int c1), .val (.int c2), .val (.int c3), .val (.ref b157), .val (.ref b162), .val (.ref b166), .val (.int (1 : Int32)), .unset, .unset] [(.int (2 : Int32)), (.int (3 : Int32))]))
        refine own_st (fun _ k => XS.icmpNo X188.here hx rfl (hb hby at_280) rfl (tlt (by decide)).2.2.2 k) ?_
        show own_Go p e below s _ _ _ (T188.setTop (mkF m 283 #[.val (.int pa), .val (.int pb), .val (.int pd), .val (.int pe), .val (.int pn), .val (.int (3 : Int32)), .val (.int c0), .val (.int c1), .val (.int c2), .val (.int c3), .val (.ref b157), .val (.ref b162), .val (.ref b166), .val (.int (1 : Int32)), .unset, .unset] []))
        refine own_st (fun _ k => XS.iload X188.here hx rfl (hb hby at_283) rfl k) ?_
        show own_Go p e below s _ _ _ (T188.setTop (mkF m 285 #[.val (.int pa), .val (.int pb), .val (.int pd), .val (.int pe), .val (.int pn), .val (.int (3 : Int32)), .val (.int c0), .val (.int c1), .val (.int c2), .val (.int c3), .val (.ref b157), .val (.ref b162), .val (.ref b166), .val (.int (1 : Int32)), .unset, .unset] [(.int c2)]))
        obtain ⟨T190, v190, L190, h190, X190, e190, q190, st190⟩ := own_callS X188 hx hZ (y := (⟨"com/example/shelfproof/shelfproof/library/RequestsRequiredPinLaw", "ws", "(C)Z"⟩ : MethodName)) hown (hw _ (List.mem_of_getElem? (i := 30) rfl)) (hw _ (List.mem_of_getElem? (i := 31) rfl)) (hw _ (List.mem_of_getElem? (i := 32) rfl)) (hw _ (List.mem_of_getElem? (i := 33) rfl)) (by decide) (own_bk (W := 0) (wsW l Z a0 hw c2 h169 n0 O181) hZ (hw _ (List.mem_of_getElem? (i := 33) rfl)) (hw _ (List.mem_of_getElem? (i := 32) rfl)) (by decide) (by decide)) e188 (by decide) (by decide) (g := (mkF m 285 #[.val (.int pa), .val (.int pb), .val (.int pd), .val (.int pe), .val (.int pn), .val (.int (3 : Int32)), .val (.int c0), .val (.int c1), .val (.int c2), .val (.int c3), .val (.ref b157), .val (.ref b162), .val (.ref b166), .val (.int (1 : Int32)), .unset, .unset] [(.int c2)])) rfl (by rw [hml]; rfl) (argsL := [(.int c2)]) (rest := []) (lenOf pd__28C_29Z rfl) rfl rfl (by show 2 * 0 + _ ≤ _; exact Nat.le_of_eq rfl) (hb hby at_285)
        obtain ⟨rfl, N190q, hq190⟩ := q190
        replace e190 := e190.trans hq190
        refine own_st st190 ?_
        have N190 := Fr.app N188 N190q
        show own_Go p e below s _ _ _ (T190.setTop (mkF m 288 #[.val (.int pa), .val (.int pb), .val (.int pd), .val (.int pe), .val (.int pn), .val (.int (3 : Int32)), .val (.int c0), .val (.int c1), .val (.int c2), .val (.int c3), .val (.ref b157), .val (.ref b162), .val (.ref b166), .val (.int (1 : Int32)), .unset, .unset] [(.int (if own_ws c2 then (1 : Int32) else 0))]))
        by_cases c191 : (if own_ws c2 then (1 : Int32) else 0) = (0 : Int32)
        · refine own_st (fun _ k => XS.ifNo X190.here hx rfl (hb hby at_288) rfl ((if0 _ _).trans (teq c191).2) k) ?_
          show own_Go p e below s _ _ _ (T190.setTop (mkF m 291 #[.val (.int pa), .val (.int pb), .val (.int pd), .val (.int pe), .val (.int pn), .val (.int (3 : Int32)), .val (.int c0), .val (.int c1), .val (.int c2), .val (.int c3), .val (.ref b157), .val (.ref b162), .val (.ref b166), .val (.int (1 : Int32)), .unset, .unset] []))
          refine own_st (fun _ k => XS.iconst X190.here hx rfl (hb hby at_291) k) ?_
          show own_Go p e below s _ _ _ (T190.setTop (mkF m 292 #[.val (.int pa), .val (.int pb), .val (.int pd), .val (.int pe), .val (.int pn), .val (.int (3 : Int32)), .val (.int c0), .val (.int c1), .val (.int c2), .val (.int c3), .val (.ref b157), .val (.ref b162), .val (.ref b166), .val (.int (1 : Int32)), .unset, .unset] [(.int (2 : Int32))]))
          refine own_st (fun _ k => XS.istore X190.here hx rfl (hb hby at_292) rfl (l' := #[.val (.int pa), .val (.int pb), .val (.int pd), .val (.int pe), .val (.int pn), .val (.int (3 : Int32)), .val (.int c0), .val (.int c1), .val (.int c2), .val (.int c3), .val (.ref b157), .val (.ref b162), .val (.ref b166), .val (.int (1 : Int32)), .val (.int (2 : Int32)), .unset]) rfl k) ?_
          show own_Go p e below s _ _ _ (T190.setTop (mkF m 294 #[.val (.int pa), .val (.int pb), .val (.int pd), .val (.int pe), .val (.int pn), .val (.int (3 : Int32)), .val (.int c0), .val (.int c1), .val (.int c2), .val (.int c3), .val (.ref b157), .val (.ref b162), .val (.ref b166), .val (.int (1 : Int32)), .val (.int (2 : Int32)), .unset] []))
          refine own_st (fun _ k => XS.goto X190.here hx rfl (pc0 := 294) (pc' := 320) rfl (hb hby at_294) (by decide) (by decide) k) ?_
          show own_Go p e below s _ _ _ (T190.setTop (mkF m 320 #[.val (.int pa), .val (.int pb), .val (.int pd), .val (.int pe), .val (.int pn), .val (.int (3 : Int32)), .val (.int c0), .val (.int c1), .val (.int c2), .val (.int c3), .val (.ref b157), .val (.ref b162), .val (.ref b166), .val (.int (1 : Int32)), .val (.int (2 : Int32)), .unset] []))
          exact G170 _ _ 1 2 (by decide) (fun j hj => match j, (show 0 ≤ j ∧ j < 1 from by omega) with | 0, _ => (own_ifT c183)) (own_ifF c189) (by decide) (by decide) (fun j hj hj2 => absurd hj2 (by omega)) (own_ifF c191) X190 e190 N190
        · refine own_st (fun _ k => XS.ifYes X190.here hx rfl (pc0 := 288) (pc' := 297) rfl (hb hby at_288) rfl ((if0 _ _).trans (feq c191).2) (by decide) (by decide) k) ?_
          show own_Go p e below s _ _ _ (T190.setTop (mkF m 297 #[.val (.int pa), .val (.int pb), .val (.int pd), .val (.int pe), .val (.int pn), .val (.int (3 : Int32)), .val (.int c0), .val (.int c1), .val (.int c2), .val (.int c3), .val (.ref b157), .val (.ref b162), .val (.ref b166), .val (.int (1 : Int32)), .unset, .unset] []))
          refine own_st (fun _ k => XS.iload X190.here hx rfl (hb hby at_297) rfl k) ?_
          show own_Go p e below s _ _ _ (T190.setTop (mkF m 299 #[.val (.int pa), .val (.int pb), .val (.int pd), .val (.int pe), .val (.int pn), .val (.int (3 : Int32)), .val (.int c0), .val (.int c1), .val (.int c2), .val (.int c3), .val (.ref b157), .val (.ref b162), .val (.ref b166), .val (.int (1 : Int32)), .unset, .unset] [(.int (3 : Int32))]))
          refine own_st (fun _ k => XS.iconst X190.here hx rfl (hb hby at_299) k) ?_
          show own_Go p e below s _ _ _ (T190.setTop (mkF m 300 #[.val (.int pa), .val (.int pb), .val (.int pd), .val (.int pe), .val (.int pn), .val (.int (3 : Int32)), .val (.int c0), .val (.int c1), .val (.int c2), .val (.int c3), .val (.ref b157), .val (.ref b162), .val (.ref b166), .val (.int (1 : Int32)), .unset, .unset] [(.int (1 : Int32)), (.int (3 : Int32))]))
          refine own_st (fun _ k => XS.icmpNo X190.here hx rfl (hb hby at_300) rfl (tlt (by decide)).2.2.2 k) ?_
          show own_Go p e below s _ _ _ (T190.setTop (mkF m 303 #[.val (.int pa), .val (.int pb), .val (.int pd), .val (.int pe), .val (.int pn), .val (.int (3 : Int32)), .val (.int c0), .val (.int c1), .val (.int c2), .val (.int c3), .val (.ref b157), .val (.ref b162), .val (.ref b166), .val (.int (1 : Int32)), .unset, .unset] []))
          refine own_st (fun _ k => XS.iload X190.here hx rfl (hb hby at_303) rfl k) ?_
          show own_Go p e below s _ _ _ (T190.setTop (mkF m 305 #[.val (.int pa), .val (.int pb), .val (.int pd), .val (.int pe), .val (.int pn), .val (.int (3 : Int32)), .val (.int c0), .val (.int c1), .val (.int c2), .val (.int c3), .val (.ref b157), .val (.ref b162), .val (.ref b166), .val (.int (1 : Int32)), .unset, .unset] [(.int c1)]))
          obtain ⟨T192, v192, L192, h192, X192, e192, q192, st192⟩ := own_callS X190 hx hZ (y := (⟨"com/example/shelfproof/shelfproof/library/RequestsRequiredPinLaw", "ws", "(C)Z"⟩ : MethodName)) hown (hw _ (List.mem_of_getElem? (i := 30) rfl)) (hw _ (List.mem_of_getElem? (i := 31) rfl)) (hw _ (List.mem_of_getElem? (i := 32) rfl)) (hw _ (List.mem_of_getElem? (i := 33) rfl)) (by decide) (own_bk (W := 0) (wsW l Z a0 hw c1 h169 n0 O181) hZ (hw _ (List.mem_of_getElem? (i := 33) rfl)) (hw _ (List.mem_of_getElem? (i := 32) rfl)) (by decide) (by decide)) e190 (by decide) (by decide) (g := (mkF m 305 #[.val (.int pa), .val (.int pb), .val (.int pd), .val (.int pe), .val (.int pn), .val (.int (3 : Int32)), .val (.int c0), .val (.int c1), .val (.int c2), .val (.int c3), .val (.ref b157), .val (.ref b162), .val (.ref b166), .val (.int (1 : Int32)), .unset, .unset] [(.int c1)])) rfl (by rw [hml]; rfl) (argsL := [(.int c1)]) (rest := []) (lenOf pd__28C_29Z rfl) rfl rfl (by show 2 * 0 + _ ≤ _; exact Nat.le_of_eq rfl) (hb hby at_305)
          obtain ⟨rfl, N192q, hq192⟩ := q192
          replace e192 := e192.trans hq192
          refine own_st st192 ?_
          have N192 := Fr.app N190 N192q
          show own_Go p e below s _ _ _ (T192.setTop (mkF m 308 #[.val (.int pa), .val (.int pb), .val (.int pd), .val (.int pe), .val (.int pn), .val (.int (3 : Int32)), .val (.int c0), .val (.int c1), .val (.int c2), .val (.int c3), .val (.ref b157), .val (.ref b162), .val (.ref b166), .val (.int (1 : Int32)), .unset, .unset] [(.int (if own_ws c1 then (1 : Int32) else 0))]))
          refine own_st (fun _ k => XS.ifNo X192.here hx rfl (hb hby at_308) rfl ((if0 _ _).trans (teq c189).2) k) ?_
          show own_Go p e below s _ _ _ (T192.setTop (mkF m 311 #[.val (.int pa), .val (.int pb), .val (.int pd), .val (.int pe), .val (.int pn), .val (.int (3 : Int32)), .val (.int c0), .val (.int c1), .val (.int c2), .val (.int c3), .val (.ref b157), .val (.ref b162), .val (.ref b166), .val (.int (1 : Int32)), .unset, .unset] []))
          refine own_st (fun _ k => XS.iconst X192.here hx rfl (hb hby at_311) k) ?_
          show own_Go p e below s _ _ _ (T192.setTop (mkF m 312 #[.val (.int pa), .val (.int pb), .val (.int pd), .val (.int pe), .val (.int pn), .val (.int (3 : Int32)), .val (.int c0), .val (.int c1), .val (.int c2), .val (.int c3), .val (.ref b157), .val (.ref b162), .val (.ref b166), .val (.int (1 : Int32)), .unset, .unset] [(.int (1 : Int32))]))
          refine own_st (fun _ k => XS.istore X192.here hx rfl (hb hby at_312) rfl (l' := #[.val (.int pa), .val (.int pb), .val (.int pd), .val (.int pe), .val (.int pn), .val (.int (3 : Int32)), .val (.int c0), .val (.int c1), .val (.int c2), .val (.int c3), .val (.ref b157), .val (.ref b162), .val (.ref b166), .val (.int (1 : Int32)), .val (.int (1 : Int32)), .unset]) rfl k) ?_
          show own_Go p e below s _ _ _ (T192.setTop (mkF m 314 #[.val (.int pa), .val (.int pb), .val (.int pd), .val (.int pe), .val (.int pn), .val (.int (3 : Int32)), .val (.int c0), .val (.int c1), .val (.int c2), .val (.int c3), .val (.ref b157), .val (.ref b162), .val (.ref b166), .val (.int (1 : Int32)), .val (.int (1 : Int32)), .unset] []))
          refine own_st (fun _ k => XS.goto X192.here hx rfl (pc0 := 314) (pc' := 320) rfl (hb hby at_314) (by decide) (by decide) k) ?_
          show own_Go p e below s _ _ _ (T192.setTop (mkF m 320 #[.val (.int pa), .val (.int pb), .val (.int pd), .val (.int pe), .val (.int pn), .val (.int (3 : Int32)), .val (.int c0), .val (.int c1), .val (.int c2), .val (.int c3), .val (.ref b157), .val (.ref b162), .val (.ref b166), .val (.int (1 : Int32)), .val (.int (1 : Int32)), .unset] []))
          exact G170 _ _ 1 1 (by decide) (fun j hj => match j, (show 0 ≤ j ∧ j < 1 from by omega) with | 0, _ => (own_ifT c183)) (own_ifF c189) (by decide) (by decide) (fun j hj hj2 => match j, (show 2 ≤ j ∧ j < 3 from by omega) with | 2, _ => (own_ifT c191)) (own_ifF c189) X192 e192 N192
      · refine own_st (fun _ k => XS.ifYes X188.here hx rfl (pc0 := 198) (pc' := 207) rfl (hb hby at_198) rfl ((if0 _ _).trans (feq c189).2) (by decide) (by decide) k) ?_
        show own_Go p e below s _ _ _ (T188.setTop (mkF m 207 #[.val (.int pa), .val (.int pb), .val (.int pd), .val (.int pe), .val (.int pn), .val (.int (3 : Int32)), .val (.int c0), .val (.int c1), .val (.int c2), .val (.int c3), .val (.ref b157), .val (.ref b162), .val (.ref b166), .unset, .unset, .unset] []))
        refine own_st (fun _ k => XS.iload X188.here hx rfl (hb hby at_207) rfl k) ?_
        show own_Go p e below s _ _ _ (T188.setTop (mkF m 209 #[.val (.int pa), .val (.int pb), .val (.int pd), .val (.int pe), .val (.int pn), .val (.int (3 : Int32)), .val (.int c0), .val (.int c1), .val (.int c2), .val (.int c3), .val (.ref b157), .val (.ref b162), .val (.ref b166), .unset, .unset, .unset] [(.int (3 : Int32))]))
        refine own_st (fun _ k => XS.iconst X188.here hx rfl (hb hby at_209) k) ?_
        show own_Go p e below s _ _ _ (T188.setTop (mkF m 210 #[.val (.int pa), .val (.int pb), .val (.int pd), .val (.int pe), .val (.int pn), .val (.int (3 : Int32)), .val (.int c0), .val (.int c1), .val (.int c2), .val (.int c3), .val (.ref b157), .val (.ref b162), .val (.ref b166), .unset, .unset, .unset] [(.int (2 : Int32)), (.int (3 : Int32))]))
        refine own_st (fun _ k => XS.icmpNo X188.here hx rfl (hb hby at_210) rfl (tlt (by decide)).2.2.2 k) ?_
        show own_Go p e below s _ _ _ (T188.setTop (mkF m 213 #[.val (.int pa), .val (.int pb), .val (.int pd), .val (.int pe), .val (.int pn), .val (.int (3 : Int32)), .val (.int c0), .val (.int c1), .val (.int c2), .val (.int c3), .val (.ref b157), .val (.ref b162), .val (.ref b166), .unset, .unset, .unset] []))
        refine own_st (fun _ k => XS.iload X188.here hx rfl (hb hby at_213) rfl k) ?_
        show own_Go p e below s _ _ _ (T188.setTop (mkF m 215 #[.val (.int pa), .val (.int pb), .val (.int pd), .val (.int pe), .val (.int pn), .val (.int (3 : Int32)), .val (.int c0), .val (.int c1), .val (.int c2), .val (.int c3), .val (.ref b157), .val (.ref b162), .val (.ref b166), .unset, .unset, .unset] [(.int c2)]))
        obtain ⟨T193, v193, L193, h193, X193, e193, q193, st193⟩ := own_callS X188 hx hZ (y := (⟨"com/example/shelfproof/shelfproof/library/RequestsRequiredPinLaw", "ws", "(C)Z"⟩ : MethodName)) hown (hw _ (List.mem_of_getElem? (i := 30) rfl)) (hw _ (List.mem_of_getElem? (i := 31) rfl)) (hw _ (List.mem_of_getElem? (i := 32) rfl)) (hw _ (List.mem_of_getElem? (i := 33) rfl)) (by decide) (own_bk (W := 0) (wsW l Z a0 hw c2 h169 n0 O181) hZ (hw _ (List.mem_of_getElem? (i := 33) rfl)) (hw _ (List.mem_of_getElem? (i := 32) rfl)) (by decide) (by decide)) e188 (by decide) (by decide) (g := (mkF m 215 #[.val (.int pa), .val (.int pb), .val (.int pd), .val (.int pe), .val (.int pn), .val (.int (3 : Int32)), .val (.int c0), .val (.int c1), .val (.int c2), .val (.int c3), .val (.ref b157), .val (.ref b162), .val (.ref b166), .unset, .unset, .unset] [(.int c2)])) rfl (by rw [hml]; rfl) (argsL := [(.int c2)]) (rest := []) (lenOf pd__28C_29Z rfl) rfl rfl (by show 2 * 0 + _ ≤ _; exact Nat.le_of_eq rfl) (hb hby at_215)
        obtain ⟨rfl, N193q, hq193⟩ := q193
        replace e193 := e193.trans hq193
        refine own_st st193 ?_
        have N193 := Fr.app N188 N193q
        show own_Go p e below s _ _ _ (T193.setTop (mkF m 218 #[.val (.int pa), .val (.int pb), .val (.int pd), .val (.int pe), .val (.int pn), .val (.int (3 : Int32)), .val (.int c0), .val (.int c1), .val (.int c2), .val (.int c3), .val (.ref b157), .val (.ref b162), .val (.ref b166), .unset, .unset, .unset] [(.int (if own_ws c2 then (1 : Int32) else 0))]))
        by_cases c194 : (if own_ws c2 then (1 : Int32) else 0) = (0 : Int32)
        · refine own_st (fun _ k => XS.ifNo X193.here hx rfl (hb hby at_218) rfl ((if0 _ _).trans (teq c194).2) k) ?_
          show own_Go p e below s _ _ _ (T193.setTop (mkF m 221 #[.val (.int pa), .val (.int pb), .val (.int pd), .val (.int pe), .val (.int pn), .val (.int (3 : Int32)), .val (.int c0), .val (.int c1), .val (.int c2), .val (.int c3), .val (.ref b157), .val (.ref b162), .val (.ref b166), .unset, .unset, .unset] []))
          refine own_st (fun _ k => XS.iconst X193.here hx rfl (hb hby at_221) k) ?_
          show own_Go p e below s _ _ _ (T193.setTop (mkF m 222 #[.val (.int pa), .val (.int pb), .val (.int pd), .val (.int pe), .val (.int pn), .val (.int (3 : Int32)), .val (.int c0), .val (.int c1), .val (.int c2), .val (.int c3), .val (.ref b157), .val (.ref b162), .val (.ref b166), .unset, .unset, .unset] [(.int (2 : Int32))]))
          refine own_st (fun _ k => XS.istore X193.here hx rfl (hb hby at_222) rfl (l' := #[.val (.int pa), .val (.int pb), .val (.int pd), .val (.int pe), .val (.int pn), .val (.int (3 : Int32)), .val (.int c0), .val (.int c1), .val (.int c2), .val (.int c3), .val (.ref b157), .val (.ref b162), .val (.ref b166), .val (.int (2 : Int32)), .unset, .unset]) rfl k) ?_
          show own_Go p e below s _ _ _ (T193.setTop (mkF m 224 #[.val (.int pa), .val (.int pb), .val (.int pd), .val (.int pe), .val (.int pn), .val (.int (3 : Int32)), .val (.int c0), .val (.int c1), .val (.int c2), .val (.int c3), .val (.ref b157), .val (.ref b162), .val (.ref b166), .val (.int (2 : Int32)), .unset, .unset] []))
          refine own_st (fun _ k => XS.goto X193.here hx rfl (pc0 := 224) (pc' := 250) rfl (hb hby at_224) (by decide) (by decide) k) ?_
          show own_Go p e below s _ _ _ (T193.setTop (mkF m 250 #[.val (.int pa), .val (.int pb), .val (.int pd), .val (.int pe), .val (.int pn), .val (.int (3 : Int32)), .val (.int c0), .val (.int c1), .val (.int c2), .val (.int c3), .val (.ref b157), .val (.ref b162), .val (.ref b166), .val (.int (2 : Int32)), .unset, .unset] []))
          refine own_st (fun _ k => XS.iload X193.here hx rfl (hb hby at_250) rfl k) ?_
          show own_Go p e below s _ _ _ (T193.setTop (mkF m 252 #[.val (.int pa), .val (.int pb), .val (.int pd), .val (.int pe), .val (.int pn), .val (.int (3 : Int32)), .val (.int c0), .val (.int c1), .val (.int c2), .val (.int c3), .val (.ref b157), .val (.ref b162), .val (.ref b166), .val (.int (2 : Int32)), .unset, .unset] [(.int (2 : Int32))]))
          refine own_st (fun _ k => XS.ifYes X193.here hx rfl (pc0 := 252) (pc' := 257) rfl (hb hby at_252) rfl ((if0 _ _).trans (flt (by decide)).2.1) (by decide) (by decide) k) ?_
          show own_Go p e below s _ _ _ (T193.setTop (mkF m 257 #[.val (.int pa), .val (.int pb), .val (.int pd), .val (.int pe), .val (.int pn), .val (.int (3 : Int32)), .val (.int c0), .val (.int c1), .val (.int c2), .val (.int c3), .val (.ref b157), .val (.ref b162), .val (.ref b166), .val (.int (2 : Int32)), .unset, .unset] []))
          refine own_st (fun _ k => XS.iload X193.here hx rfl (hb hby at_257) rfl k) ?_
          show own_Go p e below s _ _ _ (T193.setTop (mkF m 259 #[.val (.int pa), .val (.int pb), .val (.int pd), .val (.int pe), .val (.int pn), .val (.int (3 : Int32)), .val (.int c0), .val (.int c1), .val (.int c2), .val (.int c3), .val (.ref b157), .val (.ref b162), .val (.ref b166), .val (.int (2 : Int32)), .unset, .unset] [(.int (3 : Int32))]))
          refine own_st (fun _ k => XS.iconst X193.here hx rfl (hb hby at_259) k) ?_
          show own_Go p e below s _ _ _ (T193.setTop (mkF m 260 #[.val (.int pa), .val (.int pb), .val (.int pd), .val (.int pe), .val (.int pn), .val (.int (3 : Int32)), .val (.int c0), .val (.int c1), .val (.int c2), .val (.int c3), .val (.ref b157), .val (.ref b162), .val (.ref b166), .val (.int (2 : Int32)), .unset, .unset] [(.int (3 : Int32)), (.int (3 : Int32))]))
          refine own_st (fun _ k => XS.icmpYes X193.here hx rfl (pc0 := 260) (pc' := 277) rfl (hb hby at_260) rfl (flt (by decide)).2.2.2 (by decide) (by decide) k) ?_
          show own_Go p e below s _ _ _ (T193.setTop (mkF m 277 #[.val (.int pa), .val (.int pb), .val (.int pd), .val (.int pe), .val (.int pn), .val (.int (3 : Int32)), .val (.int c0), .val (.int c1), .val (.int c2), .val (.int c3), .val (.ref b157), .val (.ref b162), .val (.ref b166), .val (.int (2 : Int32)), .unset, .unset] []))
          refine own_st (fun _ k => XS.iload X193.here hx rfl (hb hby at_277) rfl k) ?_
          show own_Go p e below s _ _ _ (T193.setTop (mkF m 279 #[.val (.int pa), .val (.int pb), .val (.int pd), .val (.int pe), .val (.int pn), .val (.int (3 : Int32)), .val (.int c0), .val (.int c1), .val (.int c2), .val (.int c3), .val (.ref b157), .val (.ref b162), .val (.ref b166), .val (.int (2 : Int32)), .unset, .unset] [(.int (3 : Int32))]))
          refine own_st (fun _ k => XS.iconst X193.here hx rfl (hb hby at_279) k) ?_
          show own_Go p e below s _ _ _ (T193.setTop (mkF m 280 #[.val (.int pa), .val (.int pb), .val (.int pd), .val (.int pe), .val (.int pn), .val (.int (3 : Int32)), .val (.int c0), .val (.int c1), .val (.int c2), .val (.int c3), .val (.ref b157), .val (.ref b162), .val (.ref b166), .val (.int (2 : Int32)), .unset, .unset] [(.int (2 : Int32)), (.int (3 : Int32))]))
          refine own_st (fun _ k => XS.icmpNo X193.here hx rfl (hb hby at_280) rfl (tlt (by decide)).2.2.2 k) ?_
          show own_Go p e below s _ _ _ (T193.setTop (mkF m 283 #[.val (.int pa), .val (.int pb), .val (.int pd), .val (.int pe), .val (.int pn), .val (.int (3 : Int32)), .val (.int c0), .val (.int c1), .val (.int c2), .val (.int c3), .val (.ref b157), .val (.ref b162), .val (.ref b166), .val (.int (2 : Int32)), .unset, .unset] []))
          refine own_st (fun _ k => XS.iload X193.here hx rfl (hb hby at_283) rfl k) ?_
          show own_Go p e below s _ _ _ (T193.setTop (mkF m 285 #[.val (.int pa), .val (.int pb), .val (.int pd), .val (.int pe), .val (.int pn), .val (.int (3 : Int32)), .val (.int c0), .val (.int c1), .val (.int c2), .val (.int c3), .val (.ref b157), .val (.ref b162), .val (.ref b166), .val (.int (2 : Int32)), .unset, .unset] [(.int c2)]))
          obtain ⟨T195, v195, L195, h195, X195, e195, q195, st195⟩ := own_callS X193 hx hZ (y := (⟨"com/example/shelfproof/shelfproof/library/RequestsRequiredPinLaw", "ws", "(C)Z"⟩ : MethodName)) hown (hw _ (List.mem_of_getElem? (i := 30) rfl)) (hw _ (List.mem_of_getElem? (i := 31) rfl)) (hw _ (List.mem_of_getElem? (i := 32) rfl)) (hw _ (List.mem_of_getElem? (i := 33) rfl)) (by decide) (own_bk (W := 0) (wsW l Z a0 hw c2 h169 n0 O181) hZ (hw _ (List.mem_of_getElem? (i := 33) rfl)) (hw _ (List.mem_of_getElem? (i := 32) rfl)) (by decide) (by decide)) e193 (by decide) (by decide) (g := (mkF m 285 #[.val (.int pa), .val (.int pb), .val (.int pd), .val (.int pe), .val (.int pn), .val (.int (3 : Int32)), .val (.int c0), .val (.int c1), .val (.int c2), .val (.int c3), .val (.ref b157), .val (.ref b162), .val (.ref b166), .val (.int (2 : Int32)), .unset, .unset] [(.int c2)])) rfl (by rw [hml]; rfl) (argsL := [(.int c2)]) (rest := []) (lenOf pd__28C_29Z rfl) rfl rfl (by show 2 * 0 + _ ≤ _; exact Nat.le_of_eq rfl) (hb hby at_285)
          obtain ⟨rfl, N195q, hq195⟩ := q195
          replace e195 := e195.trans hq195
          refine own_st st195 ?_
          have N195 := Fr.app N193 N195q
          show own_Go p e below s _ _ _ (T195.setTop (mkF m 288 #[.val (.int pa), .val (.int pb), .val (.int pd), .val (.int pe), .val (.int pn), .val (.int (3 : Int32)), .val (.int c0), .val (.int c1), .val (.int c2), .val (.int c3), .val (.ref b157), .val (.ref b162), .val (.ref b166), .val (.int (2 : Int32)), .unset, .unset] [(.int (if own_ws c2 then (1 : Int32) else 0))]))
          refine own_st (fun _ k => XS.ifNo X195.here hx rfl (hb hby at_288) rfl ((if0 _ _).trans (teq c194).2) k) ?_
          show own_Go p e below s _ _ _ (T195.setTop (mkF m 291 #[.val (.int pa), .val (.int pb), .val (.int pd), .val (.int pe), .val (.int pn), .val (.int (3 : Int32)), .val (.int c0), .val (.int c1), .val (.int c2), .val (.int c3), .val (.ref b157), .val (.ref b162), .val (.ref b166), .val (.int (2 : Int32)), .unset, .unset] []))
          refine own_st (fun _ k => XS.iconst X195.here hx rfl (hb hby at_291) k) ?_
          show own_Go p e below s _ _ _ (T195.setTop (mkF m 292 #[.val (.int pa), .val (.int pb), .val (.int pd), .val (.int pe), .val (.int pn), .val (.int (3 : Int32)), .val (.int c0), .val (.int c1), .val (.int c2), .val (.int c3), .val (.ref b157), .val (.ref b162), .val (.ref b166), .val (.int (2 : Int32)), .unset, .unset] [(.int (2 : Int32))]))
          refine own_st (fun _ k => XS.istore X195.here hx rfl (hb hby at_292) rfl (l' := #[.val (.int pa), .val (.int pb), .val (.int pd), .val (.int pe), .val (.int pn), .val (.int (3 : Int32)), .val (.int c0), .val (.int c1), .val (.int c2), .val (.int c3), .val (.ref b157), .val (.ref b162), .val (.ref b166), .val (.int (2 : Int32)), .val (.int (2 : Int32)), .unset]) rfl k) ?_
          show own_Go p e below s _ _ _ (T195.setTop (mkF m 294 #[.val (.int pa), .val (.int pb), .val (.int pd), .val (.int pe), .val (.int pn), .val (.int (3 : Int32)), .val (.int c0), .val (.int c1), .val (.int c2), .val (.int c3), .val (.ref b157), .val (.ref b162), .val (.ref b166), .val (.int (2 : Int32)), .val (.int (2 : Int32)), .unset] []))
          refine own_st (fun _ k => XS.goto X195.here hx rfl (pc0 := 294) (pc' := 320) rfl (hb hby at_294) (by decide) (by decide) k) ?_
          show own_Go p e below s _ _ _ (T195.setTop (mkF m 320 #[.val (.int pa), .val (.int pb), .val (.int pd), .val (.int pe), .val (.int pn), .val (.int (3 : Int32)), .val (.int c0), .val (.int c1), .val (.int c2), .val (.int c3), .val (.ref b157), .val (.ref b162), .val (.ref b166), .val (.int (2 : Int32)), .val (.int (2 : Int32)), .unset] []))
          exact G170 _ _ 2 2 (by decide) (fun j hj => match j, (show 0 ≤ j ∧ j < 2 from by omega) with | 0, _ => (own_ifT c183) | 1, _ => (own_ifT c189)) (own_ifF c194) (by decide) (by decide) (fun j hj hj2 => absurd hj2 (by omega)) (own_ifF c194) X195 e195 N195
        · refine own_st (fun _ k => XS.ifYes X193.here hx rfl (pc0 := 218) (pc' := 227) rfl (hb hby at_218) rfl ((if0 _ _).trans (feq c194).2) (by decide) (by decide) k) ?_
          show own_Go p e below s _ _ _ (T193.setTop (mkF m 227 #[.val (.int pa), .val (.int pb), .val (.int pd), .val (.int pe), .val (.int pn), .val (.int (3 : Int32)), .val (.int c0), .val (.int c1), .val (.int c2), .val (.int c3), .val (.ref b157), .val (.ref b162), .val (.ref b166), .unset, .unset, .unset] []))
          refine own_st (fun _ k => XS.iload X193.here hx rfl (hb hby at_227) rfl k) ?_
          show own_Go p e below s _ _ _ (T193.setTop (mkF m 229 #[.val (.int pa), .val (.int pb), .val (.int pd), .val (.int pe), .val (.int pn), .val (.int (3 : Int32)), .val (.int c0), .val (.int c1), .val (.int c2), .val (.int c3), .val (.ref b157), .val (.ref b162), .val (.ref b166), .unset, .unset, .unset] [(.int (3 : Int32))]))
          refine own_st (fun _ k => XS.iconst X193.here hx rfl (hb hby at_229) k) ?_
          show own_Go p e below s _ _ _ (T193.setTop (mkF m 230 #[.val (.int pa), .val (.int pb), .val (.int pd), .val (.int pe), .val (.int pn), .val (.int (3 : Int32)), .val (.int c0), .val (.int c1), .val (.int c2), .val (.int c3), .val (.ref b157), .val (.ref b162), .val (.ref b166), .unset, .unset, .unset] [(.int (3 : Int32)), (.int (3 : Int32))]))
          refine own_st (fun _ k => XS.icmpYes X193.here hx rfl (pc0 := 230) (pc' := 247) rfl (hb hby at_230) rfl (flt (by decide)).2.2.2 (by decide) (by decide) k) ?_
          show own_Go p e below s _ _ _ (T193.setTop (mkF m 247 #[.val (.int pa), .val (.int pb), .val (.int pd), .val (.int pe), .val (.int pn), .val (.int (3 : Int32)), .val (.int c0), .val (.int c1), .val (.int c2), .val (.int c3), .val (.ref b157), .val (.ref b162), .val (.ref b166), .unset, .unset, .unset] []))
          refine own_st (fun _ k => XS.iconst X193.here hx rfl (hb hby at_247) k) ?_
          show own_Go p e below s _ _ _ (T193.setTop (mkF m 248 #[.val (.int pa), .val (.int pb), .val (.int pd), .val (.int pe), .val (.int pn), .val (.int (3 : Int32)), .val (.int c0), .val (.int c1), .val (.int c2), .val (.int c3), .val (.ref b157), .val (.ref b162), .val (.ref b166), .unset, .unset, .unset] [(.int (-1 : Int32))]))
          refine own_st (fun _ k => XS.istore X193.here hx rfl (hb hby at_248) rfl (l' := #[.val (.int pa), .val (.int pb), .val (.int pd), .val (.int pe), .val (.int pn), .val (.int (3 : Int32)), .val (.int c0), .val (.int c1), .val (.int c2), .val (.int c3), .val (.ref b157), .val (.ref b162), .val (.ref b166), .val (.int (-1 : Int32)), .unset, .unset]) rfl k) ?_
          show own_Go p e below s _ _ _ (T193.setTop (mkF m 250 #[.val (.int pa), .val (.int pb), .val (.int pd), .val (.int pe), .val (.int pn), .val (.int (3 : Int32)), .val (.int c0), .val (.int c1), .val (.int c2), .val (.int c3), .val (.ref b157), .val (.ref b162), .val (.ref b166), .val (.int (-1 : Int32)), .unset, .unset] []))
          refine own_st (fun _ k => XS.iload X193.here hx rfl (hb hby at_250) rfl k) ?_
          show own_Go p e below s _ _ _ (T193.setTop (mkF m 252 #[.val (.int pa), .val (.int pb), .val (.int pd), .val (.int pe), .val (.int pn), .val (.int (3 : Int32)), .val (.int c0), .val (.int c1), .val (.int c2), .val (.int c3), .val (.ref b157), .val (.ref b162), .val (.ref b166), .val (.int (-1 : Int32)), .unset, .unset] [(.int (-1 : Int32))]))
          refine own_st (fun _ k => XS.ifNo X193.here hx rfl (hb hby at_252) rfl ((if0 _ _).trans (tlt (by decide)).2.1) k) ?_
          show own_Go p e below s _ _ _ (T193.setTop (mkF m 255 #[.val (.int pa), .val (.int pb), .val (.int pd), .val (.int pe), .val (.int pn), .val (.int (3 : Int32)), .val (.int c0), .val (.int c1), .val (.int c2), .val (.int c3), .val (.ref b157), .val (.ref b162), .val (.ref b166), .val (.int (-1 : Int32)), .unset, .unset] []))
          refine own_st (fun _ k => XS.iconst X193.here hx rfl (hb hby at_255) k) ?_
          show own_Go p e below s _ _ _ (T193.setTop (mkF m 256 #[.val (.int pa), .val (.int pb), .val (.int pd), .val (.int pe), .val (.int pn), .val (.int (3 : Int32)), .val (.int c0), .val (.int c1), .val (.int c2), .val (.int c3), .val (.ref b157), .val (.ref b162), .val (.ref b166), .val (.int (-1 : Int32)), .unset, .unset] [(.int (1 : Int32))]))
          exact own_ret X193 hx hlk e193 hret (by decide) (Or.inl ⟨rfl, Or.inr (Or.inl rfl), _, rfl⟩) (hb hby at_256) (by decide) (by decide) ⟨rfl, N193⟩
  · rw [hn4]
    show own_Go p e below s _ _ _ (T0.setTop (mkF m 6 #[.val (.int pa), .val (.int pb), .val (.int pd), .val (.int pe), .val (.int pn), .unset, .unset, .unset, .unset, .unset, .unset, .unset, .unset, .unset, .unset, .unset] [(.int (4 : Int32))]))
    refine own_st (fun _ k => XS.istore X0.here hx rfl (hb hby at_6) rfl (l' := #[.val (.int pa), .val (.int pb), .val (.int pd), .val (.int pe), .val (.int pn), .val (.int (4 : Int32)), .unset, .unset, .unset, .unset, .unset, .unset, .unset, .unset, .unset, .unset]) rfl k) ?_
    show own_Go p e below s _ _ _ (T0.setTop (mkF m 8 #[.val (.int pa), .val (.int pb), .val (.int pd), .val (.int pe), .val (.int pn), .val (.int (4 : Int32)), .unset, .unset, .unset, .unset, .unset, .unset, .unset, .unset, .unset, .unset] []))
    refine own_st (fun _ k => XS.iloadN X0.here hx rfl (hb hby at_8) rfl k) ?_
    show own_Go p e below s _ _ _ (T0.setTop (mkF m 9 #[.val (.int pa), .val (.int pb), .val (.int pd), .val (.int pe), .val (.int pn), .val (.int (4 : Int32)), .unset, .unset, .unset, .unset, .unset, .unset, .unset, .unset, .unset, .unset] [(.int pa)]))
    refine own_st (fun _ k => XS.sipush X0.here hx rfl (hb hby at_9) k) ?_
    show own_Go p e below s _ _ _ (T0.setTop (mkF m 12 #[.val (.int pa), .val (.int pb), .val (.int pd), .val (.int pe), .val (.int pn), .val (.int (4 : Int32)), .unset, .unset, .unset, .unset, .unset, .unset, .unset, .unset, .unset, .unset] [(.int (255 : Int32)), (.int pa)]))
    refine own_st (fun _ k => XS.iand X0.here hx rfl (hb hby at_12) rfl k) ?_
    show own_Go p e below s _ _ _ (T0.setTop (mkF m 13 #[.val (.int pa), .val (.int pb), .val (.int pd), .val (.int pe), .val (.int pn), .val (.int (4 : Int32)), .unset, .unset, .unset, .unset, .unset, .unset, .unset, .unset, .unset, .unset] [(.int (pa &&& (255 : Int32)))]))
    refine own_st (fun _ k => XS.i2c X0.here hx rfl (hb hby at_13) rfl k) ?_
    show own_Go p e below s _ _ _ (T0.setTop (mkF m 14 #[.val (.int pa), .val (.int pb), .val (.int pd), .val (.int pe), .val (.int pn), .val (.int (4 : Int32)), .unset, .unset, .unset, .unset, .unset, .unset, .unset, .unset, .unset, .unset] [(.int ((pa &&& (255 : Int32)).toUInt32.toUInt16.toUInt32.toInt32))]))
    obtain ⟨c0, ec0, hc0⟩ : ∃ c : Int32, ((pa &&& (255 : Int32)).toUInt32.toUInt16.toUInt32.toInt32) = c ∧ (¬ c < 0 ∧ ¬ (255 : Int32) < c) := ⟨_, rfl, by rw [own_i2cm]; exact own_m255 _⟩
    rw [ec0]
    show own_Go p e below s _ _ _ (T0.setTop (mkF m 14 #[.val (.int pa), .val (.int pb), .val (.int pd), .val (.int pe), .val (.int pn), .val (.int (4 : Int32)), .unset, .unset, .unset, .unset, .unset, .unset, .unset, .unset, .unset, .unset] [(.int c0)]))
    refine own_st (fun _ k => XS.istore X0.here hx rfl (hb hby at_14) rfl (l' := #[.val (.int pa), .val (.int pb), .val (.int pd), .val (.int pe), .val (.int pn), .val (.int (4 : Int32)), .val (.int c0), .unset, .unset, .unset, .unset, .unset, .unset, .unset, .unset, .unset]) rfl k) ?_
    show own_Go p e below s _ _ _ (T0.setTop (mkF m 16 #[.val (.int pa), .val (.int pb), .val (.int pd), .val (.int pe), .val (.int pn), .val (.int (4 : Int32)), .val (.int c0), .unset, .unset, .unset, .unset, .unset, .unset, .unset, .unset, .unset] []))
    refine own_st (fun _ k => XS.iloadN X0.here hx rfl (hb hby at_16) rfl k) ?_
    show own_Go p e below s _ _ _ (T0.setTop (mkF m 17 #[.val (.int pa), .val (.int pb), .val (.int pd), .val (.int pe), .val (.int pn), .val (.int (4 : Int32)), .val (.int c0), .unset, .unset, .unset, .unset, .unset, .unset, .unset, .unset, .unset] [(.int pb)]))
    refine own_st (fun _ k => XS.sipush X0.here hx rfl (hb hby at_17) k) ?_
    show own_Go p e below s _ _ _ (T0.setTop (mkF m 20 #[.val (.int pa), .val (.int pb), .val (.int pd), .val (.int pe), .val (.int pn), .val (.int (4 : Int32)), .val (.int c0), .unset, .unset, .unset, .unset, .unset, .unset, .unset, .unset, .unset] [(.int (255 : Int32)), (.int pb)]))
    refine own_st (fun _ k => XS.iand X0.here hx rfl (hb hby at_20) rfl k) ?_
    show own_Go p e below s _ _ _ (T0.setTop (mkF m 21 #[.val (.int pa), .val (.int pb), .val (.int pd), .val (.int pe), .val (.int pn), .val (.int (4 : Int32)), .val (.int c0), .unset, .unset, .unset, .unset, .unset, .unset, .unset, .unset, .unset] [(.int (pb &&& (255 : Int32)))]))
    refine own_st (fun _ k => XS.i2c X0.here hx rfl (hb hby at_21) rfl k) ?_
    show own_Go p e below s _ _ _ (T0.setTop (mkF m 22 #[.val (.int pa), .val (.int pb), .val (.int pd), .val (.int pe), .val (.int pn), .val (.int (4 : Int32)), .val (.int c0), .unset, .unset, .unset, .unset, .unset, .unset, .unset, .unset, .unset] [(.int ((pb &&& (255 : Int32)).toUInt32.toUInt16.toUInt32.toInt32))]))
    obtain ⟨c1, ec1, hc1⟩ : ∃ c : Int32, ((pb &&& (255 : Int32)).toUInt32.toUInt16.toUInt32.toInt32) = c ∧ (¬ c < 0 ∧ ¬ (255 : Int32) < c) := ⟨_, rfl, by rw [own_i2cm]; exact own_m255 _⟩
    rw [ec1]
    show own_Go p e below s _ _ _ (T0.setTop (mkF m 22 #[.val (.int pa), .val (.int pb), .val (.int pd), .val (.int pe), .val (.int pn), .val (.int (4 : Int32)), .val (.int c0), .unset, .unset, .unset, .unset, .unset, .unset, .unset, .unset, .unset] [(.int c1)]))
    refine own_st (fun _ k => XS.istore X0.here hx rfl (hb hby at_22) rfl (l' := #[.val (.int pa), .val (.int pb), .val (.int pd), .val (.int pe), .val (.int pn), .val (.int (4 : Int32)), .val (.int c0), .val (.int c1), .unset, .unset, .unset, .unset, .unset, .unset, .unset, .unset]) rfl k) ?_
    show own_Go p e below s _ _ _ (T0.setTop (mkF m 24 #[.val (.int pa), .val (.int pb), .val (.int pd), .val (.int pe), .val (.int pn), .val (.int (4 : Int32)), .val (.int c0), .val (.int c1), .unset, .unset, .unset, .unset, .unset, .unset, .unset, .unset] []))
    refine own_st (fun _ k => XS.iloadN X0.here hx rfl (hb hby at_24) rfl k) ?_
    show own_Go p e below s _ _ _ (T0.setTop (mkF m 25 #[.val (.int pa), .val (.int pb), .val (.int pd), .val (.int pe), .val (.int pn), .val (.int (4 : Int32)), .val (.int c0), .val (.int c1), .unset, .unset, .unset, .unset, .unset, .unset, .unset, .unset] [(.int pd)]))
    refine own_st (fun _ k => XS.sipush X0.here hx rfl (hb hby at_25) k) ?_
    show own_Go p e below s _ _ _ (T0.setTop (mkF m 28 #[.val (.int pa), .val (.int pb), .val (.int pd), .val (.int pe), .val (.int pn), .val (.int (4 : Int32)), .val (.int c0), .val (.int c1), .unset, .unset, .unset, .unset, .unset, .unset, .unset, .unset] [(.int (255 : Int32)), (.int pd)]))
    refine own_st (fun _ k => XS.iand X0.here hx rfl (hb hby at_28) rfl k) ?_
    show own_Go p e below s _ _ _ (T0.setTop (mkF m 29 #[.val (.int pa), .val (.int pb), .val (.int pd), .val (.int pe), .val (.int pn), .val (.int (4 : Int32)), .val (.int c0), .val (.int c1), .unset, .unset, .unset, .unset, .unset, .unset, .unset, .unset] [(.int (pd &&& (255 : Int32)))]))
    refine own_st (fun _ k => XS.i2c X0.here hx rfl (hb hby at_29) rfl k) ?_
    show own_Go p e below s _ _ _ (T0.setTop (mkF m 30 #[.val (.int pa), .val (.int pb), .val (.int pd), .val (.int pe), .val (.int pn), .val (.int (4 : Int32)), .val (.int c0), .val (.int c1), .unset, .unset, .unset, .unset, .unset, .unset, .unset, .unset] [(.int ((pd &&& (255 : Int32)).toUInt32.toUInt16.toUInt32.toInt32))]))
    obtain ⟨c2, ec2, hc2⟩ : ∃ c : Int32, ((pd &&& (255 : Int32)).toUInt32.toUInt16.toUInt32.toInt32) = c ∧ (¬ c < 0 ∧ ¬ (255 : Int32) < c) := ⟨_, rfl, by rw [own_i2cm]; exact own_m255 _⟩
    rw [ec2]
    show own_Go p e below s _ _ _ (T0.setTop (mkF m 30 #[.val (.int pa), .val (.int pb), .val (.int pd), .val (.int pe), .val (.int pn), .val (.int (4 : Int32)), .val (.int c0), .val (.int c1), .unset, .unset, .unset, .unset, .unset, .unset, .unset, .unset] [(.int c2)]))
    refine own_st (fun _ k => XS.istore X0.here hx rfl (hb hby at_30) rfl (l' := #[.val (.int pa), .val (.int pb), .val (.int pd), .val (.int pe), .val (.int pn), .val (.int (4 : Int32)), .val (.int c0), .val (.int c1), .val (.int c2), .unset, .unset, .unset, .unset, .unset, .unset, .unset]) rfl k) ?_
    show own_Go p e below s _ _ _ (T0.setTop (mkF m 32 #[.val (.int pa), .val (.int pb), .val (.int pd), .val (.int pe), .val (.int pn), .val (.int (4 : Int32)), .val (.int c0), .val (.int c1), .val (.int c2), .unset, .unset, .unset, .unset, .unset, .unset, .unset] []))
    refine own_st (fun _ k => XS.iloadN X0.here hx rfl (hb hby at_32) rfl k) ?_
    show own_Go p e below s _ _ _ (T0.setTop (mkF m 33 #[.val (.int pa), .val (.int pb), .val (.int pd), .val (.int pe), .val (.int pn), .val (.int (4 : Int32)), .val (.int c0), .val (.int c1), .val (.int c2), .unset, .unset, .unset, .unset, .unset, .unset, .unset] [(.int pe)]))
    refine own_st (fun _ k => XS.sipush X0.here hx rfl (hb hby at_33) k) ?_
    show own_Go p e below s _ _ _ (T0.setTop (mkF m 36 #[.val (.int pa), .val (.int pb), .val (.int pd), .val (.int pe), .val (.int pn), .val (.int (4 : Int32)), .val (.int c0), .val (.int c1), .val (.int c2), .unset, .unset, .unset, .unset, .unset, .unset, .unset] [(.int (255 : Int32)), (.int pe)]))
    refine own_st (fun _ k => XS.iand X0.here hx rfl (hb hby at_36) rfl k) ?_
    show own_Go p e below s _ _ _ (T0.setTop (mkF m 37 #[.val (.int pa), .val (.int pb), .val (.int pd), .val (.int pe), .val (.int pn), .val (.int (4 : Int32)), .val (.int c0), .val (.int c1), .val (.int c2), .unset, .unset, .unset, .unset, .unset, .unset, .unset] [(.int (pe &&& (255 : Int32)))]))
    refine own_st (fun _ k => XS.i2c X0.here hx rfl (hb hby at_37) rfl k) ?_
    show own_Go p e below s _ _ _ (T0.setTop (mkF m 38 #[.val (.int pa), .val (.int pb), .val (.int pd), .val (.int pe), .val (.int pn), .val (.int (4 : Int32)), .val (.int c0), .val (.int c1), .val (.int c2), .unset, .unset, .unset, .unset, .unset, .unset, .unset] [(.int ((pe &&& (255 : Int32)).toUInt32.toUInt16.toUInt32.toInt32))]))
    obtain ⟨c3, ec3, hc3⟩ : ∃ c : Int32, ((pe &&& (255 : Int32)).toUInt32.toUInt16.toUInt32.toInt32) = c ∧ (¬ c < 0 ∧ ¬ (255 : Int32) < c) := ⟨_, rfl, by rw [own_i2cm]; exact own_m255 _⟩
    rw [ec3]
    show own_Go p e below s _ _ _ (T0.setTop (mkF m 38 #[.val (.int pa), .val (.int pb), .val (.int pd), .val (.int pe), .val (.int pn), .val (.int (4 : Int32)), .val (.int c0), .val (.int c1), .val (.int c2), .unset, .unset, .unset, .unset, .unset, .unset, .unset] [(.int c3)]))
    refine own_st (fun _ k => XS.istore X0.here hx rfl (hb hby at_38) rfl (l' := #[.val (.int pa), .val (.int pb), .val (.int pd), .val (.int pe), .val (.int pn), .val (.int (4 : Int32)), .val (.int c0), .val (.int c1), .val (.int c2), .val (.int c3), .unset, .unset, .unset, .unset, .unset, .unset]) rfl k) ?_
    show own_Go p e below s _ _ _ (T0.setTop (mkF m 40 #[.val (.int pa), .val (.int pb), .val (.int pd), .val (.int pe), .val (.int pn), .val (.int (4 : Int32)), .val (.int c0), .val (.int c1), .val (.int c2), .val (.int c3), .unset, .unset, .unset, .unset, .unset, .unset] []))
    refine own_st (fun _ k => XS.iconst X0.here hx rfl (hb hby at_40) k) ?_
    show own_Go p e below s _ _ _ (T0.setTop (mkF m 41 #[.val (.int pa), .val (.int pb), .val (.int pd), .val (.int pe), .val (.int pn), .val (.int (4 : Int32)), .val (.int c0), .val (.int c1), .val (.int c2), .val (.int c3), .unset, .unset, .unset, .unset, .unset, .unset] [(.int (4 : Int32))]))
    obtain ⟨T196, h196, k196, X196, e196, E196, A196, st196⟩ := newP X0 hx hZ (hw _ (List.mem_of_getElem? (i := 0) rfl)) e0 (g := (mkF m 41 #[.val (.int pa), .val (.int pb), .val (.int pd), .val (.int pe), .val (.int pn), .val (.int (4 : Int32)), .val (.int c0), .val (.int c1), .val (.int c2), .val (.int c3), .unset, .unset, .unset, .unset, .unset, .unset] [(.int (4 : Int32))])) rfl (hb hby at_41) rfl (by decide) (cap := 4) (by decide) (by decide) (by decide) (by decide)
    obtain ⟨b196, g196⟩ : ∃ z, z = h0.size := ⟨_, rfl⟩
    rw [← g196] at A196 st196
    have K196 : Keep h0 h196 [] := (Keep.refl _ _).ext E196
    have l196 : b196 < h196.size := A196.lt
    refine own_st st196 ?_
    have zK196 := K196.1
    have V196 : Arv Z h196 b196 k196 .char (4 : Int32) [(.int (0 : Int32)), (.int (0 : Int32)), (.int (0 : Int32)), (.int (0 : Int32))] (.int (0 : Int32)) := (Arv.new A196 (by decide)).pad (pad_rep [] (.int (0 : Int32)) 4)
    show own_Go p e below s _ _ _ (T196.setTop (mkF m 43 #[.val (.int pa), .val (.int pb), .val (.int pd), .val (.int pe), .val (.int pn), .val (.int (4 : Int32)), .val (.int c0), .val (.int c1), .val (.int c2), .val (.int c3), .unset, .unset, .unset, .unset, .unset, .unset] [(.ref b196)]))
    refine own_st (fun _ k => XS.dup X196.here hx rfl (hb hby at_43) rfl rfl k) ?_
    show own_Go p e below s _ _ _ (T196.setTop (mkF m 44 #[.val (.int pa), .val (.int pb), .val (.int pd), .val (.int pe), .val (.int pn), .val (.int (4 : Int32)), .val (.int c0), .val (.int c1), .val (.int c2), .val (.int c3), .unset, .unset, .unset, .unset, .unset, .unset] [(.ref b196), (.ref b196)]))
    refine own_st (fun _ k => XS.iconst X196.here hx rfl (hb hby at_44) k) ?_
    show own_Go p e below s _ _ _ (T196.setTop (mkF m 45 #[.val (.int pa), .val (.int pb), .val (.int pd), .val (.int pe), .val (.int pn), .val (.int (4 : Int32)), .val (.int c0), .val (.int c1), .val (.int c2), .val (.int c3), .unset, .unset, .unset, .unset, .unset, .unset] [(.int (0 : Int32)), (.ref b196), (.ref b196)]))
    refine own_st (fun _ k => XS.iload X196.here hx rfl (hb hby at_45) rfl k) ?_
    show own_Go p e below s _ _ _ (T196.setTop (mkF m 47 #[.val (.int pa), .val (.int pb), .val (.int pd), .val (.int pe), .val (.int pn), .val (.int (4 : Int32)), .val (.int c0), .val (.int c1), .val (.int c2), .val (.int c3), .unset, .unset, .unset, .unset, .unset, .unset] [(.int c0), (.int (0 : Int32)), (.ref b196), (.ref b196)]))
    obtain ⟨c197, Ar197, q197, S197, M197, H197, U197⟩ := V196
    obtain ⟨T197, h197, X197, e197, W197, st197⟩ := stC X196 hx hZ e196 Ar197 (j := (0 : Int32)) (inb_of S197 ⟨by decide, by decide⟩) (g := (mkF m 47 #[.val (.int pa), .val (.int pb), .val (.int pd), .val (.int pe), .val (.int pn), .val (.int (4 : Int32)), .val (.int c0), .val (.int c1), .val (.int c2), .val (.int c3), .unset, .unset, .unset, .unset, .unset, .unset] [(.int c0), (.int (0 : Int32)), (.ref b196), (.ref b196)])) rfl rfl (hb hby at_47)
    have V197 : Arv Z h197 b196 k196 .char (4 : Int32) [(.int c0), (.int (0 : Int32)), (.int (0 : Int32)), (.int (0 : Int32))] (.int (0 : Int32)) := by
      have q := Arv.set Ar197 q197 S197 M197 H197 U197 (fits_nar_char _) W197 0 rfl (Nat.le_of_ble_eq_true rfl)
      rw [own_narC (own_up1 hc0)] at q
      exact q
    have K197 := Keep.of_wr W197
    have N197 := Fr.snoc X197 N0 (by omega : n0 ≤ b196)
    refine own_st st197 ?_
    have zK197 := K197.1
    show own_Go p e below s _ _ _ (T197.setTop (mkF m 48 #[.val (.int pa), .val (.int pb), .val (.int pd), .val (.int pe), .val (.int pn), .val (.int (4 : Int32)), .val (.int c0), .val (.int c1), .val (.int c2), .val (.int c3), .unset, .unset, .unset, .unset, .unset, .unset] [(.ref b196)]))
    refine own_st (fun _ k => XS.dup X197.here hx rfl (hb hby at_48) rfl rfl k) ?_
    show own_Go p e below s _ _ _ (T197.setTop (mkF m 49 #[.val (.int pa), .val (.int pb), .val (.int pd), .val (.int pe), .val (.int pn), .val (.int (4 : Int32)), .val (.int c0), .val (.int c1), .val (.int c2), .val (.int c3), .unset, .unset, .unset, .unset, .unset, .unset] [(.ref b196), (.ref b196)]))
    refine own_st (fun _ k => XS.iconst X197.here hx rfl (hb hby at_49) k) ?_
    show own_Go p e below s _ _ _ (T197.setTop (mkF m 50 #[.val (.int pa), .val (.int pb), .val (.int pd), .val (.int pe), .val (.int pn), .val (.int (4 : Int32)), .val (.int c0), .val (.int c1), .val (.int c2), .val (.int c3), .unset, .unset, .unset, .unset, .unset, .unset] [(.int (1 : Int32)), (.ref b196), (.ref b196)]))
    refine own_st (fun _ k => XS.iload X197.here hx rfl (hb hby at_50) rfl k) ?_
    show own_Go p e below s _ _ _ (T197.setTop (mkF m 52 #[.val (.int pa), .val (.int pb), .val (.int pd), .val (.int pe), .val (.int pn), .val (.int (4 : Int32)), .val (.int c0), .val (.int c1), .val (.int c2), .val (.int c3), .unset, .unset, .unset, .unset, .unset, .unset] [(.int c1), (.int (1 : Int32)), (.ref b196), (.ref b196)]))
    obtain ⟨c198, Ar198, q198, S198, M198, H198, U198⟩ := V197
    obtain ⟨T198, h198, X198, e198, W198, st198⟩ := stC X197 hx hZ e197 Ar198 (j := (1 : Int32)) (inb_of S198 ⟨by decide, by decide⟩) (g := (mkF m 52 #[.val (.int pa), .val (.int pb), .val (.int pd), .val (.int pe), .val (.int pn), .val (.int (4 : Int32)), .val (.int c0), .val (.int c1), .val (.int c2), .val (.int c3), .unset, .unset, .unset, .unset, .unset, .unset] [(.int c1), (.int (1 : Int32)), (.ref b196), (.ref b196)])) rfl rfl (hb hby at_52)
    have V198 : Arv Z h198 b196 k196 .char (4 : Int32) [(.int c0), (.int c1), (.int (0 : Int32)), (.int (0 : Int32))] (.int (0 : Int32)) := by
      have q := Arv.set Ar198 q198 S198 M198 H198 U198 (fits_nar_char _) W198 1 rfl (Nat.le_of_ble_eq_true rfl)
      rw [own_narC (own_up1 hc1)] at q
      exact q
    have K198 := Keep.of_wr W198
    have N198 := Fr.snoc X198 N197 (by omega : n0 ≤ b196)
    refine own_st st198 ?_
    have zK198 := K198.1
    show own_Go p e below s _ _ _ (T198.setTop (mkF m 53 #[.val (.int pa), .val (.int pb), .val (.int pd), .val (.int pe), .val (.int pn), .val (.int (4 : Int32)), .val (.int c0), .val (.int c1), .val (.int c2), .val (.int c3), .unset, .unset, .unset, .unset, .unset, .unset] [(.ref b196)]))
    refine own_st (fun _ k => XS.dup X198.here hx rfl (hb hby at_53) rfl rfl k) ?_
    show own_Go p e below s _ _ _ (T198.setTop (mkF m 54 #[.val (.int pa), .val (.int pb), .val (.int pd), .val (.int pe), .val (.int pn), .val (.int (4 : Int32)), .val (.int c0), .val (.int c1), .val (.int c2), .val (.int c3), .unset, .unset, .unset, .unset, .unset, .unset] [(.ref b196), (.ref b196)]))
    refine own_st (fun _ k => XS.iconst X198.here hx rfl (hb hby at_54) k) ?_
    show own_Go p e below s _ _ _ (T198.setTop (mkF m 55 #[.val (.int pa), .val (.int pb), .val (.int pd), .val (.int pe), .val (.int pn), .val (.int (4 : Int32)), .val (.int c0), .val (.int c1), .val (.int c2), .val (.int c3), .unset, .unset, .unset, .unset, .unset, .unset] [(.int (2 : Int32)), (.ref b196), (.ref b196)]))
    refine own_st (fun _ k => XS.iload X198.here hx rfl (hb hby at_55) rfl k) ?_
    show own_Go p e below s _ _ _ (T198.setTop (mkF m 57 #[.val (.int pa), .val (.int pb), .val (.int pd), .val (.int pe), .val (.int pn), .val (.int (4 : Int32)), .val (.int c0), .val (.int c1), .val (.int c2), .val (.int c3), .unset, .unset, .unset, .unset, .unset, .unset] [(.int c2), (.int (2 : Int32)), (.ref b196), (.ref b196)]))
    obtain ⟨c199, Ar199, q199, S199, M199, H199, U199⟩ := V198
    obtain ⟨T199, h199, X199, e199, W199, st199⟩ := stC X198 hx hZ e198 Ar199 (j := (2 : Int32)) (inb_of S199 ⟨by decide, by decide⟩) (g := (mkF m 57 #[.val (.int pa), .val (.int pb), .val (.int pd), .val (.int pe), .val (.int pn), .val (.int (4 : Int32)), .val (.int c0), .val (.int c1), .val (.int c2), .val (.int c3), .unset, .unset, .unset, .unset, .unset, .unset] [(.int c2), (.int (2 : Int32)), (.ref b196), (.ref b196)])) rfl rfl (hb hby at_57)
    have V199 : Arv Z h199 b196 k196 .char (4 : Int32) [(.int c0), (.int c1), (.int c2), (.int (0 : Int32))] (.int (0 : Int32)) := by
      have q := Arv.set Ar199 q199 S199 M199 H199 U199 (fits_nar_char _) W199 2 rfl (Nat.le_of_ble_eq_true rfl)
      rw [own_narC (own_up1 hc2)] at q
      exact q
    have K199 := Keep.of_wr W199
    have N199 := Fr.snoc X199 N198 (by omega : n0 ≤ b196)
    refine own_st st199 ?_
    have zK199 := K199.1
    show own_Go p e below s _ _ _ (T199.setTop (mkF m 58 #[.val (.int pa), .val (.int pb), .val (.int pd), .val (.int pe), .val (.int pn), .val (.int (4 : Int32)), .val (.int c0), .val (.int c1), .val (.int c2), .val (.int c3), .unset, .unset, .unset, .unset, .unset, .unset] [(.ref b196)]))
    refine own_st (fun _ k => XS.dup X199.here hx rfl (hb hby at_58) rfl rfl k) ?_
    show own_Go p e below s _ _ _ (T199.setTop (mkF m 59 #[.val (.int pa), .val (.int pb), .val (.int pd), .val (.int pe), .val (.int pn), .val (.int (4 : Int32)), .val (.int c0), .val (.int c1), .val (.int c2), .val (.int c3), .unset, .unset, .unset, .unset, .unset, .unset] [(.ref b196), (.ref b196)]))
    refine own_st (fun _ k => XS.iconst X199.here hx rfl (hb hby at_59) k) ?_
    show own_Go p e below s _ _ _ (T199.setTop (mkF m 60 #[.val (.int pa), .val (.int pb), .val (.int pd), .val (.int pe), .val (.int pn), .val (.int (4 : Int32)), .val (.int c0), .val (.int c1), .val (.int c2), .val (.int c3), .unset, .unset, .unset, .unset, .unset, .unset] [(.int (3 : Int32)), (.ref b196), (.ref b196)]))
    refine own_st (fun _ k => XS.iload X199.here hx rfl (hb hby at_60) rfl k) ?_
    show own_Go p e below s _ _ _ (T199.setTop (mkF m 62 #[.val (.int pa), .val (.int pb), .val (.int pd), .val (.int pe), .val (.int pn), .val (.int (4 : Int32)), .val (.int c0), .val (.int c1), .val (.int c2), .val (.int c3), .unset, .unset, .unset, .unset, .unset, .unset] [(.int c3), (.int (3 : Int32)), (.ref b196), (.ref b196)]))
    obtain ⟨c200, Ar200, q200, S200, M200, H200, U200⟩ := V199
    obtain ⟨T200, h200, X200, e200, W200, st200⟩ := stC X199 hx hZ e199 Ar200 (j := (3 : Int32)) (inb_of S200 ⟨by decide, by decide⟩) (g := (mkF m 62 #[.val (.int pa), .val (.int pb), .val (.int pd), .val (.int pe), .val (.int pn), .val (.int (4 : Int32)), .val (.int c0), .val (.int c1), .val (.int c2), .val (.int c3), .unset, .unset, .unset, .unset, .unset, .unset] [(.int c3), (.int (3 : Int32)), (.ref b196), (.ref b196)])) rfl rfl (hb hby at_62)
    have V200 : Arv Z h200 b196 k196 .char (4 : Int32) [(.int c0), (.int c1), (.int c2), (.int c3)] (.int (0 : Int32)) := by
      have q := Arv.set Ar200 q200 S200 M200 H200 U200 (fits_nar_char _) W200 3 rfl (Nat.le_of_ble_eq_true rfl)
      rw [own_narC (own_up1 hc3)] at q
      exact q
    have K200 := Keep.of_wr W200
    have N200 := Fr.snoc X200 N199 (by omega : n0 ≤ b196)
    refine own_st st200 ?_
    have zK200 := K200.1
    show own_Go p e below s _ _ _ (T200.setTop (mkF m 63 #[.val (.int pa), .val (.int pb), .val (.int pd), .val (.int pe), .val (.int pn), .val (.int (4 : Int32)), .val (.int c0), .val (.int c1), .val (.int c2), .val (.int c3), .unset, .unset, .unset, .unset, .unset, .unset] [(.ref b196)]))
    refine own_st (fun _ k => XS.astore X200.here hx rfl (hb hby at_63) rfl rfl (l' := #[.val (.int pa), .val (.int pb), .val (.int pd), .val (.int pe), .val (.int pn), .val (.int (4 : Int32)), .val (.int c0), .val (.int c1), .val (.int c2), .val (.int c3), .val (.ref b196), .unset, .unset, .unset, .unset, .unset]) rfl k) ?_
    show own_Go p e below s _ _ _ (T200.setTop (mkF m 65 #[.val (.int pa), .val (.int pb), .val (.int pd), .val (.int pe), .val (.int pn), .val (.int (4 : Int32)), .val (.int c0), .val (.int c1), .val (.int c2), .val (.int c3), .val (.ref b196), .unset, .unset, .unset, .unset, .unset] []))
    refine own_st (fun _ k => XS.iload X200.here hx rfl (hb hby at_65) rfl k) ?_
    show own_Go p e below s _ _ _ (T200.setTop (mkF m 67 #[.val (.int pa), .val (.int pb), .val (.int pd), .val (.int pe), .val (.int pn), .val (.int (4 : Int32)), .val (.int c0), .val (.int c1), .val (.int c2), .val (.int c3), .val (.ref b196), .unset, .unset, .unset, .unset, .unset] [(.int (4 : Int32))]))
    refine own_st (fun _ k => XS.iconst X200.here hx rfl (hb hby at_67) k) ?_
    show own_Go p e below s _ _ _ (T200.setTop (mkF m 68 #[.val (.int pa), .val (.int pb), .val (.int pd), .val (.int pe), .val (.int pn), .val (.int (4 : Int32)), .val (.int c0), .val (.int c1), .val (.int c2), .val (.int c3), .val (.ref b196), .unset, .unset, .unset, .unset, .unset] [(.int (1 : Int32)), (.int (4 : Int32))]))
    refine own_st (fun _ k => XS.icmpYes X200.here hx rfl (pc0 := 68) (pc' := 84) rfl (hb hby at_68) rfl (feq (by decide)).2 (by decide) (by decide) k) ?_
    show own_Go p e below s _ _ _ (T200.setTop (mkF m 84 #[.val (.int pa), .val (.int pb), .val (.int pd), .val (.int pe), .val (.int pn), .val (.int (4 : Int32)), .val (.int c0), .val (.int c1), .val (.int c2), .val (.int c3), .val (.ref b196), .unset, .unset, .unset, .unset, .unset] []))
    refine own_st (fun _ k => XS.iload X200.here hx rfl (hb hby at_84) rfl k) ?_
    show own_Go p e below s _ _ _ (T200.setTop (mkF m 86 #[.val (.int pa), .val (.int pb), .val (.int pd), .val (.int pe), .val (.int pn), .val (.int (4 : Int32)), .val (.int c0), .val (.int c1), .val (.int c2), .val (.int c3), .val (.ref b196), .unset, .unset, .unset, .unset, .unset] [(.int (4 : Int32))]))
    refine own_st (fun _ k => XS.iconst X200.here hx rfl (hb hby at_86) k) ?_
    show own_Go p e below s _ _ _ (T200.setTop (mkF m 87 #[.val (.int pa), .val (.int pb), .val (.int pd), .val (.int pe), .val (.int pn), .val (.int (4 : Int32)), .val (.int c0), .val (.int c1), .val (.int c2), .val (.int c3), .val (.ref b196), .unset, .unset, .unset, .unset, .unset] [(.int (2 : Int32)), (.int (4 : Int32))]))
    refine own_st (fun _ k => XS.icmpYes X200.here hx rfl (pc0 := 87) (pc' := 108) rfl (hb hby at_87) rfl (feq (by decide)).2 (by decide) (by decide) k) ?_
    show own_Go p e below s _ _ _ (T200.setTop (mkF m 108 #[.val (.int pa), .val (.int pb), .val (.int pd), .val (.int pe), .val (.int pn), .val (.int (4 : Int32)), .val (.int c0), .val (.int c1), .val (.int c2), .val (.int c3), .val (.ref b196), .unset, .unset, .unset, .unset, .unset] []))
    refine own_st (fun _ k => XS.iload X200.here hx rfl (hb hby at_108) rfl k) ?_
    show own_Go p e below s _ _ _ (T200.setTop (mkF m 110 #[.val (.int pa), .val (.int pb), .val (.int pd), .val (.int pe), .val (.int pn), .val (.int (4 : Int32)), .val (.int c0), .val (.int c1), .val (.int c2), .val (.int c3), .val (.ref b196), .unset, .unset, .unset, .unset, .unset] [(.int (4 : Int32))]))
    refine own_st (fun _ k => XS.iconst X200.here hx rfl (hb hby at_110) k) ?_
    show own_Go p e below s _ _ _ (T200.setTop (mkF m 111 #[.val (.int pa), .val (.int pb), .val (.int pd), .val (.int pe), .val (.int pn), .val (.int (4 : Int32)), .val (.int c0), .val (.int c1), .val (.int c2), .val (.int c3), .val (.ref b196), .unset, .unset, .unset, .unset, .unset] [(.int (3 : Int32)), (.int (4 : Int32))]))
    refine own_st (fun _ k => XS.icmpYes X200.here hx rfl (pc0 := 111) (pc' := 137) rfl (hb hby at_111) rfl (feq (by decide)).2 (by decide) (by decide) k) ?_
    show own_Go p e below s _ _ _ (T200.setTop (mkF m 137 #[.val (.int pa), .val (.int pb), .val (.int pd), .val (.int pe), .val (.int pn), .val (.int (4 : Int32)), .val (.int c0), .val (.int c1), .val (.int c2), .val (.int c3), .val (.ref b196), .unset, .unset, .unset, .unset, .unset] []))
    refine own_st (fun _ k => XS.iconst X200.here hx rfl (hb hby at_137) k) ?_
    show own_Go p e below s _ _ _ (T200.setTop (mkF m 138 #[.val (.int pa), .val (.int pb), .val (.int pd), .val (.int pe), .val (.int pn), .val (.int (4 : Int32)), .val (.int c0), .val (.int c1), .val (.int c2), .val (.int c3), .val (.ref b196), .unset, .unset, .unset, .unset, .unset] [(.int (4 : Int32))]))
    obtain ⟨T201, h201, k201, X201, e201, E201, A201, st201⟩ := newP X200 hx hZ (hw _ (List.mem_of_getElem? (i := 0) rfl)) e200 (g := (mkF m 138 #[.val (.int pa), .val (.int pb), .val (.int pd), .val (.int pe), .val (.int pn), .val (.int (4 : Int32)), .val (.int c0), .val (.int c1), .val (.int c2), .val (.int c3), .val (.ref b196), .unset, .unset, .unset, .unset, .unset] [(.int (4 : Int32))])) rfl (hb hby at_138) rfl (by decide) (cap := 4) (by decide) (by decide) (by decide) (by decide)
    obtain ⟨b201, g201⟩ : ∃ z, z = h200.size := ⟨_, rfl⟩
    rw [← g201] at A201 st201
    have K201 : Keep h200 h201 [] := (Keep.refl _ _).ext E201
    have l201 : b201 < h201.size := A201.lt
    refine own_st st201 ?_
    have zK201 := K201.1
    have V201 : Arv Z h201 b201 k201 .char (4 : Int32) [(.int (0 : Int32)), (.int (0 : Int32)), (.int (0 : Int32)), (.int (0 : Int32))] (.int (0 : Int32)) := (Arv.new A201 (by decide)).pad (pad_rep [] (.int (0 : Int32)) 4)
    show own_Go p e below s _ _ _ (T201.setTop (mkF m 140 #[.val (.int pa), .val (.int pb), .val (.int pd), .val (.int pe), .val (.int pn), .val (.int (4 : Int32)), .val (.int c0), .val (.int c1), .val (.int c2), .val (.int c3), .val (.ref b196), .unset, .unset, .unset, .unset, .unset] [(.ref b201)]))
    refine own_st (fun _ k => XS.dup X201.here hx rfl (hb hby at_140) rfl rfl k) ?_
    show own_Go p e below s _ _ _ (T201.setTop (mkF m 141 #[.val (.int pa), .val (.int pb), .val (.int pd), .val (.int pe), .val (.int pn), .val (.int (4 : Int32)), .val (.int c0), .val (.int c1), .val (.int c2), .val (.int c3), .val (.ref b196), .unset, .unset, .unset, .unset, .unset] [(.ref b201), (.ref b201)]))
    refine own_st (fun _ k => XS.iconst X201.here hx rfl (hb hby at_141) k) ?_
    show own_Go p e below s _ _ _ (T201.setTop (mkF m 142 #[.val (.int pa), .val (.int pb), .val (.int pd), .val (.int pe), .val (.int pn), .val (.int (4 : Int32)), .val (.int c0), .val (.int c1), .val (.int c2), .val (.int c3), .val (.ref b196), .unset, .unset, .unset, .unset, .unset] [(.int (0 : Int32)), (.ref b201), (.ref b201)]))
    refine own_st (fun _ k => XS.iload X201.here hx rfl (hb hby at_142) rfl k) ?_
    show own_Go p e below s _ _ _ (T201.setTop (mkF m 144 #[.val (.int pa), .val (.int pb), .val (.int pd), .val (.int pe), .val (.int pn), .val (.int (4 : Int32)), .val (.int c0), .val (.int c1), .val (.int c2), .val (.int c3), .val (.ref b196), .unset, .unset, .unset, .unset, .unset] [(.int c0), (.int (0 : Int32)), (.ref b201), (.ref b201)]))
    obtain ⟨c202, Ar202, q202, S202, M202, H202, U202⟩ := V201
    obtain ⟨T202, h202, X202, e202, W202, st202⟩ := stC X201 hx hZ e201 Ar202 (j := (0 : Int32)) (inb_of S202 ⟨by decide, by decide⟩) (g := (mkF m 144 #[.val (.int pa), .val (.int pb), .val (.int pd), .val (.int pe), .val (.int pn), .val (.int (4 : Int32)), .val (.int c0), .val (.int c1), .val (.int c2), .val (.int c3), .val (.ref b196), .unset, .unset, .unset, .unset, .unset] [(.int c0), (.int (0 : Int32)), (.ref b201), (.ref b201)])) rfl rfl (hb hby at_144)
    have V202 : Arv Z h202 b201 k201 .char (4 : Int32) [(.int c0), (.int (0 : Int32)), (.int (0 : Int32)), (.int (0 : Int32))] (.int (0 : Int32)) := by
      have q := Arv.set Ar202 q202 S202 M202 H202 U202 (fits_nar_char _) W202 0 rfl (Nat.le_of_ble_eq_true rfl)
      rw [own_narC (own_up1 hc0)] at q
      exact q
    have K202 := Keep.of_wr W202
    have N202 := Fr.snoc X202 N200 (by omega : n0 ≤ b201)
    refine own_st st202 ?_
    have zK202 := K202.1
    show own_Go p e below s _ _ _ (T202.setTop (mkF m 145 #[.val (.int pa), .val (.int pb), .val (.int pd), .val (.int pe), .val (.int pn), .val (.int (4 : Int32)), .val (.int c0), .val (.int c1), .val (.int c2), .val (.int c3), .val (.ref b196), .unset, .unset, .unset, .unset, .unset] [(.ref b201)]))
    refine own_st (fun _ k => XS.dup X202.here hx rfl (hb hby at_145) rfl rfl k) ?_
    show own_Go p e below s _ _ _ (T202.setTop (mkF m 146 #[.val (.int pa), .val (.int pb), .val (.int pd), .val (.int pe), .val (.int pn), .val (.int (4 : Int32)), .val (.int c0), .val (.int c1), .val (.int c2), .val (.int c3), .val (.ref b196), .unset, .unset, .unset, .unset, .unset] [(.ref b201), (.ref b201)]))
    refine own_st (fun _ k => XS.iconst X202.here hx rfl (hb hby at_146) k) ?_
    show own_Go p e below s _ _ _ (T202.setTop (mkF m 147 #[.val (.int pa), .val (.int pb), .val (.int pd), .val (.int pe), .val (.int pn), .val (.int (4 : Int32)), .val (.int c0), .val (.int c1), .val (.int c2), .val (.int c3), .val (.ref b196), .unset, .unset, .unset, .unset, .unset] [(.int (1 : Int32)), (.ref b201), (.ref b201)]))
    refine own_st (fun _ k => XS.iload X202.here hx rfl (hb hby at_147) rfl k) ?_
    show own_Go p e below s _ _ _ (T202.setTop (mkF m 149 #[.val (.int pa), .val (.int pb), .val (.int pd), .val (.int pe), .val (.int pn), .val (.int (4 : Int32)), .val (.int c0), .val (.int c1), .val (.int c2), .val (.int c3), .val (.ref b196), .unset, .unset, .unset, .unset, .unset] [(.int c1), (.int (1 : Int32)), (.ref b201), (.ref b201)]))
    obtain ⟨c203, Ar203, q203, S203, M203, H203, U203⟩ := V202
    obtain ⟨T203, h203, X203, e203, W203, st203⟩ := stC X202 hx hZ e202 Ar203 (j := (1 : Int32)) (inb_of S203 ⟨by decide, by decide⟩) (g := (mkF m 149 #[.val (.int pa), .val (.int pb), .val (.int pd), .val (.int pe), .val (.int pn), .val (.int (4 : Int32)), .val (.int c0), .val (.int c1), .val (.int c2), .val (.int c3), .val (.ref b196), .unset, .unset, .unset, .unset, .unset] [(.int c1), (.int (1 : Int32)), (.ref b201), (.ref b201)])) rfl rfl (hb hby at_149)
    have V203 : Arv Z h203 b201 k201 .char (4 : Int32) [(.int c0), (.int c1), (.int (0 : Int32)), (.int (0 : Int32))] (.int (0 : Int32)) := by
      have q := Arv.set Ar203 q203 S203 M203 H203 U203 (fits_nar_char _) W203 1 rfl (Nat.le_of_ble_eq_true rfl)
      rw [own_narC (own_up1 hc1)] at q
      exact q
    have K203 := Keep.of_wr W203
    have N203 := Fr.snoc X203 N202 (by omega : n0 ≤ b201)
    refine own_st st203 ?_
    have zK203 := K203.1
    show own_Go p e below s _ _ _ (T203.setTop (mkF m 150 #[.val (.int pa), .val (.int pb), .val (.int pd), .val (.int pe), .val (.int pn), .val (.int (4 : Int32)), .val (.int c0), .val (.int c1), .val (.int c2), .val (.int c3), .val (.ref b196), .unset, .unset, .unset, .unset, .unset] [(.ref b201)]))
    refine own_st (fun _ k => XS.dup X203.here hx rfl (hb hby at_150) rfl rfl k) ?_
    show own_Go p e below s _ _ _ (T203.setTop (mkF m 151 #[.val (.int pa), .val (.int pb), .val (.int pd), .val (.int pe), .val (.int pn), .val (.int (4 : Int32)), .val (.int c0), .val (.int c1), .val (.int c2), .val (.int c3), .val (.ref b196), .unset, .unset, .unset, .unset, .unset] [(.ref b201), (.ref b201)]))
    refine own_st (fun _ k => XS.iconst X203.here hx rfl (hb hby at_151) k) ?_
    show own_Go p e below s _ _ _ (T203.setTop (mkF m 152 #[.val (.int pa), .val (.int pb), .val (.int pd), .val (.int pe), .val (.int pn), .val (.int (4 : Int32)), .val (.int c0), .val (.int c1), .val (.int c2), .val (.int c3), .val (.ref b196), .unset, .unset, .unset, .unset, .unset] [(.int (2 : Int32)), (.ref b201), (.ref b201)]))
    refine own_st (fun _ k => XS.iload X203.here hx rfl (hb hby at_152) rfl k) ?_
    show own_Go p e below s _ _ _ (T203.setTop (mkF m 154 #[.val (.int pa), .val (.int pb), .val (.int pd), .val (.int pe), .val (.int pn), .val (.int (4 : Int32)), .val (.int c0), .val (.int c1), .val (.int c2), .val (.int c3), .val (.ref b196), .unset, .unset, .unset, .unset, .unset] [(.int c2), (.int (2 : Int32)), (.ref b201), (.ref b201)]))
    obtain ⟨c204, Ar204, q204, S204, M204, H204, U204⟩ := V203
    obtain ⟨T204, h204, X204, e204, W204, st204⟩ := stC X203 hx hZ e203 Ar204 (j := (2 : Int32)) (inb_of S204 ⟨by decide, by decide⟩) (g := (mkF m 154 #[.val (.int pa), .val (.int pb), .val (.int pd), .val (.int pe), .val (.int pn), .val (.int (4 : Int32)), .val (.int c0), .val (.int c1), .val (.int c2), .val (.int c3), .val (.ref b196), .unset, .unset, .unset, .unset, .unset] [(.int c2), (.int (2 : Int32)), (.ref b201), (.ref b201)])) rfl rfl (hb hby at_154)
    have V204 : Arv Z h204 b201 k201 .char (4 : Int32) [(.int c0), (.int c1), (.int c2), (.int (0 : Int32))] (.int (0 : Int32)) := by
      have q := Arv.set Ar204 q204 S204 M204 H204 U204 (fits_nar_char _) W204 2 rfl (Nat.le_of_ble_eq_true rfl)
      rw [own_narC (own_up1 hc2)] at q
      exact q
    have K204 := Keep.of_wr W204
    have N204 := Fr.snoc X204 N203 (by omega : n0 ≤ b201)
    refine own_st st204 ?_
    have zK204 := K204.1
    show own_Go p e below s _ _ _ (T204.setTop (mkF m 155 #[.val (.int pa), .val (.int pb), .val (.int pd), .val (.int pe), .val (.int pn), .val (.int (4 : Int32)), .val (.int c0), .val (.int c1), .val (.int c2), .val (.int c3), .val (.ref b196), .unset, .unset, .unset, .unset, .unset] [(.ref b201)]))
    refine own_st (fun _ k => XS.dup X204.here hx rfl (hb hby at_155) rfl rfl k) ?_
    show own_Go p e below s _ _ _ (T204.setTop (mkF m 156 #[.val (.int pa), .val (.int pb), .val (.int pd), .val (.int pe), .val (.int pn), .val (.int (4 : Int32)), .val (.int c0), .val (.int c1), .val (.int c2), .val (.int c3), .val (.ref b196), .unset, .unset, .unset, .unset, .unset] [(.ref b201), (.ref b201)]))
    refine own_st (fun _ k => XS.iconst X204.here hx rfl (hb hby at_156) k) ?_
    show own_Go p e below s _ _ _ (T204.setTop (mkF m 157 #[.val (.int pa), .val (.int pb), .val (.int pd), .val (.int pe), .val (.int pn), .val (.int (4 : Int32)), .val (.int c0), .val (.int c1), .val (.int c2), .val (.int c3), .val (.ref b196), .unset, .unset, .unset, .unset, .unset] [(.int (3 : Int32)), (.ref b201), (.ref b201)]))
    refine own_st (fun _ k => XS.iload X204.here hx rfl (hb hby at_157) rfl k) ?_
    show own_Go p e below s _ _ _ (T204.setTop (mkF m 159 #[.val (.int pa), .val (.int pb), .val (.int pd), .val (.int pe), .val (.int pn), .val (.int (4 : Int32)), .val (.int c0), .val (.int c1), .val (.int c2), .val (.int c3), .val (.ref b196), .unset, .unset, .unset, .unset, .unset] [(.int c3), (.int (3 : Int32)), (.ref b201), (.ref b201)]))
    obtain ⟨c205, Ar205, q205, S205, M205, H205, U205⟩ := V204
    obtain ⟨T205, h205, X205, e205, W205, st205⟩ := stC X204 hx hZ e204 Ar205 (j := (3 : Int32)) (inb_of S205 ⟨by decide, by decide⟩) (g := (mkF m 159 #[.val (.int pa), .val (.int pb), .val (.int pd), .val (.int pe), .val (.int pn), .val (.int (4 : Int32)), .val (.int c0), .val (.int c1), .val (.int c2), .val (.int c3), .val (.ref b196), .unset, .unset, .unset, .unset, .unset] [(.int c3), (.int (3 : Int32)), (.ref b201), (.ref b201)])) rfl rfl (hb hby at_159)
    have V205 : Arv Z h205 b201 k201 .char (4 : Int32) [(.int c0), (.int c1), (.int c2), (.int c3)] (.int (0 : Int32)) := by
      have q := Arv.set Ar205 q205 S205 M205 H205 U205 (fits_nar_char _) W205 3 rfl (Nat.le_of_ble_eq_true rfl)
      rw [own_narC (own_up1 hc3)] at q
      exact q
    have K205 := Keep.of_wr W205
    have N205 := Fr.snoc X205 N204 (by omega : n0 ≤ b201)
    refine own_st st205 ?_
    have zK205 := K205.1
    show own_Go p e below s _ _ _ (T205.setTop (mkF m 160 #[.val (.int pa), .val (.int pb), .val (.int pd), .val (.int pe), .val (.int pn), .val (.int (4 : Int32)), .val (.int c0), .val (.int c1), .val (.int c2), .val (.int c3), .val (.ref b196), .unset, .unset, .unset, .unset, .unset] [(.ref b201)]))
    refine own_st (fun _ k => XS.astore X205.here hx rfl (hb hby at_160) rfl rfl (l' := #[.val (.int pa), .val (.int pb), .val (.int pd), .val (.int pe), .val (.int pn), .val (.int (4 : Int32)), .val (.int c0), .val (.int c1), .val (.int c2), .val (.int c3), .val (.ref b196), .val (.ref b201), .unset, .unset, .unset, .unset]) rfl k) ?_
    show own_Go p e below s _ _ _ (T205.setTop (mkF m 162 #[.val (.int pa), .val (.int pb), .val (.int pd), .val (.int pe), .val (.int pn), .val (.int (4 : Int32)), .val (.int c0), .val (.int c1), .val (.int c2), .val (.int c3), .val (.ref b196), .val (.ref b201), .unset, .unset, .unset, .unset] []))
    obtain ⟨T206, h206, X206, e206, E206, A206, D206, -, st206⟩ := newO X205 hx hZ hown (hw _ (List.mem_of_getElem? (i := 1) rfl)) (hw _ (List.mem_of_getElem? (i := 2) rfl)) (hw _ (List.mem_of_getElem? (i := 3) rfl)) e205 (g := (mkF m 162 #[.val (.int pa), .val (.int pb), .val (.int pd), .val (.int pe), .val (.int pn), .val (.int (4 : Int32)), .val (.int c0), .val (.int c1), .val (.int c2), .val (.int c3), .val (.ref b196), .val (.ref b201), .unset, .unset, .unset, .unset] [])) rfl (hb hby at_162) (by decide) (by decide)
    obtain ⟨b206, g206⟩ : ∃ z, z = h205.size := ⟨_, rfl⟩
    rw [← g206] at A206 D206 st206
    have K206 : Keep h205 h206 [] := (Keep.refl _ _).ext E206
    have l206 : b206 < h206.size := A206.lt
    refine own_st st206 ?_
    have zK206 := K206.1
    show own_Go p e below s _ _ _ (T206.setTop (mkF m 165 #[.val (.int pa), .val (.int pb), .val (.int pd), .val (.int pe), .val (.int pn), .val (.int (4 : Int32)), .val (.int c0), .val (.int c1), .val (.int c2), .val (.int c3), .val (.ref b196), .val (.ref b201), .unset, .unset, .unset, .unset] [(.ref b206)]))
    refine own_st (fun _ k => XS.dup X206.here hx rfl (hb hby at_165) rfl rfl k) ?_
    show own_Go p e below s _ _ _ (T206.setTop (mkF m 166 #[.val (.int pa), .val (.int pb), .val (.int pd), .val (.int pe), .val (.int pn), .val (.int (4 : Int32)), .val (.int c0), .val (.int c1), .val (.int c2), .val (.int c3), .val (.ref b196), .val (.ref b201), .unset, .unset, .unset, .unset] [(.ref b206), (.ref b206)]))
    refine own_st (fun _ k => XS.aload X206.here hx rfl (hb hby at_166) rfl rfl k) ?_
    show own_Go p e below s _ _ _ (T206.setTop (mkF m 168 #[.val (.int pa), .val (.int pb), .val (.int pd), .val (.int pe), .val (.int pn), .val (.int (4 : Int32)), .val (.int c0), .val (.int c1), .val (.int c2), .val (.int c3), .val (.ref b196), .val (.ref b201), .unset, .unset, .unset, .unset] [(.ref b201), (.ref b206), (.ref b206)]))
    have F_value_b206 : Fld Z h206 b206 "java/lang/String" "value" "[B" .null := D206 (Or.inr (hw _ (List.mem_of_getElem? (i := 29) rfl))) (ty := (.array .byte)) (by decide)
    have F_coder_b206 : Fld Z h206 b206 "java/lang/String" "coder" "B" (.int (0 : Int32)) := D206 (Or.inr (hw _ (List.mem_of_getElem? (i := 27) rfl))) (ty := .byte) (by decide)
    have f207 := (V205.keep ((Keep.refl h205 []).trans K206 all0) nin0)
    have O208 : Old Z n0 h206 := O0.keep ((((((((((((Keep.refl h0 []).trans K196 all0).trans K197 (allS (Or.inr (by omega)) all0)).trans K198 (allS (Or.inr (by omega)) all0)).trans K199 (allS (Or.inr (by omega)) all0)).trans K200 (allS (Or.inr (by omega)) all0)).trans K201 all0).trans K202 (allS (Or.inr (by omega)) all0)).trans K203 (allS (Or.inr (by omega)) all0)).trans K204 (allS (Or.inr (by omega)) all0)).trans K205 (allS (Or.inr (by omega)) all0)).trans K206 all0) all0
    obtain ⟨T209, v209, L209, h209, X209, e209, q209, st209⟩ := own_callI X206 hx hZ (y := (⟨"java/lang/String", "<init>", "([C)V"⟩ : MethodName)) rfl hown (hw _ (List.mem_of_getElem? (i := 4) rfl)) (hw _ (List.mem_of_getElem? (i := 5) rfl)) (hw _ (List.mem_of_getElem? (i := 6) rfl)) (by decide) (own_nsB (W := 1) hZ (own_wNew hw) (kI := 4) (hw _ (List.mem_of_getElem? (i := 2) rfl)) (cs := [c0, c1, c2, c3]) (n := 4) (by omega : n0 ≤ b206) O208 CS A206 F_value_b206 F_coder_b206 f207 rfl rfl (by decide) (by decide) (own_allC hc0 (own_allC hc1 (own_allC hc2 (own_all1 hc3)))) (by decide) (by decide)) e206 (by decide) (by decide) (g := (mkF m 168 #[.val (.int pa), .val (.int pb), .val (.int pd), .val (.int pe), .val (.int pn), .val (.int (4 : Int32)), .val (.int c0), .val (.int c1), .val (.int c2), .val (.int c3), .val (.ref b196), .val (.ref b201), .unset, .unset, .unset, .unset] [(.ref b201), (.ref b206), (.ref b206)])) rfl (by rw [hml]; rfl) (a := b206) (argsL := [(.ref b201)]) (rest := [(.ref b206)]) (lenOf pd__28_5bC_29V rfl) rfl rfl (by show 2 * 0 + _ ≤ _; exact Nat.le_of_eq rfl) (hb hby at_168)
    obtain ⟨rfl, N209q, K209, S209⟩ := q209
    refine own_st st209 ?_
    have zK209 := K209.1
    have N209 := Fr.app N205 N209q
    have A209 := S209.1
    show own_Go p e below s _ _ _ (T209.setTop (mkF m 171 #[.val (.int pa), .val (.int pb), .val (.int pd), .val (.int pe), .val (.int pn), .val (.int (4 : Int32)), .val (.int c0), .val (.int c1), .val (.int c2), .val (.int c3), .val (.ref b196), .val (.ref b201), .unset, .unset, .unset, .unset] [(.ref b206)]))
    refine own_st (fun _ k => XS.astore X209.here hx rfl (hb hby at_171) rfl rfl (l' := #[.val (.int pa), .val (.int pb), .val (.int pd), .val (.int pe), .val (.int pn), .val (.int (4 : Int32)), .val (.int c0), .val (.int c1), .val (.int c2), .val (.int c3), .val (.ref b196), .val (.ref b201), .val (.ref b206), .unset, .unset, .unset]) rfl k) ?_
    show own_Go p e below s _ _ _ (T209.setTop (mkF m 173 #[.val (.int pa), .val (.int pb), .val (.int pd), .val (.int pe), .val (.int pn), .val (.int (4 : Int32)), .val (.int c0), .val (.int c1), .val (.int c2), .val (.int c3), .val (.ref b196), .val (.ref b201), .val (.ref b206), .unset, .unset, .unset] []))
    have G210 : ∀ (Tj : State) (Lj : List Loc) (f l2 : Nat), (f < 4) → (∀ j, j < f → own_ws ([c0, c1, c2, c3].getD j 0)) → (¬ own_ws ([c0, c1, c2, c3].getD f 0)) → (f ≤ l2) → (l2 < 4) → (∀ j, l2 + 1 ≤ j → j < 4 → own_ws ([c0, c1, c2, c3].getD j 0)) → (¬ own_ws ([c0, c1, c2, c3].getD (l2 + 1 - 1) 0)) → Stand p l e room_1 s m #[(.int pa), (.int pb), (.int pd), (.int pe), (.int pn)] below meth c Tj Lj 4 16 → Tj.heap = h209 → Fr n0 Lj → own_Go p e below s (fun v h L => v = some (.int 1) ∧ Fr n0 L) room_1.cells room_1.slots (Tj.setTop (mkF m 320 #[.val (.int pa), .val (.int pb), .val (.int pd), .val (.int pe), .val (.int pn), .val (.int (4 : Int32)), .val (.int c0), .val (.int c1), .val (.int c2), .val (.int c3), .val (.ref b196), .val (.ref b201), .val (.ref b206), .val (.int (Int32.ofNat f)), .val (.int (Int32.ofNat l2)), .unset] [])) := by
      intro TG210 LG210 f l2 hf hf1 hf2 hfl hl hl1 hl2 XG210 eG210 NG210
      have hbd : ∀ c ∈ [c0, c1, c2, c3], ¬ c < 0 ∧ ¬ (255 : Int32) < c := (own_allC hc0 (own_allC hc1 (own_allC hc2 (own_all1 hc3))))
      have hds : ∀ j, f ≤ j → j ≤ l2 → j - f < (([c0, c1, c2, c3].drop f).take (l2 + 1 - f)).length ∧ (([c0, c1, c2, c3].drop f).take (l2 + 1 - f)).getD (j - f) 0 = [c0, c1, c2, c3].getD j 0 := by
        intro j h1 h2
        have e1 : (([c0, c1, c2, c3].drop f).take (l2 + 1 - f)).length = l2 + 1 - f := by rw [List.length_take, List.length_drop]; show min _ (4 - f) = _; omega
        refine ⟨by rw [e1]; omega, ?_⟩
        have e2 : j - f < l2 + 1 - f := by omega
        rw [List.getD_eq_getElem?_getD, List.getElem?_take, if_pos e2, List.getElem?_drop, show f + (j - f) = j from by omega]
        have e3 : j < 4 := by omega
        match j, e3 with
        | 0, _ => rfl
        | 1, _ => rfl
        | 2, _ => rfl
        | 3, _ => rfl
      have hdb : ∀ c ∈ (([c0, c1, c2, c3].drop f).take (l2 + 1 - f)), ¬ (255 : Int32) < c := fun c hc => (hbd c (own_memdt hc)).2
      have hln : (([c0, c1, c2, c3].drop f).take (l2 + 1 - f)).length = l2 + 1 - f := by rw [List.length_take, List.length_drop]; show min _ (4 - f) = _; omega
      refine own_st (fun _ k => XS.aload XG210.here hx rfl (hb hby at_320) rfl rfl k) ?_
      show own_Go p e below s _ _ _ (TG210.setTop (mkF m 322 #[.val (.int pa), .val (.int pb), .val (.int pd), .val (.int pe), .val (.int pn), .val (.int (4 : Int32)), .val (.int c0), .val (.int c1), .val (.int c2), .val (.int c3), .val (.ref b196), .val (.ref b201), .val (.ref b206), .val (.int (Int32.ofNat f)), .val (.int (Int32.ofNat l2)), .unset] [(.ref b206)]))
      have O212 : Old Z n0 h209 := O208.keep ((Keep.refl h206 [b206]).trans K209 (allS (Or.inl (by simp)) all0)) (allS (by omega) all0)
      obtain ⟨T211, X211, e211, st211⟩ := getS2 XG210 hx hZ hown (host := "") (Or.inl (hw _ (List.mem_of_getElem? (i := 34) rfl))) Via.refl eG210 (Sr.ext O212.2) (g := (mkF m 322 #[.val (.int pa), .val (.int pb), .val (.int pd), .val (.int pe), .val (.int pn), .val (.int (4 : Int32)), .val (.int c0), .val (.int c1), .val (.int c2), .val (.int c3), .val (.ref b196), .val (.ref b201), .val (.ref b206), .val (.int (Int32.ofNat f)), .val (.int (Int32.ofNat l2)), .unset] [(.ref b206)])) rfl (hb hby at_322)
      refine own_st st211 ?_
      show own_Go p e below s _ _ _ (T211.setTop (mkF m 325 #[.val (.int pa), .val (.int pb), .val (.int pd), .val (.int pe), .val (.int pn), .val (.int (4 : Int32)), .val (.int c0), .val (.int c1), .val (.int c2), .val (.int c3), .val (.ref b196), .val (.ref b201), .val (.ref b206), .val (.int (Int32.ofNat f)), .val (.int (Int32.ofNat l2)), .unset] [(.ref ar), (.ref b206)]))
      obtain ⟨T213, v213, L213, h213, X213, e213, q213, st213⟩ := own_callS X211 hx hZ (y := (⟨"com/example/shelfproof/shelfproof/library/Requests", "required", "(Ljava/lang/String;Lcom/example/shelfproof/shelfproof/library/Refusal;)Ljava/lang/String;"⟩ : MethodName)) hown (hw _ (List.mem_of_getElem? (i := 37) rfl)) (hw _ (List.mem_of_getElem? (i := 38) rfl)) (hw _ (List.mem_of_getElem? (i := 39) rfl)) (hw _ (List.mem_of_getElem? (i := 40) rfl)) (by decide) (own_bk (W := 0) (rqW l Z a0 hw b206 ar [c0, c1, c2, c3] f (l2 + 1) h209 n0 O212 CS CDs (show 4 ≤ 4 from by decide) hbd hf hf1 hf2 (by omega) (by show l2 + 1 ≤ 4; omega) hl1 hl2 S209) hZ (hw _ (List.mem_of_getElem? (i := 40) rfl)) (hw _ (List.mem_of_getElem? (i := 39) rfl)) (by decide) (by decide)) e211 (by decide) (by decide) (g := (mkF m 325 #[.val (.int pa), .val (.int pb), .val (.int pd), .val (.int pe), .val (.int pn), .val (.int (4 : Int32)), .val (.int c0), .val (.int c1), .val (.int c2), .val (.int c3), .val (.ref b196), .val (.ref b201), .val (.ref b206), .val (.int (Int32.ofNat f)), .val (.int (Int32.ofNat l2)), .unset] [(.ref ar), (.ref b206)])) rfl (by rw [hml]; rfl) (argsL := [(.ref b206), (.ref ar)]) (rest := []) (lenOf pd__28Ljava_2flang_2fString_3bLcom_2fexample_2fshelfproof_2fshelfproof_2flibrary_2fRefusal_3b_29Ljava_2flang_2fString_3b rfl) rfl rfl (by show 2 * 0 + _ ≤ _; exact Nat.le_of_eq rfl) (hb hby at_325)
      obtain ⟨N213q, K213, b213, rfl, S213⟩ := q213
      refine own_st st213 ?_
      have zK213 := K213.1
      have N213 := Fr.app NG210 N213q
      show own_Go p e below s _ _ _ (T213.setTop (mkF m 328 #[.val (.int pa), .val (.int pb), .val (.int pd), .val (.int pe), .val (.int pn), .val (.int (4 : Int32)), .val (.int c0), .val (.int c1), .val (.int c2), .val (.int c3), .val (.ref b196), .val (.ref b201), .val (.ref b206), .val (.int (Int32.ofNat f)), .val (.int (Int32.ofNat l2)), .unset] [(.ref b213)]))
      refine own_st (fun _ k => XS.astore X213.here hx rfl (hb hby at_328) rfl rfl (l' := #[.val (.int pa), .val (.int pb), .val (.int pd), .val (.int pe), .val (.int pn), .val (.int (4 : Int32)), .val (.int c0), .val (.int c1), .val (.int c2), .val (.int c3), .val (.ref b196), .val (.ref b201), .val (.ref b206), .val (.int (Int32.ofNat f)), .val (.int (Int32.ofNat l2)), .val (.ref b213)]) rfl k) ?_
      show own_Go p e below s _ _ _ (T213.setTop (mkF m 330 #[.val (.int pa), .val (.int pb), .val (.int pd), .val (.int pe), .val (.int pn), .val (.int (4 : Int32)), .val (.int c0), .val (.int c1), .val (.int c2), .val (.int c3), .val (.ref b196), .val (.ref b201), .val (.ref b206), .val (.int (Int32.ofNat f)), .val (.int (Int32.ofNat l2)), .val (.ref b213)] []))
      refine own_st (fun _ k => XS.aload X213.here hx rfl (hb hby at_330) rfl rfl k) ?_
      show own_Go p e below s _ _ _ (T213.setTop (mkF m 332 #[.val (.int pa), .val (.int pb), .val (.int pd), .val (.int pe), .val (.int pn), .val (.int (4 : Int32)), .val (.int c0), .val (.int c1), .val (.int c2), .val (.int c3), .val (.ref b196), .val (.ref b201), .val (.ref b206), .val (.int (Int32.ofNat f)), .val (.int (Int32.ofNat l2)), .val (.ref b213)] [(.ref b213)]))
      have O214 : Old Z n0 h213 := O212.keep ((Keep.refl h209 []).trans K213 all0) all0
      obtain ⟨T215, v215, L215, h215, X215, e215, q215, st215⟩ := own_callV X213 hx hZ (y := (⟨"java/lang/String", "length", "()I"⟩ : MethodName)) (z := (⟨"java/lang/String", "length", "()I"⟩ : MethodName)) hown (hw _ (List.mem_of_getElem? (i := 85) rfl)) (hw _ (List.mem_of_getElem? (i := 86) rfl)) (notFace_of_selects (args := #[]) (mvT hZ (hw _ (List.mem_of_getElem? (i := 88) rfl)))) (hw _ (List.mem_of_getElem? (i := 88) rfl)) (hw _ (List.mem_of_getElem? (i := 87) rfl)) (by decide) (own_lenB (W := 0) hZ (own_wLen hw) (kI := 4) (hw _ (List.mem_of_getElem? (i := 2) rfl)) O214 CS S213 (by decide) (by decide)) e213 S213.1 (by decide) (by decide) (g := (mkF m 332 #[.val (.int pa), .val (.int pb), .val (.int pd), .val (.int pe), .val (.int pn), .val (.int (4 : Int32)), .val (.int c0), .val (.int c1), .val (.int c2), .val (.int c3), .val (.ref b196), .val (.ref b201), .val (.ref b206), .val (.int (Int32.ofNat f)), .val (.int (Int32.ofNat l2)), .val (.ref b213)] [(.ref b213)])) rfl (by rw [hml]; rfl) (argsL := []) (rest := []) (lenOf pd__28_29I rfl) rfl rfl (by show 2 * 0 + _ ≤ _; exact Nat.le_of_eq rfl) (hb hby at_332)
      obtain ⟨rfl, N215q, hq215⟩ := q215
      replace e215 := e215.trans hq215
      refine own_st st215 ?_
      have N215 := Fr.app N213 N215q
      show own_Go p e below s _ _ _ (T215.setTop (mkF m 335 #[.val (.int pa), .val (.int pb), .val (.int pd), .val (.int pe), .val (.int pn), .val (.int (4 : Int32)), .val (.int c0), .val (.int c1), .val (.int c2), .val (.int c3), .val (.ref b196), .val (.ref b201), .val (.ref b206), .val (.int (Int32.ofNat f)), .val (.int (Int32.ofNat l2)), .val (.ref b213)] [(.int (Int32.ofNat ((([c0, c1, c2, c3].drop f).take (l2 + 1 - f))).length))]))
      refine own_st (fun _ k => XS.iload X215.here hx rfl (hb hby at_335) rfl k) ?_
      show own_Go p e below s _ _ _ (T215.setTop (mkF m 337 #[.val (.int pa), .val (.int pb), .val (.int pd), .val (.int pe), .val (.int pn), .val (.int (4 : Int32)), .val (.int c0), .val (.int c1), .val (.int c2), .val (.int c3), .val (.ref b196), .val (.ref b201), .val (.ref b206), .val (.int (Int32.ofNat f)), .val (.int (Int32.ofNat l2)), .val (.ref b213)] [(.int (Int32.ofNat l2)), (.int (Int32.ofNat ((([c0, c1, c2, c3].drop f).take (l2 + 1 - f))).length))]))
      refine own_st (fun _ k => XS.iload X215.here hx rfl (hb hby at_337) rfl k) ?_
      show own_Go p e below s _ _ _ (T215.setTop (mkF m 339 #[.val (.int pa), .val (.int pb), .val (.int pd), .val (.int pe), .val (.int pn), .val (.int (4 : Int32)), .val (.int c0), .val (.int c1), .val (.int c2), .val (.int c3), .val (.ref b196), .val (.ref b201), .val (.ref b206), .val (.int (Int32.ofNat f)), .val (.int (Int32.ofNat l2)), .val (.ref b213)] [(.int (Int32.ofNat f)), (.int (Int32.ofNat l2)), (.int (Int32.ofNat ((([c0, c1, c2, c3].drop f).take (l2 + 1 - f))).length))]))
      refine own_st (fun _ k => XS.isub X215.here hx rfl (hb hby at_339) rfl k) ?_
      show own_Go p e below s _ _ _ (T215.setTop (mkF m 340 #[.val (.int pa), .val (.int pb), .val (.int pd), .val (.int pe), .val (.int pn), .val (.int (4 : Int32)), .val (.int c0), .val (.int c1), .val (.int c2), .val (.int c3), .val (.ref b196), .val (.ref b201), .val (.ref b206), .val (.int (Int32.ofNat f)), .val (.int (Int32.ofNat l2)), .val (.ref b213)] [(.int ((Int32.ofNat l2) - (Int32.ofNat f))), (.int (Int32.ofNat ((([c0, c1, c2, c3].drop f).take (l2 + 1 - f))).length))]))
      refine own_st (fun _ k => XS.iconst X215.here hx rfl (hb hby at_340) k) ?_
      show own_Go p e below s _ _ _ (T215.setTop (mkF m 341 #[.val (.int pa), .val (.int pb), .val (.int pd), .val (.int pe), .val (.int pn), .val (.int (4 : Int32)), .val (.int c0), .val (.int c1), .val (.int c2), .val (.int c3), .val (.ref b196), .val (.ref b201), .val (.ref b206), .val (.int (Int32.ofNat f)), .val (.int (Int32.ofNat l2)), .val (.ref b213)] [(.int (1 : Int32)), (.int ((Int32.ofNat l2) - (Int32.ofNat f))), (.int (Int32.ofNat ((([c0, c1, c2, c3].drop f).take (l2 + 1 - f))).length))]))
      refine own_st (fun _ k => XS.iadd X215.here hx rfl (hb hby at_341) rfl k) ?_
      show own_Go p e below s _ _ _ (T215.setTop (mkF m 342 #[.val (.int pa), .val (.int pb), .val (.int pd), .val (.int pe), .val (.int pn), .val (.int (4 : Int32)), .val (.int c0), .val (.int c1), .val (.int c2), .val (.int c3), .val (.ref b196), .val (.ref b201), .val (.ref b206), .val (.int (Int32.ofNat f)), .val (.int (Int32.ofNat l2)), .val (.ref b213)] [(.int (((Int32.ofNat l2) - (Int32.ofNat f)) + (1 : Int32))), (.int (Int32.ofNat ((([c0, c1, c2, c3].drop f).take (l2 + 1 - f))).length))]))
      rw [own_sub1 hfl (by omega)]
      show own_Go p e below s _ _ _ (T215.setTop (mkF m 342 #[.val (.int pa), .val (.int pb), .val (.int pd), .val (.int pe), .val (.int pn), .val (.int (4 : Int32)), .val (.int c0), .val (.int c1), .val (.int c2), .val (.int c3), .val (.ref b196), .val (.ref b201), .val (.ref b206), .val (.int (Int32.ofNat f)), .val (.int (Int32.ofNat l2)), .val (.ref b213)] [(.int (Int32.ofNat (l2 + 1 - f))), (.int (Int32.ofNat ((([c0, c1, c2, c3].drop f).take (l2 + 1 - f))).length))]))
      refine own_st (fun _ k => XS.icmpYes X215.here hx rfl (pc0 := 342) (pc' := 347) rfl (hb hby at_342) rfl (teq (by rw [hln])).1 (by decide) (by decide) k) ?_
      show own_Go p e below s _ _ _ (T215.setTop (mkF m 347 #[.val (.int pa), .val (.int pb), .val (.int pd), .val (.int pe), .val (.int pn), .val (.int (4 : Int32)), .val (.int c0), .val (.int c1), .val (.int c2), .val (.int c3), .val (.ref b196), .val (.ref b201), .val (.ref b206), .val (.int (Int32.ofNat f)), .val (.int (Int32.ofNat l2)), .val (.ref b213)] []))
      refine own_st (fun _ k => XS.aload X215.here hx rfl (hb hby at_347) rfl rfl k) ?_
      show own_Go p e below s _ _ _ (T215.setTop (mkF m 349 #[.val (.int pa), .val (.int pb), .val (.int pd), .val (.int pe), .val (.int pn), .val (.int (4 : Int32)), .val (.int c0), .val (.int c1), .val (.int c2), .val (.int c3), .val (.ref b196), .val (.ref b201), .val (.ref b206), .val (.int (Int32.ofNat f)), .val (.int (Int32.ofNat l2)), .val (.ref b213)] [(.ref b213)]))
      refine own_st (fun _ k => XS.aload X215.here hx rfl (hb hby at_349) rfl rfl k) ?_
      show own_Go p e below s _ _ _ (T215.setTop (mkF m 351 #[.val (.int pa), .val (.int pb), .val (.int pd), .val (.int pe), .val (.int pn), .val (.int (4 : Int32)), .val (.int c0), .val (.int c1), .val (.int c2), .val (.int c3), .val (.ref b196), .val (.ref b201), .val (.ref b206), .val (.int (Int32.ofNat f)), .val (.int (Int32.ofNat l2)), .val (.ref b213)] [(.ref b196), (.ref b213)]))
      refine own_st (fun _ k => XS.iconst X215.here hx rfl (hb hby at_351) k) ?_
      show own_Go p e below s _ _ _ (T215.setTop (mkF m 352 #[.val (.int pa), .val (.int pb), .val (.int pd), .val (.int pe), .val (.int pn), .val (.int (4 : Int32)), .val (.int c0), .val (.int c1), .val (.int c2), .val (.int c3), .val (.ref b196), .val (.ref b201), .val (.ref b206), .val (.int (Int32.ofNat f)), .val (.int (Int32.ofNat l2)), .val (.ref b213)] [(.int (0 : Int32)), (.ref b196), (.ref b213)]))
      refine own_st (fun _ k => XS.iload X215.here hx rfl (hb hby at_352) rfl k) ?_
      show own_Go p e below s _ _ _ (T215.setTop (mkF m 354 #[.val (.int pa), .val (.int pb), .val (.int pd), .val (.int pe), .val (.int pn), .val (.int (4 : Int32)), .val (.int c0), .val (.int c1), .val (.int c2), .val (.int c3), .val (.ref b196), .val (.ref b201), .val (.ref b206), .val (.int (Int32.ofNat f)), .val (.int (Int32.ofNat l2)), .val (.ref b213)] [(.int (Int32.ofNat f)), (.int (0 : Int32)), (.ref b196), (.ref b213)]))
      refine own_st (fun _ k => XS.iload X215.here hx rfl (hb hby at_354) rfl k) ?_
      show own_Go p e below s _ _ _ (T215.setTop (mkF m 356 #[.val (.int pa), .val (.int pb), .val (.int pd), .val (.int pe), .val (.int pn), .val (.int (4 : Int32)), .val (.int c0), .val (.int c1), .val (.int c2), .val (.int c3), .val (.ref b196), .val (.ref b201), .val (.ref b206), .val (.int (Int32.ofNat f)), .val (.int (Int32.ofNat l2)), .val (.ref b213)] [(.int (Int32.ofNat l2)), (.int (Int32.ofNat f)), (.int (0 : Int32)), (.ref b196), (.ref b213)]))
      have f216 := (V200.keep (((((((((Keep.refl h200 []).trans K201 all0).trans K202 (allS (Or.inr (by omega)) all0)).trans K203 (allS (Or.inr (by omega)) all0)).trans K204 (allS (Or.inr (by omega)) all0)).trans K205 (allS (Or.inr (by omega)) all0)).trans K206 all0).trans K209 (allS (Or.inr (by omega)) all0)).trans K213 all0) nin0)
      obtain ⟨T217, v217, L217, h217, X217, e217, q217, st217⟩ := own_callS X215 hx hZ (y := (⟨"com/example/shelfproof/shelfproof/library/RequestsRequiredPinLaw", "at", "(Ljava/lang/String;[CIII)Z"⟩ : MethodName)) hown (hw _ (List.mem_of_getElem? (i := 95) rfl)) (hw _ (List.mem_of_getElem? (i := 96) rfl)) (hw _ (List.mem_of_getElem? (i := 32) rfl)) (hw _ (List.mem_of_getElem? (i := 97) rfl)) (by decide) (own_bk (W := 0) (atW l Z a0 hw b213 b196 _ [c0, c1, c2, c3] (([c0, c1, c2, c3].drop f).take (l2 + 1 - f)) 0 f l2 h213 n0 O214 CS FM hds (by omega) rfl (by decide) hfl hdb S213 f216) hZ (hw _ (List.mem_of_getElem? (i := 97) rfl)) (hw _ (List.mem_of_getElem? (i := 32) rfl)) (by decide) (by decide)) e215 (by decide) (by decide) (g := (mkF m 356 #[.val (.int pa), .val (.int pb), .val (.int pd), .val (.int pe), .val (.int pn), .val (.int (4 : Int32)), .val (.int c0), .val (.int c1), .val (.int c2), .val (.int c3), .val (.ref b196), .val (.ref b201), .val (.ref b206), .val (.int (Int32.ofNat f)), .val (.int (Int32.ofNat l2)), .val (.ref b213)] [(.int (Int32.ofNat l2)), (.int (Int32.ofNat f)), (.int (0 : Int32)), (.ref b196), (.ref b213)])) rfl (by rw [hml]; rfl) (argsL := [(.ref b213), (.ref b196), (.int (0 : Int32)), (.int (Int32.ofNat f)), (.int (Int32.ofNat l2))]) (rest := []) (lenOf pd__28Ljava_2flang_2fString_3b_5bCIII_29Z rfl) rfl rfl (by show 2 * 0 + _ ≤ _; exact Nat.le_of_eq rfl) (hb hby at_356)
      obtain ⟨rfl, N217q, hq217⟩ := q217
      replace e217 := e217.trans hq217
      refine own_st st217 ?_
      have N217 := Fr.app N215 N217q
      show own_Go p e below s _ _ _ (T217.setTop (mkF m 359 #[.val (.int pa), .val (.int pb), .val (.int pd), .val (.int pe), .val (.int pn), .val (.int (4 : Int32)), .val (.int c0), .val (.int c1), .val (.int c2), .val (.int c3), .val (.ref b196), .val (.ref b201), .val (.ref b206), .val (.int (Int32.ofNat f)), .val (.int (Int32.ofNat l2)), .val (.ref b213)] [(.int (1 : Int32))]))
      refine own_st (fun _ k => XS.ifNo X217.here hx rfl (hb hby at_359) rfl ((if0 _ _).trans (feq (by decide)).1) k) ?_
      show own_Go p e below s _ _ _ (T217.setTop (mkF m 362 #[.val (.int pa), .val (.int pb), .val (.int pd), .val (.int pe), .val (.int pn), .val (.int (4 : Int32)), .val (.int c0), .val (.int c1), .val (.int c2), .val (.int c3), .val (.ref b196), .val (.ref b201), .val (.ref b206), .val (.int (Int32.ofNat f)), .val (.int (Int32.ofNat l2)), .val (.ref b213)] []))
      refine own_st (fun _ k => XS.aload X217.here hx rfl (hb hby at_362) rfl rfl k) ?_
      show own_Go p e below s _ _ _ (T217.setTop (mkF m 364 #[.val (.int pa), .val (.int pb), .val (.int pd), .val (.int pe), .val (.int pn), .val (.int (4 : Int32)), .val (.int c0), .val (.int c1), .val (.int c2), .val (.int c3), .val (.ref b196), .val (.ref b201), .val (.ref b206), .val (.int (Int32.ofNat f)), .val (.int (Int32.ofNat l2)), .val (.ref b213)] [(.ref b213)]))
      refine own_st (fun _ k => XS.aload X217.here hx rfl (hb hby at_364) rfl rfl k) ?_
      show own_Go p e below s _ _ _ (T217.setTop (mkF m 366 #[.val (.int pa), .val (.int pb), .val (.int pd), .val (.int pe), .val (.int pn), .val (.int (4 : Int32)), .val (.int c0), .val (.int c1), .val (.int c2), .val (.int c3), .val (.ref b196), .val (.ref b201), .val (.ref b206), .val (.int (Int32.ofNat f)), .val (.int (Int32.ofNat l2)), .val (.ref b213)] [(.ref b196), (.ref b213)]))
      refine own_st (fun _ k => XS.iconst X217.here hx rfl (hb hby at_366) k) ?_
      show own_Go p e below s _ _ _ (T217.setTop (mkF m 367 #[.val (.int pa), .val (.int pb), .val (.int pd), .val (.int pe), .val (.int pn), .val (.int (4 : Int32)), .val (.int c0), .val (.int c1), .val (.int c2), .val (.int c3), .val (.ref b196), .val (.ref b201), .val (.ref b206), .val (.int (Int32.ofNat f)), .val (.int (Int32.ofNat l2)), .val (.ref b213)] [(.int (1 : Int32)), (.ref b196), (.ref b213)]))
      refine own_st (fun _ k => XS.iload X217.here hx rfl (hb hby at_367) rfl k) ?_
      show own_Go p e below s _ _ _ (T217.setTop (mkF m 369 #[.val (.int pa), .val (.int pb), .val (.int pd), .val (.int pe), .val (.int pn), .val (.int (4 : Int32)), .val (.int c0), .val (.int c1), .val (.int c2), .val (.int c3), .val (.ref b196), .val (.ref b201), .val (.ref b206), .val (.int (Int32.ofNat f)), .val (.int (Int32.ofNat l2)), .val (.ref b213)] [(.int (Int32.ofNat f)), (.int (1 : Int32)), (.ref b196), (.ref b213)]))
      refine own_st (fun _ k => XS.iload X217.here hx rfl (hb hby at_369) rfl k) ?_
      show own_Go p e below s _ _ _ (T217.setTop (mkF m 371 #[.val (.int pa), .val (.int pb), .val (.int pd), .val (.int pe), .val (.int pn), .val (.int (4 : Int32)), .val (.int c0), .val (.int c1), .val (.int c2), .val (.int c3), .val (.ref b196), .val (.ref b201), .val (.ref b206), .val (.int (Int32.ofNat f)), .val (.int (Int32.ofNat l2)), .val (.ref b213)] [(.int (Int32.ofNat l2)), (.int (Int32.ofNat f)), (.int (1 : Int32)), (.ref b196), (.ref b213)]))
      obtain ⟨T218, v218, L218, h218, X218, e218, q218, st218⟩ := own_callS X217 hx hZ (y := (⟨"com/example/shelfproof/shelfproof/library/RequestsRequiredPinLaw", "at", "(Ljava/lang/String;[CIII)Z"⟩ : MethodName)) hown (hw _ (List.mem_of_getElem? (i := 95) rfl)) (hw _ (List.mem_of_getElem? (i := 96) rfl)) (hw _ (List.mem_of_getElem? (i := 32) rfl)) (hw _ (List.mem_of_getElem? (i := 97) rfl)) (by decide) (own_bk (W := 0) (atW l Z a0 hw b213 b196 _ [c0, c1, c2, c3] (([c0, c1, c2, c3].drop f).take (l2 + 1 - f)) 1 f l2 h213 n0 O214 CS FM hds (by omega) rfl (by decide) hfl hdb S213 f216) hZ (hw _ (List.mem_of_getElem? (i := 97) rfl)) (hw _ (List.mem_of_getElem? (i := 32) rfl)) (by decide) (by decide)) e217 (by decide) (by decide) (g := (mkF m 371 #[.val (.int pa), .val (.int pb), .val (.int pd), .val (.int pe), .val (.int pn), .val (.int (4 : Int32)), .val (.int c0), .val (.int c1), .val (.int c2), .val (.int c3), .val (.ref b196), .val (.ref b201), .val (.ref b206), .val (.int (Int32.ofNat f)), .val (.int (Int32.ofNat l2)), .val (.ref b213)] [(.int (Int32.ofNat l2)), (.int (Int32.ofNat f)), (.int (1 : Int32)), (.ref b196), (.ref b213)])) rfl (by rw [hml]; rfl) (argsL := [(.ref b213), (.ref b196), (.int (1 : Int32)), (.int (Int32.ofNat f)), (.int (Int32.ofNat l2))]) (rest := []) (lenOf pd__28Ljava_2flang_2fString_3b_5bCIII_29Z rfl) rfl rfl (by show 2 * 0 + _ ≤ _; exact Nat.le_of_eq rfl) (hb hby at_371)
      obtain ⟨rfl, N218q, hq218⟩ := q218
      replace e218 := e218.trans hq218
      refine own_st st218 ?_
      have N218 := Fr.app N217 N218q
      show own_Go p e below s _ _ _ (T218.setTop (mkF m 374 #[.val (.int pa), .val (.int pb), .val (.int pd), .val (.int pe), .val (.int pn), .val (.int (4 : Int32)), .val (.int c0), .val (.int c1), .val (.int c2), .val (.int c3), .val (.ref b196), .val (.ref b201), .val (.ref b206), .val (.int (Int32.ofNat f)), .val (.int (Int32.ofNat l2)), .val (.ref b213)] [(.int (1 : Int32))]))
      refine own_st (fun _ k => XS.ifNo X218.here hx rfl (hb hby at_374) rfl ((if0 _ _).trans (feq (by decide)).1) k) ?_
      show own_Go p e below s _ _ _ (T218.setTop (mkF m 377 #[.val (.int pa), .val (.int pb), .val (.int pd), .val (.int pe), .val (.int pn), .val (.int (4 : Int32)), .val (.int c0), .val (.int c1), .val (.int c2), .val (.int c3), .val (.ref b196), .val (.ref b201), .val (.ref b206), .val (.int (Int32.ofNat f)), .val (.int (Int32.ofNat l2)), .val (.ref b213)] []))
      refine own_st (fun _ k => XS.aload X218.here hx rfl (hb hby at_377) rfl rfl k) ?_
      show own_Go p e below s _ _ _ (T218.setTop (mkF m 379 #[.val (.int pa), .val (.int pb), .val (.int pd), .val (.int pe), .val (.int pn), .val (.int (4 : Int32)), .val (.int c0), .val (.int c1), .val (.int c2), .val (.int c3), .val (.ref b196), .val (.ref b201), .val (.ref b206), .val (.int (Int32.ofNat f)), .val (.int (Int32.ofNat l2)), .val (.ref b213)] [(.ref b213)]))
      refine own_st (fun _ k => XS.aload X218.here hx rfl (hb hby at_379) rfl rfl k) ?_
      show own_Go p e below s _ _ _ (T218.setTop (mkF m 381 #[.val (.int pa), .val (.int pb), .val (.int pd), .val (.int pe), .val (.int pn), .val (.int (4 : Int32)), .val (.int c0), .val (.int c1), .val (.int c2), .val (.int c3), .val (.ref b196), .val (.ref b201), .val (.ref b206), .val (.int (Int32.ofNat f)), .val (.int (Int32.ofNat l2)), .val (.ref b213)] [(.ref b196), (.ref b213)]))
      refine own_st (fun _ k => XS.iconst X218.here hx rfl (hb hby at_381) k) ?_
      show own_Go p e below s _ _ _ (T218.setTop (mkF m 382 #[.val (.int pa), .val (.int pb), .val (.int pd), .val (.int pe), .val (.int pn), .val (.int (4 : Int32)), .val (.int c0), .val (.int c1), .val (.int c2), .val (.int c3), .val (.ref b196), .val (.ref b201), .val (.ref b206), .val (.int (Int32.ofNat f)), .val (.int (Int32.ofNat l2)), .val (.ref b213)] [(.int (2 : Int32)), (.ref b196), (.ref b213)]))
      refine own_st (fun _ k => XS.iload X218.here hx rfl (hb hby at_382) rfl k) ?_
      show own_Go p e below s _ _ _ (T218.setTop (mkF m 384 #[.val (.int pa), .val (.int pb), .val (.int pd), .val (.int pe), .val (.int pn), .val (.int (4 : Int32)), .val (.int c0), .val (.int c1), .val (.int c2), .val (.int c3), .val (.ref b196), .val (.ref b201), .val (.ref b206), .val (.int (Int32.ofNat f)), .val (.int (Int32.ofNat l2)), .val (.ref b213)] [(.int (Int32.ofNat f)), (.int (2 : Int32)), (.ref b196), (.ref b213)]))
      refine own_st (fun _ k => XS.iload X218.here hx rfl (hb hby at_384) rfl k) ?_
      show own_Go p e below s _ _ _ (T218.setTop (mkF m 386 #[.val (.int pa), .val (.int pb), .val (.int pd), .val (.int pe), .val (.int pn), .val (.int (4 : Int32)), .val (.int c0), .val (.int c1), .val (.int c2), .val (.int c3), .val (.ref b196), .val (.ref b201), .val (.ref b206), .val (.int (Int32.ofNat f)), .val (.int (Int32.ofNat l2)), .val (.ref b213)] [(.int (Int32.ofNat l2)), (.int (Int32.ofNat f)), (.int (2 : Int32)), (.ref b196), (.ref b213)]))
      obtain ⟨T219, v219, L219, h219, X219, e219, q219, st219⟩ := own_callS X218 hx hZ (y := (⟨"com/example/shelfproof/shelfproof/library/RequestsRequiredPinLaw", "at", "(Ljava/lang/String;[CIII)Z"⟩ : MethodName)) hown (hw _ (List.mem_of_getElem? (i := 95) rfl)) (hw _ (List.mem_of_getElem? (i := 96) rfl)) (hw _ (List.mem_of_getElem? (i := 32) rfl)) (hw _ (List.mem_of_getElem? (i := 97) rfl)) (by decide) (own_bk (W := 0) (atW l Z a0 hw b213 b196 _ [c0, c1, c2, c3] (([c0, c1, c2, c3].drop f).take (l2 + 1 - f)) 2 f l2 h213 n0 O214 CS FM hds (by omega) rfl (by decide) hfl hdb S213 f216) hZ (hw _ (List.mem_of_getElem? (i := 97) rfl)) (hw _ (List.mem_of_getElem? (i := 32) rfl)) (by decide) (by decide)) e218 (by decide) (by decide) (g := (mkF m 386 #[.val (.int pa), .val (.int pb), .val (.int pd), .val (.int pe), .val (.int pn), .val (.int (4 : Int32)), .val (.int c0), .val (.int c1), .val (.int c2), .val (.int c3), .val (.ref b196), .val (.ref b201), .val (.ref b206), .val (.int (Int32.ofNat f)), .val (.int (Int32.ofNat l2)), .val (.ref b213)] [(.int (Int32.ofNat l2)), (.int (Int32.ofNat f)), (.int (2 : Int32)), (.ref b196), (.ref b213)])) rfl (by rw [hml]; rfl) (argsL := [(.ref b213), (.ref b196), (.int (2 : Int32)), (.int (Int32.ofNat f)), (.int (Int32.ofNat l2))]) (rest := []) (lenOf pd__28Ljava_2flang_2fString_3b_5bCIII_29Z rfl) rfl rfl (by show 2 * 0 + _ ≤ _; exact Nat.le_of_eq rfl) (hb hby at_386)
      obtain ⟨rfl, N219q, hq219⟩ := q219
      replace e219 := e219.trans hq219
      refine own_st st219 ?_
      have N219 := Fr.app N218 N219q
      show own_Go p e below s _ _ _ (T219.setTop (mkF m 389 #[.val (.int pa), .val (.int pb), .val (.int pd), .val (.int pe), .val (.int pn), .val (.int (4 : Int32)), .val (.int c0), .val (.int c1), .val (.int c2), .val (.int c3), .val (.ref b196), .val (.ref b201), .val (.ref b206), .val (.int (Int32.ofNat f)), .val (.int (Int32.ofNat l2)), .val (.ref b213)] [(.int (1 : Int32))]))
      refine own_st (fun _ k => XS.ifNo X219.here hx rfl (hb hby at_389) rfl ((if0 _ _).trans (feq (by decide)).1) k) ?_
      show own_Go p e below s _ _ _ (T219.setTop (mkF m 392 #[.val (.int pa), .val (.int pb), .val (.int pd), .val (.int pe), .val (.int pn), .val (.int (4 : Int32)), .val (.int c0), .val (.int c1), .val (.int c2), .val (.int c3), .val (.ref b196), .val (.ref b201), .val (.ref b206), .val (.int (Int32.ofNat f)), .val (.int (Int32.ofNat l2)), .val (.ref b213)] []))
      refine own_st (fun _ k => XS.aload X219.here hx rfl (hb hby at_392) rfl rfl k) ?_
      show own_Go p e below s _ _ _ (T219.setTop (mkF m 394 #[.val (.int pa), .val (.int pb), .val (.int pd), .val (.int pe), .val (.int pn), .val (.int (4 : Int32)), .val (.int c0), .val (.int c1), .val (.int c2), .val (.int c3), .val (.ref b196), .val (.ref b201), .val (.ref b206), .val (.int (Int32.ofNat f)), .val (.int (Int32.ofNat l2)), .val (.ref b213)] [(.ref b213)]))
      refine own_st (fun _ k => XS.aload X219.here hx rfl (hb hby at_394) rfl rfl k) ?_
      show own_Go p e below s _ _ _ (T219.setTop (mkF m 396 #[.val (.int pa), .val (.int pb), .val (.int pd), .val (.int pe), .val (.int pn), .val (.int (4 : Int32)), .val (.int c0), .val (.int c1), .val (.int c2), .val (.int c3), .val (.ref b196), .val (.ref b201), .val (.ref b206), .val (.int (Int32.ofNat f)), .val (.int (Int32.ofNat l2)), .val (.ref b213)] [(.ref b196), (.ref b213)]))
      refine own_st (fun _ k => XS.iconst X219.here hx rfl (hb hby at_396) k) ?_
      show own_Go p e below s _ _ _ (T219.setTop (mkF m 397 #[.val (.int pa), .val (.int pb), .val (.int pd), .val (.int pe), .val (.int pn), .val (.int (4 : Int32)), .val (.int c0), .val (.int c1), .val (.int c2), .val (.int c3), .val (.ref b196), .val (.ref b201), .val (.ref b206), .val (.int (Int32.ofNat f)), .val (.int (Int32.ofNat l2)), .val (.ref b213)] [(.int (3 : Int32)), (.ref b196), (.ref b213)]))
      refine own_st (fun _ k => XS.iload X219.here hx rfl (hb hby at_397) rfl k) ?_
      show own_Go p e below s _ _ _ (T219.setTop (mkF m 399 #[.val (.int pa), .val (.int pb), .val (.int pd), .val (.int pe), .val (.int pn), .val (.int (4 : Int32)), .val (.int c0), .val (.int c1), .val (.int c2), .val (.int c3), .val (.ref b196), .val (.ref b201), .val (.ref b206), .val (.int (Int32.ofNat f)), .val (.int (Int32.ofNat l2)), .val (.ref b213)] [(.int (Int32.ofNat f)), (.int (3 : Int32)), (.ref b196), (.ref b213)]))
      refine own_st (fun _ k => XS.iload X219.here hx rfl (hb hby at_399) rfl k) ?_
      show own_Go p e below s _ _ _ (T219.setTop (mkF m 401 #[.val (.int pa), .val (.int pb), .val (.int pd), .val (.int pe), .val (.int pn), .val (.int (4 : Int32)), .val (.int c0), .val (.int c1), .val (.int c2), .val (.int c3), .val (.ref b196), .val (.ref b201), .val (.ref b206), .val (.int (Int32.ofNat f)), .val (.int (Int32.ofNat l2)), .val (.ref b213)] [(.int (Int32.ofNat l2)), (.int (Int32.ofNat f)), (.int (3 : Int32)), (.ref b196), (.ref b213)]))
      obtain ⟨T220, v220, L220, h220, X220, e220, q220, st220⟩ := own_callS X219 hx hZ (y := (⟨"com/example/shelfproof/shelfproof/library/RequestsRequiredPinLaw", "at", "(Ljava/lang/String;[CIII)Z"⟩ : MethodName)) hown (hw _ (List.mem_of_getElem? (i := 95) rfl)) (hw _ (List.mem_of_getElem? (i := 96) rfl)) (hw _ (List.mem_of_getElem? (i := 32) rfl)) (hw _ (List.mem_of_getElem? (i := 97) rfl)) (by decide) (own_bk (W := 0) (atW l Z a0 hw b213 b196 _ [c0, c1, c2, c3] (([c0, c1, c2, c3].drop f).take (l2 + 1 - f)) 3 f l2 h213 n0 O214 CS FM hds (by omega) rfl (by decide) hfl hdb S213 f216) hZ (hw _ (List.mem_of_getElem? (i := 97) rfl)) (hw _ (List.mem_of_getElem? (i := 32) rfl)) (by decide) (by decide)) e219 (by decide) (by decide) (g := (mkF m 401 #[.val (.int pa), .val (.int pb), .val (.int pd), .val (.int pe), .val (.int pn), .val (.int (4 : Int32)), .val (.int c0), .val (.int c1), .val (.int c2), .val (.int c3), .val (.ref b196), .val (.ref b201), .val (.ref b206), .val (.int (Int32.ofNat f)), .val (.int (Int32.ofNat l2)), .val (.ref b213)] [(.int (Int32.ofNat l2)), (.int (Int32.ofNat f)), (.int (3 : Int32)), (.ref b196), (.ref b213)])) rfl (by rw [hml]; rfl) (argsL := [(.ref b213), (.ref b196), (.int (3 : Int32)), (.int (Int32.ofNat f)), (.int (Int32.ofNat l2))]) (rest := []) (lenOf pd__28Ljava_2flang_2fString_3b_5bCIII_29Z rfl) rfl rfl (by show 2 * 0 + _ ≤ _; exact Nat.le_of_eq rfl) (hb hby at_401)
      obtain ⟨rfl, N220q, hq220⟩ := q220
      replace e220 := e220.trans hq220
      refine own_st st220 ?_
      have N220 := Fr.app N219 N220q
      show own_Go p e below s _ _ _ (T220.setTop (mkF m 404 #[.val (.int pa), .val (.int pb), .val (.int pd), .val (.int pe), .val (.int pn), .val (.int (4 : Int32)), .val (.int c0), .val (.int c1), .val (.int c2), .val (.int c3), .val (.ref b196), .val (.ref b201), .val (.ref b206), .val (.int (Int32.ofNat f)), .val (.int (Int32.ofNat l2)), .val (.ref b213)] [(.int (1 : Int32))]))
      refine own_st (fun _ k => XS.ifNo X220.here hx rfl (hb hby at_404) rfl ((if0 _ _).trans (feq (by decide)).1) k) ?_
      show own_Go p e below s _ _ _ (T220.setTop (mkF m 407 #[.val (.int pa), .val (.int pb), .val (.int pd), .val (.int pe), .val (.int pn), .val (.int (4 : Int32)), .val (.int c0), .val (.int c1), .val (.int c2), .val (.int c3), .val (.ref b196), .val (.ref b201), .val (.ref b206), .val (.int (Int32.ofNat f)), .val (.int (Int32.ofNat l2)), .val (.ref b213)] []))
      refine own_st (fun _ k => XS.iconst X220.here hx rfl (hb hby at_407) k) ?_
      show own_Go p e below s _ _ _ (T220.setTop (mkF m 408 #[.val (.int pa), .val (.int pb), .val (.int pd), .val (.int pe), .val (.int pn), .val (.int (4 : Int32)), .val (.int c0), .val (.int c1), .val (.int c2), .val (.int c3), .val (.ref b196), .val (.ref b201), .val (.ref b206), .val (.int (Int32.ofNat f)), .val (.int (Int32.ofNat l2)), .val (.ref b213)] [(.int (1 : Int32))]))
      refine own_st (fun _ k => XS.goto X220.here hx rfl (pc0 := 408) (pc' := 412) rfl (hb hby at_408) (by decide) (by decide) k) ?_
      show own_Go p e below s _ _ _ (T220.setTop (mkF m 412 #[.val (.int pa), .val (.int pb), .val (.int pd), .val (.int pe), .val (.int pn), .val (.int (4 : Int32)), .val (.int c0), .val (.int c1), .val (.int c2), .val (.int c3), .val (.ref b196), .val (.ref b201), .val (.ref b206), .val (.int (Int32.ofNat f)), .val (.int (Int32.ofNat l2)), .val (.ref b213)] [(.int (1 : Int32))]))
      exact own_ret X220 hx hlk e220 hret (by decide) (Or.inl ⟨rfl, Or.inr (Or.inl rfl), _, rfl⟩) (hb hby at_412) (by decide) (by decide) ⟨rfl, N220⟩
    refine own_st (fun _ k => XS.iload X209.here hx rfl (hb hby at_173) rfl k) ?_
    show own_Go p e below s _ _ _ (T209.setTop (mkF m 175 #[.val (.int pa), .val (.int pb), .val (.int pd), .val (.int pe), .val (.int pn), .val (.int (4 : Int32)), .val (.int c0), .val (.int c1), .val (.int c2), .val (.int c3), .val (.ref b196), .val (.ref b201), .val (.ref b206), .unset, .unset, .unset] [(.int c0)]))
    have O221 : Old Z n0 h209 := O208.keep ((Keep.refl h206 [b206]).trans K209 (allS (Or.inl (by simp)) all0)) (allS (by omega) all0)
    obtain ⟨T222, v222, L222, h222, X222, e222, q222, st222⟩ := own_callS X209 hx hZ (y := (⟨"com/example/shelfproof/shelfproof/library/RequestsRequiredPinLaw", "ws", "(C)Z"⟩ : MethodName)) hown (hw _ (List.mem_of_getElem? (i := 30) rfl)) (hw _ (List.mem_of_getElem? (i := 31) rfl)) (hw _ (List.mem_of_getElem? (i := 32) rfl)) (hw _ (List.mem_of_getElem? (i := 33) rfl)) (by decide) (own_bk (W := 0) (wsW l Z a0 hw c0 h209 n0 O221) hZ (hw _ (List.mem_of_getElem? (i := 33) rfl)) (hw _ (List.mem_of_getElem? (i := 32) rfl)) (by decide) (by decide)) e209 (by decide) (by decide) (g := (mkF m 175 #[.val (.int pa), .val (.int pb), .val (.int pd), .val (.int pe), .val (.int pn), .val (.int (4 : Int32)), .val (.int c0), .val (.int c1), .val (.int c2), .val (.int c3), .val (.ref b196), .val (.ref b201), .val (.ref b206), .unset, .unset, .unset] [(.int c0)])) rfl (by rw [hml]; rfl) (argsL := [(.int c0)]) (rest := []) (lenOf pd__28C_29Z rfl) rfl rfl (by show 2 * 0 + _ ≤ _; exact Nat.le_of_eq rfl) (hb hby at_175)
    obtain ⟨rfl, N222q, hq222⟩ := q222
    replace e222 := e222.trans hq222
    refine own_st st222 ?_
    have N222 := Fr.app N209 N222q
    show own_Go p e below s _ _ _ (T222.setTop (mkF m 178 #[.val (.int pa), .val (.int pb), .val (.int pd), .val (.int pe), .val (.int pn), .val (.int (4 : Int32)), .val (.int c0), .val (.int c1), .val (.int c2), .val (.int c3), .val (.ref b196), .val (.ref b201), .val (.ref b206), .unset, .unset, .unset] [(.int (if own_ws c0 then (1 : Int32) else 0))]))
    by_cases c223 : (if own_ws c0 then (1 : Int32) else 0) = (0 : Int32)
    · refine own_st (fun _ k => XS.ifNo X222.here hx rfl (hb hby at_178) rfl ((if0 _ _).trans (teq c223).2) k) ?_
      show own_Go p e below s _ _ _ (T222.setTop (mkF m 181 #[.val (.int pa), .val (.int pb), .val (.int pd), .val (.int pe), .val (.int pn), .val (.int (4 : Int32)), .val (.int c0), .val (.int c1), .val (.int c2), .val (.int c3), .val (.ref b196), .val (.ref b201), .val (.ref b206), .unset, .unset, .unset] []))
      refine own_st (fun _ k => XS.iconst X222.here hx rfl (hb hby at_181) k) ?_
      show own_Go p e below s _ _ _ (T222.setTop (mkF m 182 #[.val (.int pa), .val (.int pb), .val (.int pd), .val (.int pe), .val (.int pn), .val (.int (4 : Int32)), .val (.int c0), .val (.int c1), .val (.int c2), .val (.int c3), .val (.ref b196), .val (.ref b201), .val (.ref b206), .unset, .unset, .unset] [(.int (0 : Int32))]))
      refine own_st (fun _ k => XS.istore X222.here hx rfl (hb hby at_182) rfl (l' := #[.val (.int pa), .val (.int pb), .val (.int pd), .val (.int pe), .val (.int pn), .val (.int (4 : Int32)), .val (.int c0), .val (.int c1), .val (.int c2), .val (.int c3), .val (.ref b196), .val (.ref b201), .val (.ref b206), .val (.int (0 : Int32)), .unset, .unset]) rfl k) ?_
      show own_Go p e below s _ _ _ (T222.setTop (mkF m 184 #[.val (.int pa), .val (.int pb), .val (.int pd), .val (.int pe), .val (.int pn), .val (.int (4 : Int32)), .val (.int c0), .val (.int c1), .val (.int c2), .val (.int c3), .val (.ref b196), .val (.ref b201), .val (.ref b206), .val (.int (0 : Int32)), .unset, .unset] []))
      refine own_st (fun _ k => XS.goto X222.here hx rfl (pc0 := 184) (pc' := 250) rfl (hb hby at_184) (by decide) (by decide) k) ?_
      show own_Go p e below s _ _ _ (T222.setTop (mkF m 250 #[.val (.int pa), .val (.int pb), .val (.int pd), .val (.int pe), .val (.int pn), .val (.int (4 : Int32)), .val (.int c0), .val (.int c1), .val (.int c2), .val (.int c3), .val (.ref b196), .val (.ref b201), .val (.ref b206), .val (.int (0 : Int32)), .unset, .unset] []))
      refine own_st (fun _ k => XS.iload X222.here hx rfl (hb hby at_250) rfl k) ?_
      show own_Go p e below s _ _ _ (T222.setTop (mkF m 252 #[.val (.int pa), .val (.int pb), .val (.int pd), .val (.int pe), .val (.int pn), .val (.int (4 : Int32)), .val (.int c0), .val (.int c1), .val (.int c2), .val (.int c3), .val (.ref b196), .val (.ref b201), .val (.ref b206), .val (.int (0 : Int32)), .unset, .unset] [(.int (0 : Int32))]))
      refine own_st (fun _ k => XS.ifYes X222.here hx rfl (pc0 := 252) (pc' := 257) rfl (hb hby at_252) rfl ((if0 _ _).trans (flt (by decide)).2.1) (by decide) (by decide) k) ?_
      show own_Go p e below s _ _ _ (T222.setTop (mkF m 257 #[.val (.int pa), .val (.int pb), .val (.int pd), .val (.int pe), .val (.int pn), .val (.int (4 : Int32)), .val (.int c0), .val (.int c1), .val (.int c2), .val (.int c3), .val (.ref b196), .val (.ref b201), .val (.ref b206), .val (.int (0 : Int32)), .unset, .unset] []))
      refine own_st (fun _ k => XS.iload X222.here hx rfl (hb hby at_257) rfl k) ?_
      show own_Go p e below s _ _ _ (T222.setTop (mkF m 259 #[.val (.int pa), .val (.int pb), .val (.int pd), .val (.int pe), .val (.int pn), .val (.int (4 : Int32)), .val (.int c0), .val (.int c1), .val (.int c2), .val (.int c3), .val (.ref b196), .val (.ref b201), .val (.ref b206), .val (.int (0 : Int32)), .unset, .unset] [(.int (4 : Int32))]))
      refine own_st (fun _ k => XS.iconst X222.here hx rfl (hb hby at_259) k) ?_
      show own_Go p e below s _ _ _ (T222.setTop (mkF m 260 #[.val (.int pa), .val (.int pb), .val (.int pd), .val (.int pe), .val (.int pn), .val (.int (4 : Int32)), .val (.int c0), .val (.int c1), .val (.int c2), .val (.int c3), .val (.ref b196), .val (.ref b201), .val (.ref b206), .val (.int (0 : Int32)), .unset, .unset] [(.int (3 : Int32)), (.int (4 : Int32))]))
      refine own_st (fun _ k => XS.icmpNo X222.here hx rfl (hb hby at_260) rfl (tlt (by decide)).2.2.2 k) ?_
      show own_Go p e below s _ _ _ (T222.setTop (mkF m 263 #[.val (.int pa), .val (.int pb), .val (.int pd), .val (.int pe), .val (.int pn), .val (.int (4 : Int32)), .val (.int c0), .val (.int c1), .val (.int c2), .val (.int c3), .val (.ref b196), .val (.ref b201), .val (.ref b206), .val (.int (0 : Int32)), .unset, .unset] []))
      refine own_st (fun _ k => XS.iload X222.here hx rfl (hb hby at_263) rfl k) ?_
      show own_Go p e below s _ _ _ (T222.setTop (mkF m 265 #[.val (.int pa), .val (.int pb), .val (.int pd), .val (.int pe), .val (.int pn), .val (.int (4 : Int32)), .val (.int c0), .val (.int c1), .val (.int c2), .val (.int c3), .val (.ref b196), .val (.ref b201), .val (.ref b206), .val (.int (0 : Int32)), .unset, .unset] [(.int c3)]))
      obtain ⟨T224, v224, L224, h224, X224, e224, q224, st224⟩ := own_callS X222 hx hZ (y := (⟨"com/example/shelfproof/shelfproof/library/RequestsRequiredPinLaw", "ws", "(C)Z"⟩ : MethodName)) hown (hw _ (List.mem_of_getElem? (i := 30) rfl)) (hw _ (List.mem_of_getElem? (i := 31) rfl)) (hw _ (List.mem_of_getElem? (i := 32) rfl)) (hw _ (List.mem_of_getElem? (i := 33) rfl)) (by decide) (own_bk (W := 0) (wsW l Z a0 hw c3 h209 n0 O221) hZ (hw _ (List.mem_of_getElem? (i := 33) rfl)) (hw _ (List.mem_of_getElem? (i := 32) rfl)) (by decide) (by decide)) e222 (by decide) (by decide) (g := (mkF m 265 #[.val (.int pa), .val (.int pb), .val (.int pd), .val (.int pe), .val (.int pn), .val (.int (4 : Int32)), .val (.int c0), .val (.int c1), .val (.int c2), .val (.int c3), .val (.ref b196), .val (.ref b201), .val (.ref b206), .val (.int (0 : Int32)), .unset, .unset] [(.int c3)])) rfl (by rw [hml]; rfl) (argsL := [(.int c3)]) (rest := []) (lenOf pd__28C_29Z rfl) rfl rfl (by show 2 * 0 + _ ≤ _; exact Nat.le_of_eq rfl) (hb hby at_265)
      obtain ⟨rfl, N224q, hq224⟩ := q224
      replace e224 := e224.trans hq224
      refine own_st st224 ?_
      have N224 := Fr.app N222 N224q
      show own_Go p e below s _ _ _ (T224.setTop (mkF m 268 #[.val (.int pa), .val (.int pb), .val (.int pd), .val (.int pe), .val (.int pn), .val (.int (4 : Int32)), .val (.int c0), .val (.int c1), .val (.int c2), .val (.int c3), .val (.ref b196), .val (.ref b201), .val (.ref b206), .val (.int (0 : Int32)), .unset, .unset] [(.int (if own_ws c3 then (1 : Int32) else 0))]))
      by_cases c225 : (if own_ws c3 then (1 : Int32) else 0) = (0 : Int32)
      · refine own_st (fun _ k => XS.ifNo X224.here hx rfl (hb hby at_268) rfl ((if0 _ _).trans (teq c225).2) k) ?_
        show own_Go p e below s _ _ _ (T224.setTop (mkF m 271 #[.val (.int pa), .val (.int pb), .val (.int pd), .val (.int pe), .val (.int pn), .val (.int (4 : Int32)), .val (.int c0), .val (.int c1), .val (.int c2), .val (.int c3), .val (.ref b196), .val (.ref b201), .val (.ref b206), .val (.int (0 : Int32)), .unset, .unset] []))
        refine own_st (fun _ k => XS.iconst X224.here hx rfl (hb hby at_271) k) ?_
        show own_Go p e below s _ _ _ (T224.setTop (mkF m 272 #[.val (.int pa), .val (.int pb), .val (.int pd), .val (.int pe), .val (.int pn), .val (.int (4 : Int32)), .val (.int c0), .val (.int c1), .val (.int c2), .val (.int c3), .val (.ref b196), .val (.ref b201), .val (.ref b206), .val (.int (0 : Int32)), .unset, .unset] [(.int (3 : Int32))]))
        refine own_st (fun _ k => XS.istore X224.here hx rfl (hb hby at_272) rfl (l' := #[.val (.int pa), .val (.int pb), .val (.int pd), .val (.int pe), .val (.int pn), .val (.int (4 : Int32)), .val (.int c0), .val (.int c1), .val (.int c2), .val (.int c3), .val (.ref b196), .val (.ref b201), .val (.ref b206), .val (.int (0 : Int32)), .val (.int (3 : Int32)), .unset]) rfl k) ?_
        show own_Go p e below s _ _ _ (T224.setTop (mkF m 274 #[.val (.int pa), .val (.int pb), .val (.int pd), .val (.int pe), .val (.int pn), .val (.int (4 : Int32)), .val (.int c0), .val (.int c1), .val (.int c2), .val (.int c3), .val (.ref b196), .val (.ref b201), .val (.ref b206), .val (.int (0 : Int32)), .val (.int (3 : Int32)), .unset] []))
        refine own_st (fun _ k => XS.goto X224.here hx rfl (pc0 := 274) (pc' := 320) rfl (hb hby at_274) (by decide) (by decide) k) ?_
        show own_Go p e below s _ _ _ (T224.setTop (mkF m 320 #[.val (.int pa), .val (.int pb), .val (.int pd), .val (.int pe), .val (.int pn), .val (.int (4 : Int32)), .val (.int c0), .val (.int c1), .val (.int c2), .val (.int c3), .val (.ref b196), .val (.ref b201), .val (.ref b206), .val (.int (0 : Int32)), .val (.int (3 : Int32)), .unset] []))
        exact G210 _ _ 0 3 (by decide) (fun j hj => absurd hj (by omega)) (own_ifF c223) (by decide) (by decide) (fun j hj hj2 => absurd hj2 (by omega)) (own_ifF c225) X224 e224 N224
      · refine own_st (fun _ k => XS.ifYes X224.here hx rfl (pc0 := 268) (pc' := 277) rfl (hb hby at_268) rfl ((if0 _ _).trans (feq c225).2) (by decide) (by decide) k) ?_
        show own_Go p e below s _ _ _ (T224.setTop (mkF m 277 #[.val (.int pa), .val (.int pb), .val (.int pd), .val (.int pe), .val (.int pn), .val (.int (4 : Int32)), .val (.int c0), .val (.int c1), .val (.int c2), .val (.int c3), .val (.ref b196), .val (.ref b201), .val (.ref b206), .val (.int (0 : Int32)), .unset, .unset] []))
        refine own_st (fun _ k => XS.iload X224.here hx rfl (hb hby at_277) rfl k) ?_
        show own_Go p e below s _ _ _ (T224.setTop (mkF m 279 #[.val (.int pa), .val (.int pb), .val (.int pd), .val (.int pe), .val (.int pn), .val (.int (4 : Int32)), .val (.int c0), .val (.int c1), .val (.int c2), .val (.int c3), .val (.ref b196), .val (.ref b201), .val (.ref b206), .val (.int (0 : Int32)), .unset, .unset] [(.int (4 : Int32))]))
        refine own_st (fun _ k => XS.iconst X224.here hx rfl (hb hby at_279) k) ?_
        show own_Go p e below s _ _ _ (T224.setTop (mkF m 280 #[.val (.int pa), .val (.int pb), .val (.int pd), .val (.int pe), .val (.int pn), .val (.int (4 : Int32)), .val (.int c0), .val (.int c1), .val (.int c2), .val (.int c3), .val (.ref b196), .val (.ref b201), .val (.ref b206), .val (.int (0 : Int32)), .unset, .unset] [(.int (2 : Int32)), (.int (4 : Int32))]))
        refine own_st (fun _ k => XS.icmpNo X224.here hx rfl (hb hby at_280) rfl (tlt (by decide)).2.2.2 k) ?_
        show own_Go p e below s _ _ _ (T224.setTop (mkF m 283 #[.val (.int pa), .val (.int pb), .val (.int pd), .val (.int pe), .val (.int pn), .val (.int (4 : Int32)), .val (.int c0), .val (.int c1), .val (.int c2), .val (.int c3), .val (.ref b196), .val (.ref b201), .val (.ref b206), .val (.int (0 : Int32)), .unset, .unset] []))
        refine own_st (fun _ k => XS.iload X224.here hx rfl (hb hby at_283) rfl k) ?_
        show own_Go p e below s _ _ _ (T224.setTop (mkF m 285 #[.val (.int pa), .val (.int pb), .val (.int pd), .val (.int pe), .val (.int pn), .val (.int (4 : Int32)), .val (.int c0), .val (.int c1), .val (.int c2), .val (.int c3), .val (.ref b196), .val (.ref b201), .val (.ref b206), .val (.int (0 : Int32)), .unset, .unset] [(.int c2)]))
        obtain ⟨T226, v226, L226, h226, X226, e226, q226, st226⟩ := own_callS X224 hx hZ (y := (⟨"com/example/shelfproof/shelfproof/library/RequestsRequiredPinLaw", "ws", "(C)Z"⟩ : MethodName)) hown (hw _ (List.mem_of_getElem? (i := 30) rfl)) (hw _ (List.mem_of_getElem? (i := 31) rfl)) (hw _ (List.mem_of_getElem? (i := 32) rfl)) (hw _ (List.mem_of_getElem? (i := 33) rfl)) (by decide) (own_bk (W := 0) (wsW l Z a0 hw c2 h209 n0 O221) hZ (hw _ (List.mem_of_getElem? (i := 33) rfl)) (hw _ (List.mem_of_getElem? (i := 32) rfl)) (by decide) (by decide)) e224 (by decide) (by decide) (g := (mkF m 285 #[.val (.int pa), .val (.int pb), .val (.int pd), .val (.int pe), .val (.int pn), .val (.int (4 : Int32)), .val (.int c0), .val (.int c1), .val (.int c2), .val (.int c3), .val (.ref b196), .val (.ref b201), .val (.ref b206), .val (.int (0 : Int32)), .unset, .unset] [(.int c2)])) rfl (by rw [hml]; rfl) (argsL := [(.int c2)]) (rest := []) (lenOf pd__28C_29Z rfl) rfl rfl (by show 2 * 0 + _ ≤ _; exact Nat.le_of_eq rfl) (hb hby at_285)
        obtain ⟨rfl, N226q, hq226⟩ := q226
        replace e226 := e226.trans hq226
        refine own_st st226 ?_
        have N226 := Fr.app N224 N226q
        show own_Go p e below s _ _ _ (T226.setTop (mkF m 288 #[.val (.int pa), .val (.int pb), .val (.int pd), .val (.int pe), .val (.int pn), .val (.int (4 : Int32)), .val (.int c0), .val (.int c1), .val (.int c2), .val (.int c3), .val (.ref b196), .val (.ref b201), .val (.ref b206), .val (.int (0 : Int32)), .unset, .unset] [(.int (if own_ws c2 then (1 : Int32) else 0))]))
        by_cases c227 : (if own_ws c2 then (1 : Int32) else 0) = (0 : Int32)
        · refine own_st (fun _ k => XS.ifNo X226.here hx rfl (hb hby at_288) rfl ((if0 _ _).trans (teq c227).2) k) ?_
          show own_Go p e below s _ _ _ (T226.setTop (mkF m 291 #[.val (.int pa), .val (.int pb), .val (.int pd), .val (.int pe), .val (.int pn), .val (.int (4 : Int32)), .val (.int c0), .val (.int c1), .val (.int c2), .val (.int c3), .val (.ref b196), .val (.ref b201), .val (.ref b206), .val (.int (0 : Int32)), .unset, .unset] []))
          refine own_st (fun _ k => XS.iconst X226.here hx rfl (hb hby at_291) k) ?_
          show own_Go p e below s _ _ _ (T226.setTop (mkF m 292 #[.val (.int pa), .val (.int pb), .val (.int pd), .val (.int pe), .val (.int pn), .val (.int (4 : Int32)), .val (.int c0), .val (.int c1), .val (.int c2), .val (.int c3), .val (.ref b196), .val (.ref b201), .val (.ref b206), .val (.int (0 : Int32)), .unset, .unset] [(.int (2 : Int32))]))
          refine own_st (fun _ k => XS.istore X226.here hx rfl (hb hby at_292) rfl (l' := #[.val (.int pa), .val (.int pb), .val (.int pd), .val (.int pe), .val (.int pn), .val (.int (4 : Int32)), .val (.int c0), .val (.int c1), .val (.int c2), .val (.int c3), .val (.ref b196), .val (.ref b201), .val (.ref b206), .val (.int (0 : Int32)), .val (.int (2 : Int32)), .unset]) rfl k) ?_
          show own_Go p e below s _ _ _ (T226.setTop (mkF m 294 #[.val (.int pa), .val (.int pb), .val (.int pd), .val (.int pe), .val (.int pn), .val (.int (4 : Int32)), .val (.int c0), .val (.int c1), .val (.int c2), .val (.int c3), .val (.ref b196), .val (.ref b201), .val (.ref b206), .val (.int (0 : Int32)), .val (.int (2 : Int32)), .unset] []))
          refine own_st (fun _ k => XS.goto X226.here hx rfl (pc0 := 294) (pc' := 320) rfl (hb hby at_294) (by decide) (by decide) k) ?_
          show own_Go p e below s _ _ _ (T226.setTop (mkF m 320 #[.val (.int pa), .val (.int pb), .val (.int pd), .val (.int pe), .val (.int pn), .val (.int (4 : Int32)), .val (.int c0), .val (.int c1), .val (.int c2), .val (.int c3), .val (.ref b196), .val (.ref b201), .val (.ref b206), .val (.int (0 : Int32)), .val (.int (2 : Int32)), .unset] []))
          exact G210 _ _ 0 2 (by decide) (fun j hj => absurd hj (by omega)) (own_ifF c223) (by decide) (by decide) (fun j hj hj2 => match j, (show 3 ≤ j ∧ j < 4 from by omega) with | 3, _ => (own_ifT c225)) (own_ifF c227) X226 e226 N226
        · refine own_st (fun _ k => XS.ifYes X226.here hx rfl (pc0 := 288) (pc' := 297) rfl (hb hby at_288) rfl ((if0 _ _).trans (feq c227).2) (by decide) (by decide) k) ?_
          show own_Go p e below s _ _ _ (T226.setTop (mkF m 297 #[.val (.int pa), .val (.int pb), .val (.int pd), .val (.int pe), .val (.int pn), .val (.int (4 : Int32)), .val (.int c0), .val (.int c1), .val (.int c2), .val (.int c3), .val (.ref b196), .val (.ref b201), .val (.ref b206), .val (.int (0 : Int32)), .unset, .unset] []))
          refine own_st (fun _ k => XS.iload X226.here hx rfl (hb hby at_297) rfl k) ?_
          show own_Go p e below s _ _ _ (T226.setTop (mkF m 299 #[.val (.int pa), .val (.int pb), .val (.int pd), .val (.int pe), .val (.int pn), .val (.int (4 : Int32)), .val (.int c0), .val (.int c1), .val (.int c2), .val (.int c3), .val (.ref b196), .val (.ref b201), .val (.ref b206), .val (.int (0 : Int32)), .unset, .unset] [(.int (4 : Int32))]))
          refine own_st (fun _ k => XS.iconst X226.here hx rfl (hb hby at_299) k) ?_
          show own_Go p e below s _ _ _ (T226.setTop (mkF m 300 #[.val (.int pa), .val (.int pb), .val (.int pd), .val (.int pe), .val (.int pn), .val (.int (4 : Int32)), .val (.int c0), .val (.int c1), .val (.int c2), .val (.int c3), .val (.ref b196), .val (.ref b201), .val (.ref b206), .val (.int (0 : Int32)), .unset, .unset] [(.int (1 : Int32)), (.int (4 : Int32))]))
          refine own_st (fun _ k => XS.icmpNo X226.here hx rfl (hb hby at_300) rfl (tlt (by decide)).2.2.2 k) ?_
          show own_Go p e below s _ _ _ (T226.setTop (mkF m 303 #[.val (.int pa), .val (.int pb), .val (.int pd), .val (.int pe), .val (.int pn), .val (.int (4 : Int32)), .val (.int c0), .val (.int c1), .val (.int c2), .val (.int c3), .val (.ref b196), .val (.ref b201), .val (.ref b206), .val (.int (0 : Int32)), .unset, .unset] []))
          refine own_st (fun _ k => XS.iload X226.here hx rfl (hb hby at_303) rfl k) ?_
          show own_Go p e below s _ _ _ (T226.setTop (mkF m 305 #[.val (.int pa), .val (.int pb), .val (.int pd), .val (.int pe), .val (.int pn), .val (.int (4 : Int32)), .val (.int c0), .val (.int c1), .val (.int c2), .val (.int c3), .val (.ref b196), .val (.ref b201), .val (.ref b206), .val (.int (0 : Int32)), .unset, .unset] [(.int c1)]))
          obtain ⟨T228, v228, L228, h228, X228, e228, q228, st228⟩ := own_callS X226 hx hZ (y := (⟨"com/example/shelfproof/shelfproof/library/RequestsRequiredPinLaw", "ws", "(C)Z"⟩ : MethodName)) hown (hw _ (List.mem_of_getElem? (i := 30) rfl)) (hw _ (List.mem_of_getElem? (i := 31) rfl)) (hw _ (List.mem_of_getElem? (i := 32) rfl)) (hw _ (List.mem_of_getElem? (i := 33) rfl)) (by decide) (own_bk (W := 0) (wsW l Z a0 hw c1 h209 n0 O221) hZ (hw _ (List.mem_of_getElem? (i := 33) rfl)) (hw _ (List.mem_of_getElem? (i := 32) rfl)) (by decide) (by decide)) e226 (by decide) (by decide) (g := (mkF m 305 #[.val (.int pa), .val (.int pb), .val (.int pd), .val (.int pe), .val (.int pn), .val (.int (4 : Int32)), .val (.int c0), .val (.int c1), .val (.int c2), .val (.int c3), .val (.ref b196), .val (.ref b201), .val (.ref b206), .val (.int (0 : Int32)), .unset, .unset] [(.int c1)])) rfl (by rw [hml]; rfl) (argsL := [(.int c1)]) (rest := []) (lenOf pd__28C_29Z rfl) rfl rfl (by show 2 * 0 + _ ≤ _; exact Nat.le_of_eq rfl) (hb hby at_305)
          obtain ⟨rfl, N228q, hq228⟩ := q228
          replace e228 := e228.trans hq228
          refine own_st st228 ?_
          have N228 := Fr.app N226 N228q
          show own_Go p e below s _ _ _ (T228.setTop (mkF m 308 #[.val (.int pa), .val (.int pb), .val (.int pd), .val (.int pe), .val (.int pn), .val (.int (4 : Int32)), .val (.int c0), .val (.int c1), .val (.int c2), .val (.int c3), .val (.ref b196), .val (.ref b201), .val (.ref b206), .val (.int (0 : Int32)), .unset, .unset] [(.int (if own_ws c1 then (1 : Int32) else 0))]))
          by_cases c229 : (if own_ws c1 then (1 : Int32) else 0) = (0 : Int32)
          · refine own_st (fun _ k => XS.ifNo X228.here hx rfl (hb hby at_308) rfl ((if0 _ _).trans (teq c229).2) k) ?_
            show own_Go p e below s _ _ _ (T228.setTop (mkF m 311 #[.val (.int pa), .val (.int pb), .val (.int pd), .val (.int pe), .val (.int pn), .val (.int (4 : Int32)), .val (.int c0), .val (.int c1), .val (.int c2), .val (.int c3), .val (.ref b196), .val (.ref b201), .val (.ref b206), .val (.int (0 : Int32)), .unset, .unset] []))
            refine own_st (fun _ k => XS.iconst X228.here hx rfl (hb hby at_311) k) ?_
            show own_Go p e below s _ _ _ (T228.setTop (mkF m 312 #[.val (.int pa), .val (.int pb), .val (.int pd), .val (.int pe), .val (.int pn), .val (.int (4 : Int32)), .val (.int c0), .val (.int c1), .val (.int c2), .val (.int c3), .val (.ref b196), .val (.ref b201), .val (.ref b206), .val (.int (0 : Int32)), .unset, .unset] [(.int (1 : Int32))]))
            refine own_st (fun _ k => XS.istore X228.here hx rfl (hb hby at_312) rfl (l' := #[.val (.int pa), .val (.int pb), .val (.int pd), .val (.int pe), .val (.int pn), .val (.int (4 : Int32)), .val (.int c0), .val (.int c1), .val (.int c2), .val (.int c3), .val (.ref b196), .val (.ref b201), .val (.ref b206), .val (.int (0 : Int32)), .val (.int (1 : Int32)), .unset]) rfl k) ?_
            show own_Go p e below s _ _ _ (T228.setTop (mkF m 314 #[.val (.int pa), .val (.int pb), .val (.int pd), .val (.int pe), .val (.int pn), .val (.int (4 : Int32)), .val (.int c0), .val (.int c1), .val (.int c2), .val (.int c3), .val (.ref b196), .val (.ref b201), .val (.ref b206), .val (.int (0 : Int32)), .val (.int (1 : Int32)), .unset] []))
            refine own_st (fun _ k => XS.goto X228.here hx rfl (pc0 := 314) (pc' := 320) rfl (hb hby at_314) (by decide) (by decide) k) ?_
            show own_Go p e below s _ _ _ (T228.setTop (mkF m 320 #[.val (.int pa), .val (.int pb), .val (.int pd), .val (.int pe), .val (.int pn), .val (.int (4 : Int32)), .val (.int c0), .val (.int c1), .val (.int c2), .val (.int c3), .val (.ref b196), .val (.ref b201), .val (.ref b206), .val (.int (0 : Int32)), .val (.int (1 : Int32)), .unset] []))
            exact G210 _ _ 0 1 (by decide) (fun j hj => absurd hj (by omega)) (own_ifF c223) (by decide) (by decide) (fun j hj hj2 => match j, (show 2 ≤ j ∧ j < 4 from by omega) with | 2, _ => (own_ifT c227) | 3, _ => (own_ifT c225)) (own_ifF c229) X228 e228 N228
          · refine own_st (fun _ k => XS.ifYes X228.here hx rfl (pc0 := 308) (pc' := 317) rfl (hb hby at_308) rfl ((if0 _ _).trans (feq c229).2) (by decide) (by decide) k) ?_
            show own_Go p e below s _ _ _ (T228.setTop (mkF m 317 #[.val (.int pa), .val (.int pb), .val (.int pd), .val (.int pe), .val (.int pn), .val (.int (4 : Int32)), .val (.int c0), .val (.int c1), .val (.int c2), .val (.int c3), .val (.ref b196), .val (.ref b201), .val (.ref b206), .val (.int (0 : Int32)), .unset, .unset] []))
            refine own_st (fun _ k => XS.iconst X228.here hx rfl (hb hby at_317) k) ?_
            show own_Go p e below s _ _ _ (T228.setTop (mkF m 318 #[.val (.int pa), .val (.int pb), .val (.int pd), .val (.int pe), .val (.int pn), .val (.int (4 : Int32)), .val (.int c0), .val (.int c1), .val (.int c2), .val (.int c3), .val (.ref b196), .val (.ref b201), .val (.ref b206), .val (.int (0 : Int32)), .unset, .unset] [(.int (0 : Int32))]))
            refine own_st (fun _ k => XS.istore X228.here hx rfl (hb hby at_318) rfl (l' := #[.val (.int pa), .val (.int pb), .val (.int pd), .val (.int pe), .val (.int pn), .val (.int (4 : Int32)), .val (.int c0), .val (.int c1), .val (.int c2), .val (.int c3), .val (.ref b196), .val (.ref b201), .val (.ref b206), .val (.int (0 : Int32)), .val (.int (0 : Int32)), .unset]) rfl k) ?_
            show own_Go p e below s _ _ _ (T228.setTop (mkF m 320 #[.val (.int pa), .val (.int pb), .val (.int pd), .val (.int pe), .val (.int pn), .val (.int (4 : Int32)), .val (.int c0), .val (.int c1), .val (.int c2), .val (.int c3), .val (.ref b196), .val (.ref b201), .val (.ref b206), .val (.int (0 : Int32)), .val (.int (0 : Int32)), .unset] []))
            exact G210 _ _ 0 0 (by decide) (fun j hj => absurd hj (by omega)) (own_ifF c223) (by decide) (by decide) (fun j hj hj2 => match j, (show 1 ≤ j ∧ j < 4 from by omega) with | 1, _ => (own_ifT c229) | 2, _ => (own_ifT c227) | 3, _ => (own_ifT c225)) (own_ifF c223) X228 e228 N228
    · refine own_st (fun _ k => XS.ifYes X222.here hx rfl (pc0 := 178) (pc' := 187) rfl (hb hby at_178) rfl ((if0 _ _).trans (feq c223).2) (by decide) (by decide) k) ?_
      show own_Go p e below s _ _ _ (T222.setTop (mkF m 187 #[.val (.int pa), .val (.int pb), .val (.int pd), .val (.int pe), .val (.int pn), .val (.int (4 : Int32)), .val (.int c0), .val (.int c1), .val (.int c2), .val (.int c3), .val (.ref b196), .val (.ref b201), .val (.ref b206), .unset, .unset, .unset] []))
      refine own_st (fun _ k => XS.iload X222.here hx rfl (hb hby at_187) rfl k) ?_
      show own_Go p e below s _ _ _ (T222.setTop (mkF m 189 #[.val (.int pa), .val (.int pb), .val (.int pd), .val (.int pe), .val (.int pn), .val (.int (4 : Int32)), .val (.int c0), .val (.int c1), .val (.int c2), .val (.int c3), .val (.ref b196), .val (.ref b201), .val (.ref b206), .unset, .unset, .unset] [(.int (4 : Int32))]))
      refine own_st (fun _ k => XS.iconst X222.here hx rfl (hb hby at_189) k) ?_
      show own_Go p e below s _ _ _ (T222.setTop (mkF m 190 #[.val (.int pa), .val (.int pb), .val (.int pd), .val (.int pe), .val (.int pn), .val (.int (4 : Int32)), .val (.int c0), .val (.int c1), .val (.int c2), .val (.int c3), .val (.ref b196), .val (.ref b201), .val (.ref b206), .unset, .unset, .unset] [(.int (1 : Int32)), (.int (4 : Int32))]))
      refine own_st (fun _ k => XS.icmpNo X222.here hx rfl (hb hby at_190) rfl (tlt (by decide)).2.2.2 k) ?_
      show own_Go p e below s _ _ _ (T222.setTop (mkF m 193 #[.val (.int pa), .val (.int pb), .val (.int pd), .val (.int pe), .val (.int pn), .val (.int (4 : Int32)), .val (.int c0), .val (.int c1), .val (.int c2), .val (.int c3), .val (.ref b196), .val (.ref b201), .val (.ref b206), .unset, .unset, .unset] []))
      refine own_st (fun _ k => XS.iload X222.here hx rfl (hb hby at_193) rfl k) ?_
      show own_Go p e below s _ _ _ (T222.setTop (mkF m 195 #[.val (.int pa), .val (.int pb), .val (.int pd), .val (.int pe), .val (.int pn), .val (.int (4 : Int32)), .val (.int c0), .val (.int c1), .val (.int c2), .val (.int c3), .val (.ref b196), .val (.ref b201), .val (.ref b206), .unset, .unset, .unset] [(.int c1)]))
      obtain ⟨T230, v230, L230, h230, X230, e230, q230, st230⟩ := own_callS X222 hx hZ (y := (⟨"com/example/shelfproof/shelfproof/library/RequestsRequiredPinLaw", "ws", "(C)Z"⟩ : MethodName)) hown (hw _ (List.mem_of_getElem? (i := 30) rfl)) (hw _ (List.mem_of_getElem? (i := 31) rfl)) (hw _ (List.mem_of_getElem? (i := 32) rfl)) (hw _ (List.mem_of_getElem? (i := 33) rfl)) (by decide) (own_bk (W := 0) (wsW l Z a0 hw c1 h209 n0 O221) hZ (hw _ (List.mem_of_getElem? (i := 33) rfl)) (hw _ (List.mem_of_getElem? (i := 32) rfl)) (by decide) (by decide)) e222 (by decide) (by decide) (g := (mkF m 195 #[.val (.int pa), .val (.int pb), .val (.int pd), .val (.int pe), .val (.int pn), .val (.int (4 : Int32)), .val (.int c0), .val (.int c1), .val (.int c2), .val (.int c3), .val (.ref b196), .val (.ref b201), .val (.ref b206), .unset, .unset, .unset] [(.int c1)])) rfl (by rw [hml]; rfl) (argsL := [(.int c1)]) (rest := []) (lenOf pd__28C_29Z rfl) rfl rfl (by show 2 * 0 + _ ≤ _; exact Nat.le_of_eq rfl) (hb hby at_195)
      obtain ⟨rfl, N230q, hq230⟩ := q230
      replace e230 := e230.trans hq230
      refine own_st st230 ?_
      have N230 := Fr.app N222 N230q
      show own_Go p e below s _ _ _ (T230.setTop (mkF m 198 #[.val (.int pa), .val (.int pb), .val (.int pd), .val (.int pe), .val (.int pn), .val (.int (4 : Int32)), .val (.int c0), .val (.int c1), .val (.int c2), .val (.int c3), .val (.ref b196), .val (.ref b201), .val (.ref b206), .unset, .unset, .unset] [(.int (if own_ws c1 then (1 : Int32) else 0))]))
      by_cases c231 : (if own_ws c1 then (1 : Int32) else 0) = (0 : Int32)
      · refine own_st (fun _ k => XS.ifNo X230.here hx rfl (hb hby at_198) rfl ((if0 _ _).trans (teq c231).2) k) ?_
        show own_Go p e below s _ _ _ (T230.setTop (mkF m 201 #[.val (.int pa), .val (.int pb), .val (.int pd), .val (.int pe), .val (.int pn), .val (.int (4 : Int32)), .val (.int c0), .val (.int c1), .val (.int c2), .val (.int c3), .val (.ref b196), .val (.ref b201), .val (.ref b206), .unset, .unset, .unset] []))
        refine own_st (fun _ k => XS.iconst X230.here hx rfl (hb hby at_201) k) ?_
        show own_Go p e below s _ _ _ (T230.setTop (mkF m 202 #[.val (.int pa), .val (.int pb), .val (.int pd), .val (.int pe), .val (.int pn), .val (.int (4 : Int32)), .val (.int c0), .val (.int c1), .val (.int c2), .val (.int c3), .val (.ref b196), .val (.ref b201), .val (.ref b206), .unset, .unset, .unset] [(.int (1 : Int32))]))
        refine own_st (fun _ k => XS.istore X230.here hx rfl (hb hby at_202) rfl (l' := #[.val (.int pa), .val (.int pb), .val (.int pd), .val (.int pe), .val (.int pn), .val (.int (4 : Int32)), .val (.int c0), .val (.int c1), .val (.int c2), .val (.int c3), .val (.ref b196), .val (.ref b201), .val (.ref b206), .val (.int (1 : Int32)), .unset, .unset]) rfl k) ?_
        show own_Go p e below s _ _ _ (T230.setTop (mkF m 204 #[.val (.int pa), .val (.int pb), .val (.int pd), .val (.int pe), .val (.int pn), .val (.int (4 : Int32)), .val (.int c0), .val (.int c1), .val (.int c2), .val (.int c3), .val (.ref b196), .val (.ref b201), .val (.ref b206), .val (.int (1 : Int32)), .unset, .unset] []))
        refine own_st (fun _ k => XS.goto X230.here hx rfl (pc0 := 204) (pc' := 250) rfl (hb hby at_204) (by decide) (by decide) k) ?_
        show own_Go p e below s _ _ _ (T230.setTop (mkF m 250 #[.val (.int pa), .val (.int pb), .val (.int pd), .val (.int pe), .val (.int pn), .val (.int (4 : Int32)), .val (.int c0), .val (.int c1), .val (.int c2), .val (.int c3), .val (.ref b196), .val (.ref b201), .val (.ref b206), .val (.int (1 : Int32)), .unset, .unset] []))
        refine own_st (fun _ k => XS.iload X230.here hx rfl (hb hby at_250) rfl k) ?_
        show own_Go p e below s _ _ _ (T230.setTop (mkF m 252 #[.val (.int pa), .val (.int pb), .val (.int pd), .val (.int pe), .val (.int pn), .val (.int (4 : Int32)), .val (.int c0), .val (.int c1), .val (.int c2), .val (.int c3), .val (.ref b196), .val (.ref b201), .val (.ref b206), .val (.int (1 : Int32)), .unset, .unset] [(.int (1 : Int32))]))
        refine own_st (fun _ k => XS.ifYes X230.here hx rfl (pc0 := 252) (pc' := 257) rfl (hb hby at_252) rfl ((if0 _ _).trans (flt (by decide)).2.1) (by decide) (by decide) k) ?_
        show own_Go p e below s _ _ _ (T230.setTop (mkF m 257 #[.val (.int pa), .val (.int pb), .val (.int pd), .val (.int pe), .val (.int pn), .val (.int (4 : Int32)), .val (.int c0), .val (.int c1), .val (.int c2), .val (.int c3), .val (.ref b196), .val (.ref b201), .val (.ref b206), .val (.int (1 : Int32)), .unset, .unset] []))
        refine own_st (fun _ k => XS.iload X230.here hx rfl (hb hby at_257) rfl k) ?_
        show own_Go p e below s _ _ _ (T230.setTop (mkF m 259 #[.val (.int pa), .val (.int pb), .val (.int pd), .val (.int pe), .val (.int pn), .val (.int (4 : Int32)), .val (.int c0), .val (.int c1), .val (.int c2), .val (.int c3), .val (.ref b196), .val (.ref b201), .val (.ref b206), .val (.int (1 : Int32)), .unset, .unset] [(.int (4 : Int32))]))
        refine own_st (fun _ k => XS.iconst X230.here hx rfl (hb hby at_259) k) ?_
        show own_Go p e below s _ _ _ (T230.setTop (mkF m 260 #[.val (.int pa), .val (.int pb), .val (.int pd), .val (.int pe), .val (.int pn), .val (.int (4 : Int32)), .val (.int c0), .val (.int c1), .val (.int c2), .val (.int c3), .val (.ref b196), .val (.ref b201), .val (.ref b206), .val (.int (1 : Int32)), .unset, .unset] [(.int (3 : Int32)), (.int (4 : Int32))]))
        refine own_st (fun _ k => XS.icmpNo X230.here hx rfl (hb hby at_260) rfl (tlt (by decide)).2.2.2 k) ?_
        show own_Go p e below s _ _ _ (T230.setTop (mkF m 263 #[.val (.int pa), .val (.int pb), .val (.int pd), .val (.int pe), .val (.int pn), .val (.int (4 : Int32)), .val (.int c0), .val (.int c1), .val (.int c2), .val (.int c3), .val (.ref b196), .val (.ref b201), .val (.ref b206), .val (.int (1 : Int32)), .unset, .unset] []))
        refine own_st (fun _ k => XS.iload X230.here hx rfl (hb hby at_263) rfl k) ?_
        show own_Go p e below s _ _ _ (T230.setTop (mkF m 265 #[.val (.int pa), .val (.int pb), .val (.int pd), .val (.int pe), .val (.int pn), .val (.int (4 : Int32)), .val (.int c0), .val (.int c1), .val (.int c2), .val (.int c3), .val (.ref b196), .val (.ref b201), .val (.ref b206), .val (.int (1 : Int32)), .unset, .unset] [(.int c3)]))
        obtain ⟨T232, v232, L232, h232, X232, e232, q232, st232⟩ := own_callS X230 hx hZ (y := (⟨"com/example/shelfproof/shelfproof/library/RequestsRequiredPinLaw", "ws", "(C)Z"⟩ : MethodName)) hown (hw _ (List.mem_of_getElem? (i := 30) rfl)) (hw _ (List.mem_of_getElem? (i := 31) rfl)) (hw _ (List.mem_of_getElem? (i := 32) rfl)) (hw _ (List.mem_of_getElem? (i := 33) rfl)) (by decide) (own_bk (W := 0) (wsW l Z a0 hw c3 h209 n0 O221) hZ (hw _ (List.mem_of_getElem? (i := 33) rfl)) (hw _ (List.mem_of_getElem? (i := 32) rfl)) (by decide) (by decide)) e230 (by decide) (by decide) (g := (mkF m 265 #[.val (.int pa), .val (.int pb), .val (.int pd), .val (.int pe), .val (.int pn), .val (.int (4 : Int32)), .val (.int c0), .val (.int c1), .val (.int c2), .val (.int c3), .val (.ref b196), .val (.ref b201), .val (.ref b206), .val (.int (1 : Int32)), .unset, .unset] [(.int c3)])) rfl (by rw [hml]; rfl) (argsL := [(.int c3)]) (rest := []) (lenOf pd__28C_29Z rfl) rfl rfl (by show 2 * 0 + _ ≤ _; exact Nat.le_of_eq rfl) (hb hby at_265)
        obtain ⟨rfl, N232q, hq232⟩ := q232
        replace e232 := e232.trans hq232
        refine own_st st232 ?_
        have N232 := Fr.app N230 N232q
        show own_Go p e below s _ _ _ (T232.setTop (mkF m 268 #[.val (.int pa), .val (.int pb), .val (.int pd), .val (.int pe), .val (.int pn), .val (.int (4 : Int32)), .val (.int c0), .val (.int c1), .val (.int c2), .val (.int c3), .val (.ref b196), .val (.ref b201), .val (.ref b206), .val (.int (1 : Int32)), .unset, .unset] [(.int (if own_ws c3 then (1 : Int32) else 0))]))
        by_cases c233 : (if own_ws c3 then (1 : Int32) else 0) = (0 : Int32)
        · refine own_st (fun _ k => XS.ifNo X232.here hx rfl (hb hby at_268) rfl ((if0 _ _).trans (teq c233).2) k) ?_
          show own_Go p e below s _ _ _ (T232.setTop (mkF m 271 #[.val (.int pa), .val (.int pb), .val (.int pd), .val (.int pe), .val (.int pn), .val (.int (4 : Int32)), .val (.int c0), .val (.int c1), .val (.int c2), .val (.int c3), .val (.ref b196), .val (.ref b201), .val (.ref b206), .val (.int (1 : Int32)), .unset, .unset] []))
          refine own_st (fun _ k => XS.iconst X232.here hx rfl (hb hby at_271) k) ?_
          show own_Go p e below s _ _ _ (T232.setTop (mkF m 272 #[.val (.int pa), .val (.int pb), .val (.int pd), .val (.int pe), .val (.int pn), .val (.int (4 : Int32)), .val (.int c0), .val (.int c1), .val (.int c2), .val (.int c3), .val (.ref b196), .val (.ref b201), .val (.ref b206), .val (.int (1 : Int32)), .unset, .unset] [(.int (3 : Int32))]))
          refine own_st (fun _ k => XS.istore X232.here hx rfl (hb hby at_272) rfl (l' := #[.val (.int pa), .val (.int pb), .val (.int pd), .val (.int pe), .val (.int pn), .val (.int (4 : Int32)), .val (.int c0), .val (.int c1), .val (.int c2), .val (.int c3), .val (.ref b196), .val (.ref b201), .val (.ref b206), .val (.int (1 : Int32)), .val (.int (3 : Int32)), .unset]) rfl k) ?_
          show own_Go p e below s _ _ _ (T232.setTop (mkF m 274 #[.val (.int pa), .val (.int pb), .val (.int pd), .val (.int pe), .val (.int pn), .val (.int (4 : Int32)), .val (.int c0), .val (.int c1), .val (.int c2), .val (.int c3), .val (.ref b196), .val (.ref b201), .val (.ref b206), .val (.int (1 : Int32)), .val (.int (3 : Int32)), .unset] []))
          refine own_st (fun _ k => XS.goto X232.here hx rfl (pc0 := 274) (pc' := 320) rfl (hb hby at_274) (by decide) (by decide) k) ?_
          show own_Go p e below s _ _ _ (T232.setTop (mkF m 320 #[.val (.int pa), .val (.int pb), .val (.int pd), .val (.int pe), .val (.int pn), .val (.int (4 : Int32)), .val (.int c0), .val (.int c1), .val (.int c2), .val (.int c3), .val (.ref b196), .val (.ref b201), .val (.ref b206), .val (.int (1 : Int32)), .val (.int (3 : Int32)), .unset] []))
          exact G210 _ _ 1 3 (by decide) (fun j hj => match j, (show 0 ≤ j ∧ j < 1 from by omega) with | 0, _ => (own_ifT c223)) (own_ifF c231) (by decide) (by decide) (fun j hj hj2 => absurd hj2 (by omega)) (own_ifF c233) X232 e232 N232
        · refine own_st (fun _ k => XS.ifYes X232.here hx rfl (pc0 := 268) (pc' := 277) rfl (hb hby at_268) rfl ((if0 _ _).trans (feq c233).2) (by decide) (by decide) k) ?_
          show own_Go p e below s _ _ _ (T232.setTop (mkF m 277 #[.val (.int pa), .val (.int pb), .val (.int pd), .val (.int pe), .val (.int pn), .val (.int (4 : Int32)), .val (.int c0), .val (.int c1), .val (.int c2), .val (.int c3), .val (.ref b196), .val (.ref b201), .val (.ref b206), .val (.int (1 : Int32)), .unset, .unset] []))
          refine own_st (fun _ k => XS.iload X232.here hx rfl (hb hby at_277) rfl k) ?_
          show own_Go p e below s _ _ _ (T232.setTop (mkF m 279 #[.val (.int pa), .val (.int pb), .val (.int pd), .val (.int pe), .val (.int pn), .val (.int (4 : Int32)), .val (.int c0), .val (.int c1), .val (.int c2), .val (.int c3), .val (.ref b196), .val (.ref b201), .val (.ref b206), .val (.int (1 : Int32)), .unset, .unset] [(.int (4 : Int32))]))
          refine own_st (fun _ k => XS.iconst X232.here hx rfl (hb hby at_279) k) ?_
          show own_Go p e below s _ _ _ (T232.setTop (mkF m 280 #[.val (.int pa), .val (.int pb), .val (.int pd), .val (.int pe), .val (.int pn), .val (.int (4 : Int32)), .val (.int c0), .val (.int c1), .val (.int c2), .val (.int c3), .val (.ref b196), .val (.ref b201), .val (.ref b206), .val (.int (1 : Int32)), .unset, .unset] [(.int (2 : Int32)), (.int (4 : Int32))]))
          refine own_st (fun _ k => XS.icmpNo X232.here hx rfl (hb hby at_280) rfl (tlt (by decide)).2.2.2 k) ?_
          show own_Go p e below s _ _ _ (T232.setTop (mkF m 283 #[.val (.int pa), .val (.int pb), .val (.int pd), .val (.int pe), .val (.int pn), .val (.int (4 : Int32)), .val (.int c0), .val (.int c1), .val (.int c2), .val (.int c3), .val (.ref b196), .val (.ref b201), .val (.ref b206), .val (.int (1 : Int32)), .unset, .unset] []))
          refine own_st (fun _ k => XS.iload X232.here hx rfl (hb hby at_283) rfl k) ?_
          show own_Go p e below s _ _ _ (T232.setTop (mkF m 285 #[.val (.int pa), .val (.int pb), .val (.int pd), .val (.int pe), .val (.int pn), .val (.int (4 : Int32)), .val (.int c0), .val (.int c1), .val (.int c2), .val (.int c3), .val (.ref b196), .val (.ref b201), .val (.ref b206), .val (.int (1 : Int32)), .unset, .unset] [(.int c2)]))
          obtain ⟨T234, v234, L234, h234, X234, e234, q234, st234⟩ := own_callS X232 hx hZ (y := (⟨"com/example/shelfproof/shelfproof/library/RequestsRequiredPinLaw", "ws", "(C)Z"⟩ : MethodName)) hown (hw _ (List.mem_of_getElem? (i := 30) rfl)) (hw _ (List.mem_of_getElem? (i := 31) rfl)) (hw _ (List.mem_of_getElem? (i := 32) rfl)) (hw _ (List.mem_of_getElem? (i := 33) rfl)) (by decide) (own_bk (W := 0) (wsW l Z a0 hw c2 h209 n0 O221) hZ (hw _ (List.mem_of_getElem? (i := 33) rfl)) (hw _ (List.mem_of_getElem? (i := 32) rfl)) (by decide) (by decide)) e232 (by decide) (by decide) (g := (mkF m 285 #[.val (.int pa), .val (.int pb), .val (.int pd), .val (.int pe), .val (.int pn), .val (.int (4 : Int32)), .val (.int c0), .val (.int c1), .val (.int c2), .val (.int c3), .val (.ref b196), .val (.ref b201), .val (.ref b206), .val (.int (1 : Int32)), .unset, .unset] [(.int c2)])) rfl (by rw [hml]; rfl) (argsL := [(.int c2)]) (rest := []) (lenOf pd__28C_29Z rfl) rfl rfl (by show 2 * 0 + _ ≤ _; exact Nat.le_of_eq rfl) (hb hby at_285)
          obtain ⟨rfl, N234q, hq234⟩ := q234
          replace e234 := e234.trans hq234
          refine own_st st234 ?_
          have N234 := Fr.app N232 N234q
          show own_Go p e below s _ _ _ (T234.setTop (mkF m 288 #[.val (.int pa), .val (.int pb), .val (.int pd), .val (.int pe), .val (.int pn), .val (.int (4 : Int32)), .val (.int c0), .val (.int c1), .val (.int c2), .val (.int c3), .val (.ref b196), .val (.ref b201), .val (.ref b206), .val (.int (1 : Int32)), .unset, .unset] [(.int (if own_ws c2 then (1 : Int32) else 0))]))
          by_cases c235 : (if own_ws c2 then (1 : Int32) else 0) = (0 : Int32)
          · refine own_st (fun _ k => XS.ifNo X234.here hx rfl (hb hby at_288) rfl ((if0 _ _).trans (teq c235).2) k) ?_
            show own_Go p e below s _ _ _ (T234.setTop (mkF m 291 #[.val (.int pa), .val (.int pb), .val (.int pd), .val (.int pe), .val (.int pn), .val (.int (4 : Int32)), .val (.int c0), .val (.int c1), .val (.int c2), .val (.int c3), .val (.ref b196), .val (.ref b201), .val (.ref b206), .val (.int (1 : Int32)), .unset, .unset] []))
            refine own_st (fun _ k => XS.iconst X234.here hx rfl (hb hby at_291) k) ?_
            show own_Go p e below s _ _ _ (T234.setTop (mkF m 292 #[.val (.int pa), .val (.int pb), .val (.int pd), .val (.int pe), .val (.int pn), .val (.int (4 : Int32)), .val (.int c0), .val (.int c1), .val (.int c2), .val (.int c3), .val (.ref b196), .val (.ref b201), .val (.ref b206), .val (.int (1 : Int32)), .unset, .unset] [(.int (2 : Int32))]))
            refine own_st (fun _ k => XS.istore X234.here hx rfl (hb hby at_292) rfl (l' := #[.val (.int pa), .val (.int pb), .val (.int pd), .val (.int pe), .val (.int pn), .val (.int (4 : Int32)), .val (.int c0), .val (.int c1), .val (.int c2), .val (.int c3), .val (.ref b196), .val (.ref b201), .val (.ref b206), .val (.int (1 : Int32)), .val (.int (2 : Int32)), .unset]) rfl k) ?_
            show own_Go p e below s _ _ _ (T234.setTop (mkF m 294 #[.val (.int pa), .val (.int pb), .val (.int pd), .val (.int pe), .val (.int pn), .val (.int (4 : Int32)), .val (.int c0), .val (.int c1), .val (.int c2), .val (.int c3), .val (.ref b196), .val (.ref b201), .val (.ref b206), .val (.int (1 : Int32)), .val (.int (2 : Int32)), .unset] []))
            refine own_st (fun _ k => XS.goto X234.here hx rfl (pc0 := 294) (pc' := 320) rfl (hb hby at_294) (by decide) (by decide) k) ?_
            show own_Go p e below s _ _ _ (T234.setTop (mkF m 320 #[.val (.int pa), .val (.int pb), .val (.int pd), .val (.int pe), .val (.int pn), .val (.int (4 : Int32)), .val (.int c0), .val (.int c1), .val (.int c2), .val (.int c3), .val (.ref b196), .val (.ref b201), .val (.ref b206), .val (.int (1 : Int32)), .val (.int (2 : Int32)), .unset] []))
            exact G210 _ _ 1 2 (by decide) (fun j hj => match j, (show 0 ≤ j ∧ j < 1 from by omega) with | 0, _ => (own_ifT c223)) (own_ifF c231) (by decide) (by decide) (fun j hj hj2 => match j, (show 3 ≤ j ∧ j < 4 from by omega) with | 3, _ => (own_ifT c233)) (own_ifF c235) X234 e234 N234
          · refine own_st (fun _ k => XS.ifYes X234.here hx rfl (pc0 := 288) (pc' := 297) rfl (hb hby at_288) rfl ((if0 _ _).trans (feq c235).2) (by decide) (by decide) k) ?_
            show own_Go p e below s _ _ _ (T234.setTop (mkF m 297 #[.val (.int pa), .val (.int pb), .val (.int pd), .val (.int pe), .val (.int pn), .val (.int (4 : Int32)), .val (.int c0), .val (.int c1), .val (.int c2), .val (.int c3), .val (.ref b196), .val (.ref b201), .val (.ref b206), .val (.int (1 : Int32)), .unset, .unset] []))
            refine own_st (fun _ k => XS.iload X234.here hx rfl (hb hby at_297) rfl k) ?_
            show own_Go p e below s _ _ _ (T234.setTop (mkF m 299 #[.val (.int pa), .val (.int pb), .val (.int pd), .val (.int pe), .val (.int pn), .val (.int (4 : Int32)), .val (.int c0), .val (.int c1), .val (.int c2), .val (.int c3), .val (.ref b196), .val (.ref b201), .val (.ref b206), .val (.int (1 : Int32)), .unset, .unset] [(.int (4 : Int32))]))
            refine own_st (fun _ k => XS.iconst X234.here hx rfl (hb hby at_299) k) ?_
            show own_Go p e below s _ _ _ (T234.setTop (mkF m 300 #[.val (.int pa), .val (.int pb), .val (.int pd), .val (.int pe), .val (.int pn), .val (.int (4 : Int32)), .val (.int c0), .val (.int c1), .val (.int c2), .val (.int c3), .val (.ref b196), .val (.ref b201), .val (.ref b206), .val (.int (1 : Int32)), .unset, .unset] [(.int (1 : Int32)), (.int (4 : Int32))]))
            refine own_st (fun _ k => XS.icmpNo X234.here hx rfl (hb hby at_300) rfl (tlt (by decide)).2.2.2 k) ?_
            show own_Go p e below s _ _ _ (T234.setTop (mkF m 303 #[.val (.int pa), .val (.int pb), .val (.int pd), .val (.int pe), .val (.int pn), .val (.int (4 : Int32)), .val (.int c0), .val (.int c1), .val (.int c2), .val (.int c3), .val (.ref b196), .val (.ref b201), .val (.ref b206), .val (.int (1 : Int32)), .unset, .unset] []))
            refine own_st (fun _ k => XS.iload X234.here hx rfl (hb hby at_303) rfl k) ?_
            show own_Go p e below s _ _ _ (T234.setTop (mkF m 305 #[.val (.int pa), .val (.int pb), .val (.int pd), .val (.int pe), .val (.int pn), .val (.int (4 : Int32)), .val (.int c0), .val (.int c1), .val (.int c2), .val (.int c3), .val (.ref b196), .val (.ref b201), .val (.ref b206), .val (.int (1 : Int32)), .unset, .unset] [(.int c1)]))
            obtain ⟨T236, v236, L236, h236, X236, e236, q236, st236⟩ := own_callS X234 hx hZ (y := (⟨"com/example/shelfproof/shelfproof/library/RequestsRequiredPinLaw", "ws", "(C)Z"⟩ : MethodName)) hown (hw _ (List.mem_of_getElem? (i := 30) rfl)) (hw _ (List.mem_of_getElem? (i := 31) rfl)) (hw _ (List.mem_of_getElem? (i := 32) rfl)) (hw _ (List.mem_of_getElem? (i := 33) rfl)) (by decide) (own_bk (W := 0) (wsW l Z a0 hw c1 h209 n0 O221) hZ (hw _ (List.mem_of_getElem? (i := 33) rfl)) (hw _ (List.mem_of_getElem? (i := 32) rfl)) (by decide) (by decide)) e234 (by decide) (by decide) (g := (mkF m 305 #[.val (.int pa), .val (.int pb), .val (.int pd), .val (.int pe), .val (.int pn), .val (.int (4 : Int32)), .val (.int c0), .val (.int c1), .val (.int c2), .val (.int c3), .val (.ref b196), .val (.ref b201), .val (.ref b206), .val (.int (1 : Int32)), .unset, .unset] [(.int c1)])) rfl (by rw [hml]; rfl) (argsL := [(.int c1)]) (rest := []) (lenOf pd__28C_29Z rfl) rfl rfl (by show 2 * 0 + _ ≤ _; exact Nat.le_of_eq rfl) (hb hby at_305)
            obtain ⟨rfl, N236q, hq236⟩ := q236
            replace e236 := e236.trans hq236
            refine own_st st236 ?_
            have N236 := Fr.app N234 N236q
            show own_Go p e below s _ _ _ (T236.setTop (mkF m 308 #[.val (.int pa), .val (.int pb), .val (.int pd), .val (.int pe), .val (.int pn), .val (.int (4 : Int32)), .val (.int c0), .val (.int c1), .val (.int c2), .val (.int c3), .val (.ref b196), .val (.ref b201), .val (.ref b206), .val (.int (1 : Int32)), .unset, .unset] [(.int (if own_ws c1 then (1 : Int32) else 0))]))
            refine own_st (fun _ k => XS.ifNo X236.here hx rfl (hb hby at_308) rfl ((if0 _ _).trans (teq c231).2) k) ?_
            show own_Go p e below s _ _ _ (T236.setTop (mkF m 311 #[.val (.int pa), .val (.int pb), .val (.int pd), .val (.int pe), .val (.int pn), .val (.int (4 : Int32)), .val (.int c0), .val (.int c1), .val (.int c2), .val (.int c3), .val (.ref b196), .val (.ref b201), .val (.ref b206), .val (.int (1 : Int32)), .unset, .unset] []))
            refine own_st (fun _ k => XS.iconst X236.here hx rfl (hb hby at_311) k) ?_
            show own_Go p e below s _ _ _ (T236.setTop (mkF m 312 #[.val (.int pa), .val (.int pb), .val (.int pd), .val (.int pe), .val (.int pn), .val (.int (4 : Int32)), .val (.int c0), .val (.int c1), .val (.int c2), .val (.int c3), .val (.ref b196), .val (.ref b201), .val (.ref b206), .val (.int (1 : Int32)), .unset, .unset] [(.int (1 : Int32))]))
            refine own_st (fun _ k => XS.istore X236.here hx rfl (hb hby at_312) rfl (l' := #[.val (.int pa), .val (.int pb), .val (.int pd), .val (.int pe), .val (.int pn), .val (.int (4 : Int32)), .val (.int c0), .val (.int c1), .val (.int c2), .val (.int c3), .val (.ref b196), .val (.ref b201), .val (.ref b206), .val (.int (1 : Int32)), .val (.int (1 : Int32)), .unset]) rfl k) ?_
            show own_Go p e below s _ _ _ (T236.setTop (mkF m 314 #[.val (.int pa), .val (.int pb), .val (.int pd), .val (.int pe), .val (.int pn), .val (.int (4 : Int32)), .val (.int c0), .val (.int c1), .val (.int c2), .val (.int c3), .val (.ref b196), .val (.ref b201), .val (.ref b206), .val (.int (1 : Int32)), .val (.int (1 : Int32)), .unset] []))
            refine own_st (fun _ k => XS.goto X236.here hx rfl (pc0 := 314) (pc' := 320) rfl (hb hby at_314) (by decide) (by decide) k) ?_
            show own_Go p e below s _ _ _ (T236.setTop (mkF m 320 #[.val (.int pa), .val (.int pb), .val (.int pd), .val (.int pe), .val (.int pn), .val (.int (4 : Int32)), .val (.int c0), .val (.int c1), .val (.int c2), .val (.int c3), .val (.ref b196), .val (.ref b201), .val (.ref b206), .val (.int (1 : Int32)), .val (.int (1 : Int32)), .unset] []))
            exact G210 _ _ 1 1 (by decide) (fun j hj => match j, (show 0 ≤ j ∧ j < 1 from by omega) with | 0, _ => (own_ifT c223)) (own_ifF c231) (by decide) (by decide) (fun j hj hj2 => match j, (show 2 ≤ j ∧ j < 4 from by omega) with | 2, _ => (own_ifT c235) | 3, _ => (own_ifT c233)) (own_ifF c231) X236 e236 N236
      · refine own_st (fun _ k => XS.ifYes X230.here hx rfl (pc0 := 198) (pc' := 207) rfl (hb hby at_198) rfl ((if0 _ _).trans (feq c231).2) (by decide) (by decide) k) ?_
        show own_Go p e below s _ _ _ (T230.setTop (mkF m 207 #[.val (.int pa), .val (.int pb), .val (.int pd), .val (.int pe), .val (.int pn), .val (.int (4 : Int32)), .val (.int c0), .val (.int c1), .val (.int c2), .val (.int c3), .val (.ref b196), .val (.ref b201), .val (.ref b206), .unset, .unset, .unset] []))
        refine own_st (fun _ k => XS.iload X230.here hx rfl (hb hby at_207) rfl k) ?_
        show own_Go p e below s _ _ _ (T230.setTop (mkF m 209 #[.val (.int pa), .val (.int pb), .val (.int pd), .val (.int pe), .val (.int pn), .val (.int (4 : Int32)), .val (.int c0), .val (.int c1), .val (.int c2), .val (.int c3), .val (.ref b196), .val (.ref b201), .val (.ref b206), .unset, .unset, .unset] [(.int (4 : Int32))]))
        refine own_st (fun _ k => XS.iconst X230.here hx rfl (hb hby at_209) k) ?_
        show own_Go p e below s _ _ _ (T230.setTop (mkF m 210 #[.val (.int pa), .val (.int pb), .val (.int pd), .val (.int pe), .val (.int pn), .val (.int (4 : Int32)), .val (.int c0), .val (.int c1), .val (.int c2), .val (.int c3), .val (.ref b196), .val (.ref b201), .val (.ref b206), .unset, .unset, .unset] [(.int (2 : Int32)), (.int (4 : Int32))]))
        refine own_st (fun _ k => XS.icmpNo X230.here hx rfl (hb hby at_210) rfl (tlt (by decide)).2.2.2 k) ?_
        show own_Go p e below s _ _ _ (T230.setTop (mkF m 213 #[.val (.int pa), .val (.int pb), .val (.int pd), .val (.int pe), .val (.int pn), .val (.int (4 : Int32)), .val (.int c0), .val (.int c1), .val (.int c2), .val (.int c3), .val (.ref b196), .val (.ref b201), .val (.ref b206), .unset, .unset, .unset] []))
        refine own_st (fun _ k => XS.iload X230.here hx rfl (hb hby at_213) rfl k) ?_
        show own_Go p e below s _ _ _ (T230.setTop (mkF m 215 #[.val (.int pa), .val (.int pb), .val (.int pd), .val (.int pe), .val (.int pn), .val (.int (4 : Int32)), .val (.int c0), .val (.int c1), .val (.int c2), .val (.int c3), .val (.ref b196), .val (.ref b201), .val (.ref b206), .unset, .unset, .unset] [(.int c2)]))
        obtain ⟨T237, v237, L237, h237, X237, e237, q237, st237⟩ := own_callS X230 hx hZ (y := (⟨"com/example/shelfproof/shelfproof/library/RequestsRequiredPinLaw", "ws", "(C)Z"⟩ : MethodName)) hown (hw _ (List.mem_of_getElem? (i := 30) rfl)) (hw _ (List.mem_of_getElem? (i := 31) rfl)) (hw _ (List.mem_of_getElem? (i := 32) rfl)) (hw _ (List.mem_of_getElem? (i := 33) rfl)) (by decide) (own_bk (W := 0) (wsW l Z a0 hw c2 h209 n0 O221) hZ (hw _ (List.mem_of_getElem? (i := 33) rfl)) (hw _ (List.mem_of_getElem? (i := 32) rfl)) (by decide) (by decide)) e230 (by decide) (by decide) (g := (mkF m 215 #[.val (.int pa), .val (.int pb), .val (.int pd), .val (.int pe), .val (.int pn), .val (.int (4 : Int32)), .val (.int c0), .val (.int c1), .val (.int c2), .val (.int c3), .val (.ref b196), .val (.ref b201), .val (.ref b206), .unset, .unset, .unset] [(.int c2)])) rfl (by rw [hml]; rfl) (argsL := [(.int c2)]) (rest := []) (lenOf pd__28C_29Z rfl) rfl rfl (by show 2 * 0 + _ ≤ _; exact Nat.le_of_eq rfl) (hb hby at_215)
        obtain ⟨rfl, N237q, hq237⟩ := q237
        replace e237 := e237.trans hq237
        refine own_st st237 ?_
        have N237 := Fr.app N230 N237q
        show own_Go p e below s _ _ _ (T237.setTop (mkF m 218 #[.val (.int pa), .val (.int pb), .val (.int pd), .val (.int pe), .val (.int pn), .val (.int (4 : Int32)), .val (.int c0), .val (.int c1), .val (.int c2), .val (.int c3), .val (.ref b196), .val (.ref b201), .val (.ref b206), .unset, .unset, .unset] [(.int (if own_ws c2 then (1 : Int32) else 0))]))
        by_cases c238 : (if own_ws c2 then (1 : Int32) else 0) = (0 : Int32)
        · refine own_st (fun _ k => XS.ifNo X237.here hx rfl (hb hby at_218) rfl ((if0 _ _).trans (teq c238).2) k) ?_
          show own_Go p e below s _ _ _ (T237.setTop (mkF m 221 #[.val (.int pa), .val (.int pb), .val (.int pd), .val (.int pe), .val (.int pn), .val (.int (4 : Int32)), .val (.int c0), .val (.int c1), .val (.int c2), .val (.int c3), .val (.ref b196), .val (.ref b201), .val (.ref b206), .unset, .unset, .unset] []))
          refine own_st (fun _ k => XS.iconst X237.here hx rfl (hb hby at_221) k) ?_
          show own_Go p e below s _ _ _ (T237.setTop (mkF m 222 #[.val (.int pa), .val (.int pb), .val (.int pd), .val (.int pe), .val (.int pn), .val (.int (4 : Int32)), .val (.int c0), .val (.int c1), .val (.int c2), .val (.int c3), .val (.ref b196), .val (.ref b201), .val (.ref b206), .unset, .unset, .unset] [(.int (2 : Int32))]))
          refine own_st (fun _ k => XS.istore X237.here hx rfl (hb hby at_222) rfl (l' := #[.val (.int pa), .val (.int pb), .val (.int pd), .val (.int pe), .val (.int pn), .val (.int (4 : Int32)), .val (.int c0), .val (.int c1), .val (.int c2), .val (.int c3), .val (.ref b196), .val (.ref b201), .val (.ref b206), .val (.int (2 : Int32)), .unset, .unset]) rfl k) ?_
          show own_Go p e below s _ _ _ (T237.setTop (mkF m 224 #[.val (.int pa), .val (.int pb), .val (.int pd), .val (.int pe), .val (.int pn), .val (.int (4 : Int32)), .val (.int c0), .val (.int c1), .val (.int c2), .val (.int c3), .val (.ref b196), .val (.ref b201), .val (.ref b206), .val (.int (2 : Int32)), .unset, .unset] []))
          refine own_st (fun _ k => XS.goto X237.here hx rfl (pc0 := 224) (pc' := 250) rfl (hb hby at_224) (by decide) (by decide) k) ?_
          show own_Go p e below s _ _ _ (T237.setTop (mkF m 250 #[.val (.int pa), .val (.int pb), .val (.int pd), .val (.int pe), .val (.int pn), .val (.int (4 : Int32)), .val (.int c0), .val (.int c1), .val (.int c2), .val (.int c3), .val (.ref b196), .val (.ref b201), .val (.ref b206), .val (.int (2 : Int32)), .unset, .unset] []))
          refine own_st (fun _ k => XS.iload X237.here hx rfl (hb hby at_250) rfl k) ?_
          show own_Go p e below s _ _ _ (T237.setTop (mkF m 252 #[.val (.int pa), .val (.int pb), .val (.int pd), .val (.int pe), .val (.int pn), .val (.int (4 : Int32)), .val (.int c0), .val (.int c1), .val (.int c2), .val (.int c3), .val (.ref b196), .val (.ref b201), .val (.ref b206), .val (.int (2 : Int32)), .unset, .unset] [(.int (2 : Int32))]))
          refine own_st (fun _ k => XS.ifYes X237.here hx rfl (pc0 := 252) (pc' := 257) rfl (hb hby at_252) rfl ((if0 _ _).trans (flt (by decide)).2.1) (by decide) (by decide) k) ?_
          show own_Go p e below s _ _ _ (T237.setTop (mkF m 257 #[.val (.int pa), .val (.int pb), .val (.int pd), .val (.int pe), .val (.int pn), .val (.int (4 : Int32)), .val (.int c0), .val (.int c1), .val (.int c2), .val (.int c3), .val (.ref b196), .val (.ref b201), .val (.ref b206), .val (.int (2 : Int32)), .unset, .unset] []))
          refine own_st (fun _ k => XS.iload X237.here hx rfl (hb hby at_257) rfl k) ?_
          show own_Go p e below s _ _ _ (T237.setTop (mkF m 259 #[.val (.int pa), .val (.int pb), .val (.int pd), .val (.int pe), .val (.int pn), .val (.int (4 : Int32)), .val (.int c0), .val (.int c1), .val (.int c2), .val (.int c3), .val (.ref b196), .val (.ref b201), .val (.ref b206), .val (.int (2 : Int32)), .unset, .unset] [(.int (4 : Int32))]))
          refine own_st (fun _ k => XS.iconst X237.here hx rfl (hb hby at_259) k) ?_
          show own_Go p e below s _ _ _ (T237.setTop (mkF m 260 #[.val (.int pa), .val (.int pb), .val (.int pd), .val (.int pe), .val (.int pn), .val (.int (4 : Int32)), .val (.int c0), .val (.int c1), .val (.int c2), .val (.int c3), .val (.ref b196), .val (.ref b201), .val (.ref b206), .val (.int (2 : Int32)), .unset, .unset] [(.int (3 : Int32)), (.int (4 : Int32))]))
          refine own_st (fun _ k => XS.icmpNo X237.here hx rfl (hb hby at_260) rfl (tlt (by decide)).2.2.2 k) ?_
          show own_Go p e below s _ _ _ (T237.setTop (mkF m 263 #[.val (.int pa), .val (.int pb), .val (.int pd), .val (.int pe), .val (.int pn), .val (.int (4 : Int32)), .val (.int c0), .val (.int c1), .val (.int c2), .val (.int c3), .val (.ref b196), .val (.ref b201), .val (.ref b206), .val (.int (2 : Int32)), .unset, .unset] []))
          refine own_st (fun _ k => XS.iload X237.here hx rfl (hb hby at_263) rfl k) ?_
          show own_Go p e below s _ _ _ (T237.setTop (mkF m 265 #[.val (.int pa), .val (.int pb), .val (.int pd), .val (.int pe), .val (.int pn), .val (.int (4 : Int32)), .val (.int c0), .val (.int c1), .val (.int c2), .val (.int c3), .val (.ref b196), .val (.ref b201), .val (.ref b206), .val (.int (2 : Int32)), .unset, .unset] [(.int c3)]))
          obtain ⟨T239, v239, L239, h239, X239, e239, q239, st239⟩ := own_callS X237 hx hZ (y := (⟨"com/example/shelfproof/shelfproof/library/RequestsRequiredPinLaw", "ws", "(C)Z"⟩ : MethodName)) hown (hw _ (List.mem_of_getElem? (i := 30) rfl)) (hw _ (List.mem_of_getElem? (i := 31) rfl)) (hw _ (List.mem_of_getElem? (i := 32) rfl)) (hw _ (List.mem_of_getElem? (i := 33) rfl)) (by decide) (own_bk (W := 0) (wsW l Z a0 hw c3 h209 n0 O221) hZ (hw _ (List.mem_of_getElem? (i := 33) rfl)) (hw _ (List.mem_of_getElem? (i := 32) rfl)) (by decide) (by decide)) e237 (by decide) (by decide) (g := (mkF m 265 #[.val (.int pa), .val (.int pb), .val (.int pd), .val (.int pe), .val (.int pn), .val (.int (4 : Int32)), .val (.int c0), .val (.int c1), .val (.int c2), .val (.int c3), .val (.ref b196), .val (.ref b201), .val (.ref b206), .val (.int (2 : Int32)), .unset, .unset] [(.int c3)])) rfl (by rw [hml]; rfl) (argsL := [(.int c3)]) (rest := []) (lenOf pd__28C_29Z rfl) rfl rfl (by show 2 * 0 + _ ≤ _; exact Nat.le_of_eq rfl) (hb hby at_265)
          obtain ⟨rfl, N239q, hq239⟩ := q239
          replace e239 := e239.trans hq239
          refine own_st st239 ?_
          have N239 := Fr.app N237 N239q
          show own_Go p e below s _ _ _ (T239.setTop (mkF m 268 #[.val (.int pa), .val (.int pb), .val (.int pd), .val (.int pe), .val (.int pn), .val (.int (4 : Int32)), .val (.int c0), .val (.int c1), .val (.int c2), .val (.int c3), .val (.ref b196), .val (.ref b201), .val (.ref b206), .val (.int (2 : Int32)), .unset, .unset] [(.int (if own_ws c3 then (1 : Int32) else 0))]))
          by_cases c240 : (if own_ws c3 then (1 : Int32) else 0) = (0 : Int32)
          · refine own_st (fun _ k => XS.ifNo X239.here hx rfl (hb hby at_268) rfl ((if0 _ _).trans (teq c240).2) k) ?_
            show own_Go p e below s _ _ _ (T239.setTop (mkF m 271 #[.val (.int pa), .val (.int pb), .val (.int pd), .val (.int pe), .val (.int pn), .val (.int (4 : Int32)), .val (.int c0), .val (.int c1), .val (.int c2), .val (.int c3), .val (.ref b196), .val (.ref b201), .val (.ref b206), .val (.int (2 : Int32)), .unset, .unset] []))
            refine own_st (fun _ k => XS.iconst X239.here hx rfl (hb hby at_271) k) ?_
            show own_Go p e below s _ _ _ (T239.setTop (mkF m 272 #[.val (.int pa), .val (.int pb), .val (.int pd), .val (.int pe), .val (.int pn), .val (.int (4 : Int32)), .val (.int c0), .val (.int c1), .val (.int c2), .val (.int c3), .val (.ref b196), .val (.ref b201), .val (.ref b206), .val (.int (2 : Int32)), .unset, .unset] [(.int (3 : Int32))]))
            refine own_st (fun _ k => XS.istore X239.here hx rfl (hb hby at_272) rfl (l' := #[.val (.int pa), .val (.int pb), .val (.int pd), .val (.int pe), .val (.int pn), .val (.int (4 : Int32)), .val (.int c0), .val (.int c1), .val (.int c2), .val (.int c3), .val (.ref b196), .val (.ref b201), .val (.ref b206), .val (.int (2 : Int32)), .val (.int (3 : Int32)), .unset]) rfl k) ?_
            show own_Go p e below s _ _ _ (T239.setTop (mkF m 274 #[.val (.int pa), .val (.int pb), .val (.int pd), .val (.int pe), .val (.int pn), .val (.int (4 : Int32)), .val (.int c0), .val (.int c1), .val (.int c2), .val (.int c3), .val (.ref b196), .val (.ref b201), .val (.ref b206), .val (.int (2 : Int32)), .val (.int (3 : Int32)), .unset] []))
            refine own_st (fun _ k => XS.goto X239.here hx rfl (pc0 := 274) (pc' := 320) rfl (hb hby at_274) (by decide) (by decide) k) ?_
            show own_Go p e below s _ _ _ (T239.setTop (mkF m 320 #[.val (.int pa), .val (.int pb), .val (.int pd), .val (.int pe), .val (.int pn), .val (.int (4 : Int32)), .val (.int c0), .val (.int c1), .val (.int c2), .val (.int c3), .val (.ref b196), .val (.ref b201), .val (.ref b206), .val (.int (2 : Int32)), .val (.int (3 : Int32)), .unset] []))
            exact G210 _ _ 2 3 (by decide) (fun j hj => match j, (show 0 ≤ j ∧ j < 2 from by omega) with | 0, _ => (own_ifT c223) | 1, _ => (own_ifT c231)) (own_ifF c238) (by decide) (by decide) (fun j hj hj2 => absurd hj2 (by omega)) (own_ifF c240) X239 e239 N239
          · refine own_st (fun _ k => XS.ifYes X239.here hx rfl (pc0 := 268) (pc' := 277) rfl (hb hby at_268) rfl ((if0 _ _).trans (feq c240).2) (by decide) (by decide) k) ?_
            show own_Go p e below s _ _ _ (T239.setTop (mkF m 277 #[.val (.int pa), .val (.int pb), .val (.int pd), .val (.int pe), .val (.int pn), .val (.int (4 : Int32)), .val (.int c0), .val (.int c1), .val (.int c2), .val (.int c3), .val (.ref b196), .val (.ref b201), .val (.ref b206), .val (.int (2 : Int32)), .unset, .unset] []))
            refine own_st (fun _ k => XS.iload X239.here hx rfl (hb hby at_277) rfl k) ?_
            show own_Go p e below s _ _ _ (T239.setTop (mkF m 279 #[.val (.int pa), .val (.int pb), .val (.int pd), .val (.int pe), .val (.int pn), .val (.int (4 : Int32)), .val (.int c0), .val (.int c1), .val (.int c2), .val (.int c3), .val (.ref b196), .val (.ref b201), .val (.ref b206), .val (.int (2 : Int32)), .unset, .unset] [(.int (4 : Int32))]))
            refine own_st (fun _ k => XS.iconst X239.here hx rfl (hb hby at_279) k) ?_
            show own_Go p e below s _ _ _ (T239.setTop (mkF m 280 #[.val (.int pa), .val (.int pb), .val (.int pd), .val (.int pe), .val (.int pn), .val (.int (4 : Int32)), .val (.int c0), .val (.int c1), .val (.int c2), .val (.int c3), .val (.ref b196), .val (.ref b201), .val (.ref b206), .val (.int (2 : Int32)), .unset, .unset] [(.int (2 : Int32)), (.int (4 : Int32))]))
            refine own_st (fun _ k => XS.icmpNo X239.here hx rfl (hb hby at_280) rfl (tlt (by decide)).2.2.2 k) ?_
            show own_Go p e below s _ _ _ (T239.setTop (mkF m 283 #[.val (.int pa), .val (.int pb), .val (.int pd), .val (.int pe), .val (.int pn), .val (.int (4 : Int32)), .val (.int c0), .val (.int c1), .val (.int c2), .val (.int c3), .val (.ref b196), .val (.ref b201), .val (.ref b206), .val (.int (2 : Int32)), .unset, .unset] []))
            refine own_st (fun _ k => XS.iload X239.here hx rfl (hb hby at_283) rfl k) ?_
            show own_Go p e below s _ _ _ (T239.setTop (mkF m 285 #[.val (.int pa), .val (.int pb), .val (.int pd), .val (.int pe), .val (.int pn), .val (.int (4 : Int32)), .val (.int c0), .val (.int c1), .val (.int c2), .val (.int c3), .val (.ref b196), .val (.ref b201), .val (.ref b206), .val (.int (2 : Int32)), .unset, .unset] [(.int c2)]))
            obtain ⟨T241, v241, L241, h241, X241, e241, q241, st241⟩ := own_callS X239 hx hZ (y := (⟨"com/example/shelfproof/shelfproof/library/RequestsRequiredPinLaw", "ws", "(C)Z"⟩ : MethodName)) hown (hw _ (List.mem_of_getElem? (i := 30) rfl)) (hw _ (List.mem_of_getElem? (i := 31) rfl)) (hw _ (List.mem_of_getElem? (i := 32) rfl)) (hw _ (List.mem_of_getElem? (i := 33) rfl)) (by decide) (own_bk (W := 0) (wsW l Z a0 hw c2 h209 n0 O221) hZ (hw _ (List.mem_of_getElem? (i := 33) rfl)) (hw _ (List.mem_of_getElem? (i := 32) rfl)) (by decide) (by decide)) e239 (by decide) (by decide) (g := (mkF m 285 #[.val (.int pa), .val (.int pb), .val (.int pd), .val (.int pe), .val (.int pn), .val (.int (4 : Int32)), .val (.int c0), .val (.int c1), .val (.int c2), .val (.int c3), .val (.ref b196), .val (.ref b201), .val (.ref b206), .val (.int (2 : Int32)), .unset, .unset] [(.int c2)])) rfl (by rw [hml]; rfl) (argsL := [(.int c2)]) (rest := []) (lenOf pd__28C_29Z rfl) rfl rfl (by show 2 * 0 + _ ≤ _; exact Nat.le_of_eq rfl) (hb hby at_285)
            obtain ⟨rfl, N241q, hq241⟩ := q241
            replace e241 := e241.trans hq241
            refine own_st st241 ?_
            have N241 := Fr.app N239 N241q
            show own_Go p e below s _ _ _ (T241.setTop (mkF m 288 #[.val (.int pa), .val (.int pb), .val (.int pd), .val (.int pe), .val (.int pn), .val (.int (4 : Int32)), .val (.int c0), .val (.int c1), .val (.int c2), .val (.int c3), .val (.ref b196), .val (.ref b201), .val (.ref b206), .val (.int (2 : Int32)), .unset, .unset] [(.int (if own_ws c2 then (1 : Int32) else 0))]))
            refine own_st (fun _ k => XS.ifNo X241.here hx rfl (hb hby at_288) rfl ((if0 _ _).trans (teq c238).2) k) ?_
            show own_Go p e below s _ _ _ (T241.setTop (mkF m 291 #[.val (.int pa), .val (.int pb), .val (.int pd), .val (.int pe), .val (.int pn), .val (.int (4 : Int32)), .val (.int c0), .val (.int c1), .val (.int c2), .val (.int c3), .val (.ref b196), .val (.ref b201), .val (.ref b206), .val (.int (2 : Int32)), .unset, .unset] []))
            refine own_st (fun _ k => XS.iconst X241.here hx rfl (hb hby at_291) k) ?_
            show own_Go p e below s _ _ _ (T241.setTop (mkF m 292 #[.val (.int pa), .val (.int pb), .val (.int pd), .val (.int pe), .val (.int pn), .val (.int (4 : Int32)), .val (.int c0), .val (.int c1), .val (.int c2), .val (.int c3), .val (.ref b196), .val (.ref b201), .val (.ref b206), .val (.int (2 : Int32)), .unset, .unset] [(.int (2 : Int32))]))
            refine own_st (fun _ k => XS.istore X241.here hx rfl (hb hby at_292) rfl (l' := #[.val (.int pa), .val (.int pb), .val (.int pd), .val (.int pe), .val (.int pn), .val (.int (4 : Int32)), .val (.int c0), .val (.int c1), .val (.int c2), .val (.int c3), .val (.ref b196), .val (.ref b201), .val (.ref b206), .val (.int (2 : Int32)), .val (.int (2 : Int32)), .unset]) rfl k) ?_
            show own_Go p e below s _ _ _ (T241.setTop (mkF m 294 #[.val (.int pa), .val (.int pb), .val (.int pd), .val (.int pe), .val (.int pn), .val (.int (4 : Int32)), .val (.int c0), .val (.int c1), .val (.int c2), .val (.int c3), .val (.ref b196), .val (.ref b201), .val (.ref b206), .val (.int (2 : Int32)), .val (.int (2 : Int32)), .unset] []))
            refine own_st (fun _ k => XS.goto X241.here hx rfl (pc0 := 294) (pc' := 320) rfl (hb hby at_294) (by decide) (by decide) k) ?_
            show own_Go p e below s _ _ _ (T241.setTop (mkF m 320 #[.val (.int pa), .val (.int pb), .val (.int pd), .val (.int pe), .val (.int pn), .val (.int (4 : Int32)), .val (.int c0), .val (.int c1), .val (.int c2), .val (.int c3), .val (.ref b196), .val (.ref b201), .val (.ref b206), .val (.int (2 : Int32)), .val (.int (2 : Int32)), .unset] []))
            exact G210 _ _ 2 2 (by decide) (fun j hj => match j, (show 0 ≤ j ∧ j < 2 from by omega) with | 0, _ => (own_ifT c223) | 1, _ => (own_ifT c231)) (own_ifF c238) (by decide) (by decide) (fun j hj hj2 => match j, (show 3 ≤ j ∧ j < 4 from by omega) with | 3, _ => (own_ifT c240)) (own_ifF c238) X241 e241 N241
        · refine own_st (fun _ k => XS.ifYes X237.here hx rfl (pc0 := 218) (pc' := 227) rfl (hb hby at_218) rfl ((if0 _ _).trans (feq c238).2) (by decide) (by decide) k) ?_
          show own_Go p e below s _ _ _ (T237.setTop (mkF m 227 #[.val (.int pa), .val (.int pb), .val (.int pd), .val (.int pe), .val (.int pn), .val (.int (4 : Int32)), .val (.int c0), .val (.int c1), .val (.int c2), .val (.int c3), .val (.ref b196), .val (.ref b201), .val (.ref b206), .unset, .unset, .unset] []))
          refine own_st (fun _ k => XS.iload X237.here hx rfl (hb hby at_227) rfl k) ?_
          show own_Go p e below s _ _ _ (T237.setTop (mkF m 229 #[.val (.int pa), .val (.int pb), .val (.int pd), .val (.int pe), .val (.int pn), .val (.int (4 : Int32)), .val (.int c0), .val (.int c1), .val (.int c2), .val (.int c3), .val (.ref b196), .val (.ref b201), .val (.ref b206), .unset, .unset, .unset] [(.int (4 : Int32))]))
          refine own_st (fun _ k => XS.iconst X237.here hx rfl (hb hby at_229) k) ?_
          show own_Go p e below s _ _ _ (T237.setTop (mkF m 230 #[.val (.int pa), .val (.int pb), .val (.int pd), .val (.int pe), .val (.int pn), .val (.int (4 : Int32)), .val (.int c0), .val (.int c1), .val (.int c2), .val (.int c3), .val (.ref b196), .val (.ref b201), .val (.ref b206), .unset, .unset, .unset] [(.int (3 : Int32)), (.int (4 : Int32))]))
          refine own_st (fun _ k => XS.icmpNo X237.here hx rfl (hb hby at_230) rfl (tlt (by decide)).2.2.2 k) ?_
          show own_Go p e below s _ _ _ (T237.setTop (mkF m 233 #[.val (.int pa), .val (.int pb), .val (.int pd), .val (.int pe), .val (.int pn), .val (.int (4 : Int32)), .val (.int c0), .val (.int c1), .val (.int c2), .val (.int c3), .val (.ref b196), .val (.ref b201), .val (.ref b206), .unset, .unset, .unset] []))
          refine own_st (fun _ k => XS.iload X237.here hx rfl (hb hby at_233) rfl k) ?_
          show own_Go p e below s _ _ _ (T237.setTop (mkF m 235 #[.val (.int pa), .val (.int pb), .val (.int pd), .val (.int pe), .val (.int pn), .val (.int (4 : Int32)), .val (.int c0), .val (.int c1), .val (.int c2), .val (.int c3), .val (.ref b196), .val (.ref b201), .val (.ref b206), .unset, .unset, .unset] [(.int c3)]))
          obtain ⟨T242, v242, L242, h242, X242, e242, q242, st242⟩ := own_callS X237 hx hZ (y := (⟨"com/example/shelfproof/shelfproof/library/RequestsRequiredPinLaw", "ws", "(C)Z"⟩ : MethodName)) hown (hw _ (List.mem_of_getElem? (i := 30) rfl)) (hw _ (List.mem_of_getElem? (i := 31) rfl)) (hw _ (List.mem_of_getElem? (i := 32) rfl)) (hw _ (List.mem_of_getElem? (i := 33) rfl)) (by decide) (own_bk (W := 0) (wsW l Z a0 hw c3 h209 n0 O221) hZ (hw _ (List.mem_of_getElem? (i := 33) rfl)) (hw _ (List.mem_of_getElem? (i := 32) rfl)) (by decide) (by decide)) e237 (by decide) (by decide) (g := (mkF m 235 #[.val (.int pa), .val (.int pb), .val (.int pd), .val (.int pe), .val (.int pn), .val (.int (4 : Int32)), .val (.int c0), .val (.int c1), .val (.int c2), .val (.int c3), .val (.ref b196), .val (.ref b201), .val (.ref b206), .unset, .unset, .unset] [(.int c3)])) rfl (by rw [hml]; rfl) (argsL := [(.int c3)]) (rest := []) (lenOf pd__28C_29Z rfl) rfl rfl (by show 2 * 0 + _ ≤ _; exact Nat.le_of_eq rfl) (hb hby at_235)
          obtain ⟨rfl, N242q, hq242⟩ := q242
          replace e242 := e242.trans hq242
          refine own_st st242 ?_
          have N242 := Fr.app N237 N242q
          show own_Go p e below s _ _ _ (T242.setTop (mkF m 238 #[.val (.int pa), .val (.int pb), .val (.int pd), .val (.int pe), .val (.int pn), .val (.int (4 : Int32)), .val (.int c0), .val (.int c1), .val (.int c2), .val (.int c3), .val (.ref b196), .val (.ref b201), .val (.ref b206), .unset, .unset, .unset] [(.int (if own_ws c3 then (1 : Int32) else 0))]))
          by_cases c243 : (if own_ws c3 then (1 : Int32) else 0) = (0 : Int32)
          · refine own_st (fun _ k => XS.ifNo X242.here hx rfl (hb hby at_238) rfl ((if0 _ _).trans (teq c243).2) k) ?_
            show own_Go p e below s _ _ _ (T242.setTop (mkF m 241 #[.val (.int pa), .val (.int pb), .val (.int pd), .val (.int pe), .val (.int pn), .val (.int (4 : Int32)), .val (.int c0), .val (.int c1), .val (.int c2), .val (.int c3), .val (.ref b196), .val (.ref b201), .val (.ref b206), .unset, .unset, .unset] []))
            refine own_st (fun _ k => XS.iconst X242.here hx rfl (hb hby at_241) k) ?_
            show own_Go p e below s _ _ _ (T242.setTop (mkF m 242 #[.val (.int pa), .val (.int pb), .val (.int pd), .val (.int pe), .val (.int pn), .val (.int (4 : Int32)), .val (.int c0), .val (.int c1), .val (.int c2), .val (.int c3), .val (.ref b196), .val (.ref b201), .val (.ref b206), .unset, .unset, .unset] [(.int (3 : Int32))]))
            refine own_st (fun _ k => XS.istore X242.here hx rfl (hb hby at_242) rfl (l' := #[.val (.int pa), .val (.int pb), .val (.int pd), .val (.int pe), .val (.int pn), .val (.int (4 : Int32)), .val (.int c0), .val (.int c1), .val (.int c2), .val (.int c3), .val (.ref b196), .val (.ref b201), .val (.ref b206), .val (.int (3 : Int32)), .unset, .unset]) rfl k) ?_
            show own_Go p e below s _ _ _ (T242.setTop (mkF m 244 #[.val (.int pa), .val (.int pb), .val (.int pd), .val (.int pe), .val (.int pn), .val (.int (4 : Int32)), .val (.int c0), .val (.int c1), .val (.int c2), .val (.int c3), .val (.ref b196), .val (.ref b201), .val (.ref b206), .val (.int (3 : Int32)), .unset, .unset] []))
            refine own_st (fun _ k => XS.goto X242.here hx rfl (pc0 := 244) (pc' := 250) rfl (hb hby at_244) (by decide) (by decide) k) ?_
            show own_Go p e below s _ _ _ (T242.setTop (mkF m 250 #[.val (.int pa), .val (.int pb), .val (.int pd), .val (.int pe), .val (.int pn), .val (.int (4 : Int32)), .val (.int c0), .val (.int c1), .val (.int c2), .val (.int c3), .val (.ref b196), .val (.ref b201), .val (.ref b206), .val (.int (3 : Int32)), .unset, .unset] []))
            refine own_st (fun _ k => XS.iload X242.here hx rfl (hb hby at_250) rfl k) ?_
            show own_Go p e below s _ _ _ (T242.setTop (mkF m 252 #[.val (.int pa), .val (.int pb), .val (.int pd), .val (.int pe), .val (.int pn), .val (.int (4 : Int32)), .val (.int c0), .val (.int c1), .val (.int c2), .val (.int c3), .val (.ref b196), .val (.ref b201), .val (.ref b206), .val (.int (3 : Int32)), .unset, .unset] [(.int (3 : Int32))]))
            refine own_st (fun _ k => XS.ifYes X242.here hx rfl (pc0 := 252) (pc' := 257) rfl (hb hby at_252) rfl ((if0 _ _).trans (flt (by decide)).2.1) (by decide) (by decide) k) ?_
            show own_Go p e below s _ _ _ (T242.setTop (mkF m 257 #[.val (.int pa), .val (.int pb), .val (.int pd), .val (.int pe), .val (.int pn), .val (.int (4 : Int32)), .val (.int c0), .val (.int c1), .val (.int c2), .val (.int c3), .val (.ref b196), .val (.ref b201), .val (.ref b206), .val (.int (3 : Int32)), .unset, .unset] []))
            refine own_st (fun _ k => XS.iload X242.here hx rfl (hb hby at_257) rfl k) ?_
            show own_Go p e below s _ _ _ (T242.setTop (mkF m 259 #[.val (.int pa), .val (.int pb), .val (.int pd), .val (.int pe), .val (.int pn), .val (.int (4 : Int32)), .val (.int c0), .val (.int c1), .val (.int c2), .val (.int c3), .val (.ref b196), .val (.ref b201), .val (.ref b206), .val (.int (3 : Int32)), .unset, .unset] [(.int (4 : Int32))]))
            refine own_st (fun _ k => XS.iconst X242.here hx rfl (hb hby at_259) k) ?_
            show own_Go p e below s _ _ _ (T242.setTop (mkF m 260 #[.val (.int pa), .val (.int pb), .val (.int pd), .val (.int pe), .val (.int pn), .val (.int (4 : Int32)), .val (.int c0), .val (.int c1), .val (.int c2), .val (.int c3), .val (.ref b196), .val (.ref b201), .val (.ref b206), .val (.int (3 : Int32)), .unset, .unset] [(.int (3 : Int32)), (.int (4 : Int32))]))
            refine own_st (fun _ k => XS.icmpNo X242.here hx rfl (hb hby at_260) rfl (tlt (by decide)).2.2.2 k) ?_
            show own_Go p e below s _ _ _ (T242.setTop (mkF m 263 #[.val (.int pa), .val (.int pb), .val (.int pd), .val (.int pe), .val (.int pn), .val (.int (4 : Int32)), .val (.int c0), .val (.int c1), .val (.int c2), .val (.int c3), .val (.ref b196), .val (.ref b201), .val (.ref b206), .val (.int (3 : Int32)), .unset, .unset] []))
            refine own_st (fun _ k => XS.iload X242.here hx rfl (hb hby at_263) rfl k) ?_
            show own_Go p e below s _ _ _ (T242.setTop (mkF m 265 #[.val (.int pa), .val (.int pb), .val (.int pd), .val (.int pe), .val (.int pn), .val (.int (4 : Int32)), .val (.int c0), .val (.int c1), .val (.int c2), .val (.int c3), .val (.ref b196), .val (.ref b201), .val (.ref b206), .val (.int (3 : Int32)), .unset, .unset] [(.int c3)]))
            obtain ⟨T244, v244, L244, h244, X244, e244, q244, st244⟩ := own_callS X242 hx hZ (y := (⟨"com/example/shelfproof/shelfproof/library/RequestsRequiredPinLaw", "ws", "(C)Z"⟩ : MethodName)) hown (hw _ (List.mem_of_getElem? (i := 30) rfl)) (hw _ (List.mem_of_getElem? (i := 31) rfl)) (hw _ (List.mem_of_getElem? (i := 32) rfl)) (hw _ (List.mem_of_getElem? (i := 33) rfl)) (by decide) (own_bk (W := 0) (wsW l Z a0 hw c3 h209 n0 O221) hZ (hw _ (List.mem_of_getElem? (i := 33) rfl)) (hw _ (List.mem_of_getElem? (i := 32) rfl)) (by decide) (by decide)) e242 (by decide) (by decide) (g := (mkF m 265 #[.val (.int pa), .val (.int pb), .val (.int pd), .val (.int pe), .val (.int pn), .val (.int (4 : Int32)), .val (.int c0), .val (.int c1), .val (.int c2), .val (.int c3), .val (.ref b196), .val (.ref b201), .val (.ref b206), .val (.int (3 : Int32)), .unset, .unset] [(.int c3)])) rfl (by rw [hml]; rfl) (argsL := [(.int c3)]) (rest := []) (lenOf pd__28C_29Z rfl) rfl rfl (by show 2 * 0 + _ ≤ _; exact Nat.le_of_eq rfl) (hb hby at_265)
            obtain ⟨rfl, N244q, hq244⟩ := q244
            replace e244 := e244.trans hq244
            refine own_st st244 ?_
            have N244 := Fr.app N242 N244q
            show own_Go p e below s _ _ _ (T244.setTop (mkF m 268 #[.val (.int pa), .val (.int pb), .val (.int pd), .val (.int pe), .val (.int pn), .val (.int (4 : Int32)), .val (.int c0), .val (.int c1), .val (.int c2), .val (.int c3), .val (.ref b196), .val (.ref b201), .val (.ref b206), .val (.int (3 : Int32)), .unset, .unset] [(.int (if own_ws c3 then (1 : Int32) else 0))]))
            refine own_st (fun _ k => XS.ifNo X244.here hx rfl (hb hby at_268) rfl ((if0 _ _).trans (teq c243).2) k) ?_
            show own_Go p e below s _ _ _ (T244.setTop (mkF m 271 #[.val (.int pa), .val (.int pb), .val (.int pd), .val (.int pe), .val (.int pn), .val (.int (4 : Int32)), .val (.int c0), .val (.int c1), .val (.int c2), .val (.int c3), .val (.ref b196), .val (.ref b201), .val (.ref b206), .val (.int (3 : Int32)), .unset, .unset] []))
            refine own_st (fun _ k => XS.iconst X244.here hx rfl (hb hby at_271) k) ?_
            show own_Go p e below s _ _ _ (T244.setTop (mkF m 272 #[.val (.int pa), .val (.int pb), .val (.int pd), .val (.int pe), .val (.int pn), .val (.int (4 : Int32)), .val (.int c0), .val (.int c1), .val (.int c2), .val (.int c3), .val (.ref b196), .val (.ref b201), .val (.ref b206), .val (.int (3 : Int32)), .unset, .unset] [(.int (3 : Int32))]))
            refine own_st (fun _ k => XS.istore X244.here hx rfl (hb hby at_272) rfl (l' := #[.val (.int pa), .val (.int pb), .val (.int pd), .val (.int pe), .val (.int pn), .val (.int (4 : Int32)), .val (.int c0), .val (.int c1), .val (.int c2), .val (.int c3), .val (.ref b196), .val (.ref b201), .val (.ref b206), .val (.int (3 : Int32)), .val (.int (3 : Int32)), .unset]) rfl k) ?_
            show own_Go p e below s _ _ _ (T244.setTop (mkF m 274 #[.val (.int pa), .val (.int pb), .val (.int pd), .val (.int pe), .val (.int pn), .val (.int (4 : Int32)), .val (.int c0), .val (.int c1), .val (.int c2), .val (.int c3), .val (.ref b196), .val (.ref b201), .val (.ref b206), .val (.int (3 : Int32)), .val (.int (3 : Int32)), .unset] []))
            refine own_st (fun _ k => XS.goto X244.here hx rfl (pc0 := 274) (pc' := 320) rfl (hb hby at_274) (by decide) (by decide) k) ?_
            show own_Go p e below s _ _ _ (T244.setTop (mkF m 320 #[.val (.int pa), .val (.int pb), .val (.int pd), .val (.int pe), .val (.int pn), .val (.int (4 : Int32)), .val (.int c0), .val (.int c1), .val (.int c2), .val (.int c3), .val (.ref b196), .val (.ref b201), .val (.ref b206), .val (.int (3 : Int32)), .val (.int (3 : Int32)), .unset] []))
            exact G210 _ _ 3 3 (by decide) (fun j hj => match j, (show 0 ≤ j ∧ j < 3 from by omega) with | 0, _ => (own_ifT c223) | 1, _ => (own_ifT c231) | 2, _ => (own_ifT c238)) (own_ifF c243) (by decide) (by decide) (fun j hj hj2 => absurd hj2 (by omega)) (own_ifF c243) X244 e244 N244
          · refine own_st (fun _ k => XS.ifYes X242.here hx rfl (pc0 := 238) (pc' := 247) rfl (hb hby at_238) rfl ((if0 _ _).trans (feq c243).2) (by decide) (by decide) k) ?_
            show own_Go p e below s _ _ _ (T242.setTop (mkF m 247 #[.val (.int pa), .val (.int pb), .val (.int pd), .val (.int pe), .val (.int pn), .val (.int (4 : Int32)), .val (.int c0), .val (.int c1), .val (.int c2), .val (.int c3), .val (.ref b196), .val (.ref b201), .val (.ref b206), .unset, .unset, .unset] []))
            refine own_st (fun _ k => XS.iconst X242.here hx rfl (hb hby at_247) k) ?_
            show own_Go p e below s _ _ _ (T242.setTop (mkF m 248 #[.val (.int pa), .val (.int pb), .val (.int pd), .val (.int pe), .val (.int pn), .val (.int (4 : Int32)), .val (.int c0), .val (.int c1), .val (.int c2), .val (.int c3), .val (.ref b196), .val (.ref b201), .val (.ref b206), .unset, .unset, .unset] [(.int (-1 : Int32))]))
            refine own_st (fun _ k => XS.istore X242.here hx rfl (hb hby at_248) rfl (l' := #[.val (.int pa), .val (.int pb), .val (.int pd), .val (.int pe), .val (.int pn), .val (.int (4 : Int32)), .val (.int c0), .val (.int c1), .val (.int c2), .val (.int c3), .val (.ref b196), .val (.ref b201), .val (.ref b206), .val (.int (-1 : Int32)), .unset, .unset]) rfl k) ?_
            show own_Go p e below s _ _ _ (T242.setTop (mkF m 250 #[.val (.int pa), .val (.int pb), .val (.int pd), .val (.int pe), .val (.int pn), .val (.int (4 : Int32)), .val (.int c0), .val (.int c1), .val (.int c2), .val (.int c3), .val (.ref b196), .val (.ref b201), .val (.ref b206), .val (.int (-1 : Int32)), .unset, .unset] []))
            refine own_st (fun _ k => XS.iload X242.here hx rfl (hb hby at_250) rfl k) ?_
            show own_Go p e below s _ _ _ (T242.setTop (mkF m 252 #[.val (.int pa), .val (.int pb), .val (.int pd), .val (.int pe), .val (.int pn), .val (.int (4 : Int32)), .val (.int c0), .val (.int c1), .val (.int c2), .val (.int c3), .val (.ref b196), .val (.ref b201), .val (.ref b206), .val (.int (-1 : Int32)), .unset, .unset] [(.int (-1 : Int32))]))
            refine own_st (fun _ k => XS.ifNo X242.here hx rfl (hb hby at_252) rfl ((if0 _ _).trans (tlt (by decide)).2.1) k) ?_
            show own_Go p e below s _ _ _ (T242.setTop (mkF m 255 #[.val (.int pa), .val (.int pb), .val (.int pd), .val (.int pe), .val (.int pn), .val (.int (4 : Int32)), .val (.int c0), .val (.int c1), .val (.int c2), .val (.int c3), .val (.ref b196), .val (.ref b201), .val (.ref b206), .val (.int (-1 : Int32)), .unset, .unset] []))
            refine own_st (fun _ k => XS.iconst X242.here hx rfl (hb hby at_255) k) ?_
            show own_Go p e below s _ _ _ (T242.setTop (mkF m 256 #[.val (.int pa), .val (.int pb), .val (.int pd), .val (.int pe), .val (.int pn), .val (.int (4 : Int32)), .val (.int c0), .val (.int c1), .val (.int c2), .val (.int c3), .val (.ref b196), .val (.ref b201), .val (.ref b206), .val (.int (-1 : Int32)), .unset, .unset] [(.int (1 : Int32))]))
            exact own_ret X242 hx hlk e242 hret (by decide) (Or.inl ⟨rfl, Or.inr (Or.inl rfl), _, rfl⟩) (hb hby at_256) (by decide) (by decide) ⟨rfl, N242⟩
set_option maxRecDepth 65536 in
set_option maxHeartbeats 40000000 in
theorem comes_1 {Post : Tables → Env → Array Value → State → Outcome → State → Prop} (hpost : ∀ tb e args s v u, (limb_1_1.after args s (.returned v) u = true ∧ limb_1_2.after args s (.returned v) u = true ∧ True) → FrameEnd s (.returned v) u (Jvm.fieldLocs frame_1_writes args s ++ Jvm.arrayLocs frame_1_arrays args s ++ Jvm.staticLocs frame_1_statics s) 24 128 → Post tb e args s (.returned v) u) :
    ArmFor flags0 classFile x code maxLocals ret World_1 tables_1 room_1 Calls_1 rest_1 Pre_1 Post := by
  intro l hfl _ _ p e ha hc hk s m args below hf hA hF happ hP
  obtain ⟨hcalls, hrest, hpre⟩ := hP
  obtain ⟨-, -, -, hnamed, -, -, -, hat⟩ := (Spec.applies_iff hf).mp happ
  obtain ⟨hg, hn⟩ := and_e (Cond.before_iff.mp (show (Jvm.Cond.and given_1 narrow_1).before args s = true from hpre))
  obtain ⟨g2, g3⟩ := and_e hg
  obtain ⟨g4, g5⟩ := and_e g3
  obtain ⟨g6, g7⟩ := and_e g5
  obtain ⟨g8, g9⟩ := and_e g7
  obtain ⟨g10, g11⟩ := and_e g9
  obtain ⟨w0, w1, w2, w3, w4, rfl⟩ : ∃ w0 w1 w2 w3 w4 : Value, args = #[w0, w1, w2, w3, w4] := by
    have hs : args.size = 5 := by simpa [Cond.value, given_1] using g2
    obtain ⟨L⟩ := args
    match L, hs with
    | [w0, w1, w2, w3, w4], _ => exact ⟨w0, w1, w2, w3, w4, rfl⟩
  have hw := fun d (hd : d ∈ tables_1) => atoms_spec (ws := Jvm.Cond.code x code maxLocals ret :: tables_1) hat d (List.mem_cons_of_mem _ hd)
  have hfit : Fit s := fun {y c} hc i hi => by
    obtain ⟨ha, rfl⟩ := Array.getElem?_eq_some_iff.mp hc
    have q := List.all_eq_true.mp ((Array.all_eq_true_iff_forall_mem.mp hF) _ (Array.getElem_mem ha)) i (List.mem_range.mpr hi)
    simpa [Array.getElem?_eq_getElem hi] using q
  obtain ⟨hsets, hown0⟩ := atoms_of _ (rest_1_c_eq ▸ (show rest_1_c.before _ s = true from hrest))
  have hr0 := Cond.before_iff.mp hown0
  obtain ⟨i0, ei0⟩ := is_v g4
  obtain rfl : w0 = (.int i0) := Option.some.inj ei0
  obtain ⟨i1, ei1⟩ := is_v g6
  obtain rfl : w1 = (.int i1) := Option.some.inj ei1
  obtain ⟨i2, ei2⟩ := is_v g8
  obtain rfl : w2 = (.int i2) := Option.some.inj ei2
  obtain ⟨i3, ei3⟩ := is_v g10
  obtain rfl : w3 = (.int i3) := Option.some.inj ei3
  obtain ⟨i4, ei4⟩ := is_v g11
  obtain rfl : w4 = (.int i4) := Option.some.inj ei4
  have n5 := not_v (Cond.before_iff.mp (hsets _ (List.mem_of_getElem? (i := 2) rfl)))
  obtain ⟨zc, ezc⟩ := is_v (Cond.before_iff.mp (hsets _ (List.mem_of_getElem? (i := 1) rfl)))
  have CS : own_CS s := ⟨zc, Sta.start ezc (Or.inl (hsets _ (List.mem_of_getElem? (i := 0) rfl))), gotF (Cond.eq_ints ezc (Term.int_eval (0))) n5⟩
  obtain ⟨fmv, efm, rfm⟩ := isR_v (Cond.before_iff.mp (hsets _ (List.mem_of_getElem? (i := 8) rfl)))
  have FM : own_FM s := ⟨fmv, Sta.start efm (Or.inl (hsets _ (List.mem_of_getElem? (i := 7) rfl))), rfm⟩
  obtain ⟨ar, e_ar⟩ := exa_v hn
  have RS : ∃ a : Nat, Sta s s.heap "com/example/shelfproof/shelfproof/library/Refusal" "MISSING_TITLE" "Lcom/example/shelfproof/shelfproof/library/Refusal;" (.ref a) := ⟨ar, Sta.start e_ar (Or.inr ⟨(hw _ (List.mem_of_getElem? (i := 35) rfl)), (hw _ (List.mem_of_getElem? (i := 36) rfl))⟩)⟩
  obtain ⟨ai, e_ai⟩ := exa_v (Cond.before_iff.mp (hsets _ (List.mem_of_getElem? (i := 11) rfl)))
  have E_ai := Exa.start e_ai (Cond.before_iff.mp (hsets _ (List.mem_of_getElem? (i := 11) rfl)))
  have S_ai := Sta.start e_ai (Or.inl (hsets _ (List.mem_of_getElem? (i := 10) rfl)))
  obtain ⟨aA, e_aA⟩ := arr_v (Cond.before_iff.mp (hsets _ (List.mem_of_getElem? (i := 14) rfl)))
  obtain ⟨clA, A_A⟩ := Arr.start e_aA (Cond.before_iff.mp (hsets _ (List.mem_of_getElem? (i := 14) rfl)))
  have S_A := Sta.start e_aA (Or.inl (hsets _ (List.mem_of_getElem? (i := 13) rfl)))
  obtain ⟨lA, mA⟩ := own_len A_A (own_eqI (Cond.before_iff.mp (hsets _ (List.mem_of_getElem? (i := 16) rfl)))) e_aA
  have V_A := own_tab A_A lA mA (fun k => by
    have q := own_el A_A (own_eqI (Cond.before_iff.mp (hsets _ (List.mem_of_getElem? (own_memA k))))) e_aA
    rw [own_tcn (by omega)] at q; exact q)
  have CDs : own_CD s := ⟨ai, aA, clA.cls, S_ai, E_ai, S_A, V_A⟩
  obtain ⟨n, o, h1, h2, h3, _, L, rfl, ⟨rfl, N⟩, hq⟩ := lawW l s _ hw tables_1 i0 i1 i2 i3 i4 s.heap s.heap.size (Old.start s) CS FM CDs RS p e ha hc hk s m _ below hf ((Spec.applies_iff_loose hf).mp happ).1 ⟨rfl, State.Warmed39.refl s, rfl⟩ trivial
  refine ⟨n, _, h1, h2, h3, hpost _ _ _ _ _ _ ⟨Cond.after_iff.mpr rfl, Cond.after_iff.mpr (eq_i res_at (Term.int_eval (1)) rfl), trivial⟩ ⟨hq.1, hq.2.1, (hq.2.2.sift fun y hy => Or.inr (N y hy)).mono (by decide) (by decide)⟩⟩
theorem main_1_1 : Claimed_1_1 := comes_1 fun _ _ _ _ _ _ h hF => ⟨h.1, hF⟩
theorem main_1_2 : Claimed_1_2 := comes_1 fun _ _ _ _ _ _ h hF => ⟨h.2.1, hF⟩
end Jvm.Pilot.@@N@@
namespace Jvm.Pilot.@@N@@
open Jvm Jvm.ClassFile Sem Op Lib Jvm.Free Jvm.Stand Jvm.Pilot.@@N@@.Jvm.D
/-! MADE BY PROGRAM (witnessworld.py) out of the Statement's table words and the real class files: 27 classes; the members and pool entries that the words name. The judged class is class 1, her method 3. -/
namespace start1
open Jvm.ClassFile
def u (s : String) : CpInfo := .utf8 (stringToUtf16 s)
/-- a pool by its gaps: so many unusable entries, then the entry; so many at the end -/
def gap : Nat → List CpInfo → List CpInfo
  | 0, r => r
  | n + 1, r => .unusable :: gap n r
def poolList (es : List (Nat × CpInfo)) (last : Nat) : List CpInfo := es.foldr (fun e r => gap e.1 (e.2 :: r)) (gap last [])
def pool (es : List (Nat × CpInfo)) (last : Nat) : Array CpInfo := ⟨poolList es last⟩
def fileOf (pool : Array CpInfo) (this : Nat) (attrs : Array Attribute := #[]) (ms : Array MethodInfo := #[]) (fl : Nat := 33) (sup : Nat := 0) (ifs : Array Nat := #[]) (fds : Array FieldInfo := #[]) : ClassFile where
  minorVersion := 0
  majorVersion := 65
  constantPool := pool
  accessFlags := fl
  thisClass := this
  superClass := sup
  interfaces := ifs
  fields := fds
  methods := ms
  attributes := attrs
def plain (name : String) (sup : Option ClassId) : Class where
  name := name
  kind := .ordinary
  loader := none
  accessFlags := 33
  super := sup
  interfaces := #[]
  cf := none
  fields := #[]
  methods := #[]
  instanceTypes := #[]
  staticTypes := #[]
  resolved := #[]
  callSites := []
  init := .initialized
  statics := none
  mirror := none

def pool0 : Array CpInfo := pool [(5, u "<init>"), (0, u "()V"), (1, .class_ 10), (1, u "java/lang/Object")] 113

def k0c0 : Code := { maxStack := 0, maxLocals := 1, code := object_method_1_code, exceptionTable := #[], attributes := #[] }
def k0m0 : Method := { name := "<init>", desc := "()V", sig := { parameters := [], returnType := none }, accessFlags := 1, code := some k0c0 }
/-- java/lang/Object -/
def k0 : Class := { plain "java/lang/Object" none with
  accessFlags := 33
  interfaces := #[]
  cf := some (fileOf pool0 8 #[] #[{ accessFlags := 1, nameIndex := 5, descriptorIndex := 6, attributes := #[] }] 33 0 #[] #[])
  fields := #[]
  methods := #[k0m0]
  instanceTypes := #[]
  staticTypes := #[]
  resolved := Array.replicate 124 none
  statics := none }

def pool1 : Array CpInfo := pool [(2, .class_ 4), (1, u "java/lang/Object"), (0, u "<init>"), (0, u "()V"), (0, .methodref 8 9), (0, .class_ 10), (0, .nameAndType 11 12), (0, u "java/lang/String"), (0, u "charAt"), (0, u "(I)C"), (0, .methodref 8 14), (0, .nameAndType 5 15), (0, u "([C)V"), (0, .methodref 17 18), (0, .class_ 19), (0, .nameAndType 20 21), (0, u "com/example/shelfproof/shelfproof/library/RequestsRequiredPinLaw"), (0, u "ws"), (0, u "(C)Z"), (0, .fieldref 23 24), (0, .class_ 25), (0, .nameAndType 26 27), (0, u "com/example/shelfproof/shelfproof/library/Refusal"), (0, u "MISSING_TITLE"), (0, u "Lcom/example/shelfproof/shelfproof/library/Refusal;"), (0, .methodref 29 30), (0, .class_ 31), (0, .nameAndType 32 33), (0, u "com/example/shelfproof/shelfproof/library/Requests"), (0, u "required"), (0, u "(Ljava/lang/String;Lcom/example/shelfproof/shelfproof/library/Refusal;)Ljava/lang/String;"), (0, .methodref 8 35), (0, .nameAndType 36 37), (0, u "length"), (0, u "()I"), (0, .methodref 17 39), (0, .nameAndType 40 41), (0, u "at"), (0, u "(Ljava/lang/String;[CIII)Z"), (3, u "law"), (0, u "(IIIII)Z")] 4

def k1m0 : Method := { name := "<init>", desc := "()V", sig := { parameters := [], returnType := none }, accessFlags := 1, code := none }
def k1c1 : Code := { maxStack := 2, maxLocals := 1, code := method_2_code, exceptionTable := #[], attributes := #[] }
def k1m1 : Method := { name := "ws", desc := "(C)Z", sig := { parameters := [.char], returnType := some .boolean }, accessFlags := 10, code := some k1c1 }
def k1c2 : Code := { maxStack := 3, maxLocals := 5, code := method_3_code, exceptionTable := #[], attributes := #[] }
def k1m2 : Method := { name := "at", desc := "(Ljava/lang/String;[CIII)Z", sig := { parameters := [(.object "java/lang/String"), (.array .char), .int, .int, .int], returnType := some .boolean }, accessFlags := 10, code := some k1c2 }
def k1c3 : Code := { maxStack := 5, maxLocals := 16, code := code, exceptionTable := #[], attributes := #[] }
def k1m3 : Method := { name := "law", desc := "(IIIII)Z", sig := { parameters := [.int, .int, .int, .int, .int], returnType := some .boolean }, accessFlags := 9, code := some k1c3 }
/-- com/example/shelfproof/shelfproof/library/RequestsRequiredPinLaw -/
def k1 : Class := { plain "com/example/shelfproof/shelfproof/library/RequestsRequiredPinLaw" (some 0) with
  accessFlags := 49
  interfaces := #[]
  cf := some (fileOf pool1 17 #[] #[{ accessFlags := 1, nameIndex := 5, descriptorIndex := 6, attributes := #[] }, { accessFlags := 10, nameIndex := 20, descriptorIndex := 21, attributes := #[] }, { accessFlags := 10, nameIndex := 40, descriptorIndex := 41, attributes := #[] }, { accessFlags := 9, nameIndex := 45, descriptorIndex := 46, attributes := #[] }] 49 2 #[] #[])
  fields := #[]
  methods := #[k1m0, k1m1, k1m2, k1m3]
  instanceTypes := #[]
  staticTypes := #[]
  resolved := Array.replicate 51 none
  statics := none }

def pool2 : Array CpInfo := pool [(1, .class_ 2), (0, u "java/io/Serializable"), (0, .class_ 4), (0, u "java/lang/Object")] 2

/-- java/io/Serializable -/
def k2 : Class := { plain "java/io/Serializable" (some 0) with
  accessFlags := 1537
  interfaces := #[]
  cf := some (fileOf pool2 1 #[] #[] 1537 3 #[] #[])
  fields := #[]
  methods := #[]
  instanceTypes := #[]
  staticTypes := #[]
  resolved := Array.replicate 7 none
  statics := none }

def pool3 : Array CpInfo := pool [(1, .class_ 2), (0, u "java/lang/Comparable"), (0, .class_ 4), (0, u "java/lang/Object")] 7

/-- java/lang/Comparable -/
def k3 : Class := { plain "java/lang/Comparable" (some 0) with
  accessFlags := 1537
  interfaces := #[]
  cf := some (fileOf pool3 1 #[] #[] 1537 3 #[] #[])
  fields := #[]
  methods := #[]
  instanceTypes := #[]
  staticTypes := #[]
  resolved := Array.replicate 12 none
  statics := none }

def pool4 : Array CpInfo := pool [(2, .class_ 4), (1, u "java/lang/CharSequence"), (42, .class_ 48), (0, u "java/lang/CharSequence$1CodePointIterator"), (10, .class_ 60), (0, u "java/lang/CharSequence$1CharIterator"), (5, .class_ 67), (0, u "java/lang/Object")] 63

/-- java/lang/CharSequence -/
def k4 : Class := { plain "java/lang/CharSequence" (some 0) with
  accessFlags := 1537
  interfaces := #[]
  cf := some (fileOf pool4 2 #[.nestMembers #[47, 59]] #[] 1537 66 #[] #[])
  fields := #[]
  methods := #[]
  instanceTypes := #[]
  staticTypes := #[]
  resolved := Array.replicate 131 none
  statics := none }

def pool5 : Array CpInfo := pool [(1, .class_ 2), (0, u "java/lang/constant/Constable"), (0, .class_ 4), (0, u "java/lang/Object")] 6

/-- java/lang/constant/Constable -/
def k5 : Class := { plain "java/lang/constant/Constable" (some 0) with
  accessFlags := 1537
  interfaces := #[]
  cf := some (fileOf pool5 1 #[] #[] 1537 3 #[] #[])
  fields := #[]
  methods := #[]
  instanceTypes := #[]
  staticTypes := #[]
  resolved := Array.replicate 11 none
  statics := none }

def pool6 : Array CpInfo := pool [(1, .class_ 2), (0, u "java/lang/constant/ConstantDesc"), (0, .class_ 4), (0, u "java/lang/Object")] 32

/-- java/lang/constant/ConstantDesc -/
def k6 : Class := { plain "java/lang/constant/ConstantDesc" (some 0) with
  accessFlags := 1537
  interfaces := #[]
  cf := some (fileOf pool6 1 #[] #[] 1537 3 #[] #[])
  fields := #[]
  methods := #[]
  instanceTypes := #[]
  staticTypes := #[]
  resolved := Array.replicate 37 none
  statics := none }

def pool7 : Array CpInfo := pool [(1, .methodref 2 3), (0, .class_ 4), (0, .nameAndType 5 6), (0, u "java/lang/Object"), (0, u "<init>"), (0, u "()V"), (2, .fieldref 10 11), (0, .class_ 12), (0, .nameAndType 13 14), (0, u "java/lang/String"), (0, u "value"), (0, u "[B"), (0, .fieldref 10 16), (0, .nameAndType 17 18), (0, u "coder"), (0, u "B"), (2, u "hash"), (0, u "I"), (2, u "hashIsZero"), (0, u "Z"), (0, .methodref 10 28), (0, .nameAndType 5 29), (0, u "([CIILjava/lang/Void;)V"), (8, .fieldref 10 39), (0, .nameAndType 40 26), (0, u "COMPACT_STRINGS"), (1, .class_ 44), (1, u "java/lang/StringUTF16"), (0, u "compress"), (1, .methodref 42 48), (0, .nameAndType 49 50), (0, u "coderFromArrayLen"), (0, u "([BI)B"), (56, .class_ 109), (1, u "java/lang/StringLatin1"), (32, u "()Z"), (34, .methodref 42 178), (0, .nameAndType 45 179), (0, u "([CII)[B"), (31, u "([BB)V"), (122, u "()I"), (0, .methodref 10 336), (0, .nameAndType 17 337), (0, u "()B"), (25, u "([BI)C"), (27, u "(II)V"), (35, u "(I)C"), (36, u "()Ljava/lang/String;"), (27, .methodref 10 493), (0, .nameAndType 494 142), (0, u "isLatin1"), (0, .methodref 107 496), (0, .nameAndType 497 363), (0, u "charAt"), (3, u "checkIndex"), (5, u "length"), (67, .class_ 576), (0, u "java/lang/CharSequence"), (22, u "CASE_INSENSITIVE_ORDER"), (0, u "Ljava/util/Comparator;"), (91, u "isEmpty"), (169, u "([B)Ljava/lang/String;"), (1, .methodref 107 865), (0, .nameAndType 866 862), (0, u "strip"), (143, u "([C)V"), (42, .fieldref 1054 1055), (0, .class_ 1056), (0, .nameAndType 1057 1058), (0, u "jdk/internal/util/Preconditions"), (0, u "SIOOBE_FORMATTER"), (0, u "Ljava/util/function/BiFunction;"), (0, .methodref 1054 1060), (0, .nameAndType 501 1061), (0, u "(IILjava/util/function/BiFunction;)I"), (39, u "serialPersistentFields"), (0, u "[Ljava/io/ObjectStreamField;"), (0, .class_ 1104), (0, u "java/lang/String$CaseInsensitiveComparator"), (1, .class_ 1107), (0, u "java/io/Serializable"), (0, .class_ 1109), (0, u "java/lang/Comparable"), (0, .class_ 1111), (0, u "java/lang/constant/Constable"), (0, .class_ 1113), (0, u "java/lang/constant/ConstantDesc"), (2, u "serialVersionUID"), (0, u "J"), (3, u "REPL"), (0, u "C"), (2, u "LATIN1"), (1, u "UTF16")] 323

def k7m0 : Method := { name := "<init>", desc := "()V", sig := { parameters := [], returnType := none }, accessFlags := 1, code := none }
def k7c1 : Code := { maxStack := 5, maxLocals := 2, code := jdk_42_method_3_code, exceptionTable := #[], attributes := #[] }
def k7m1 : Method := { name := "<init>", desc := "([C)V", sig := { parameters := [(.array .char)], returnType := none }, accessFlags := 1, code := some k7c1 }
def k7c2 : Code := { maxStack := 2, maxLocals := 1, code := jdk_42_method_54_code, exceptionTable := #[], attributes := #[] }
def k7m2 : Method := { name := "length", desc := "()I", sig := { parameters := [], returnType := some .int }, accessFlags := 1, code := some k7c2 }
def k7c3 : Code := { maxStack := 1, maxLocals := 1, code := jdk_42_method_55_code, exceptionTable := #[], attributes := #[] }
def k7m3 : Method := { name := "isEmpty", desc := "()Z", sig := { parameters := [], returnType := some .boolean }, accessFlags := 1, code := some k7c3 }
def k7c4 : Code := { maxStack := 2, maxLocals := 2, code := jdk_42_method_56_code, exceptionTable := #[], attributes := #[] }
def k7m4 : Method := { name := "charAt", desc := "(I)C", sig := { parameters := [.int], returnType := some .char }, accessFlags := 1, code := some k7c4 }
def k7c5 : Code := { maxStack := 1, maxLocals := 2, code := jdk_42_method_114_code, exceptionTable := #[], attributes := #[] }
def k7m5 : Method := { name := "strip", desc := "()Ljava/lang/String;", sig := { parameters := [], returnType := some (.object "java/lang/String") }, accessFlags := 1, code := some k7c5 }
def k7c6 : Code := { maxStack := 4, maxLocals := 6, code := jdk_42_method_149_code, exceptionTable := #[], attributes := #[] }
def k7m6 : Method := { name := "<init>", desc := "([CIILjava/lang/Void;)V", sig := { parameters := [(.array .char), .int, .int, (.object "java/lang/Void")], returnType := none }, accessFlags := 2, code := some k7c6 }
def k7c7 : Code := { maxStack := 2, maxLocals := 3, code := jdk_42_method_151_code, exceptionTable := #[], attributes := #[] }
def k7m7 : Method := { name := "<init>", desc := "([BB)V", sig := { parameters := [(.array .byte), .byte], returnType := none }, accessFlags := 0, code := some k7c7 }
def k7c8 : Code := { maxStack := 1, maxLocals := 1, code := jdk_42_method_152_code, exceptionTable := #[], attributes := #[] }
def k7m8 : Method := { name := "coder", desc := "()B", sig := { parameters := [], returnType := some .byte }, accessFlags := 0, code := some k7c8 }
def k7c9 : Code := { maxStack := 1, maxLocals := 1, code := jdk_42_method_154_code, exceptionTable := #[], attributes := #[] }
def k7m9 : Method := { name := "isLatin1", desc := "()Z", sig := { parameters := [], returnType := some .boolean }, accessFlags := 0, code := some k7c9 }
def k7c10 : Code := { maxStack := 3, maxLocals := 2, code := jdk_42_method_155_code, exceptionTable := #[], attributes := #[] }
def k7m10 : Method := { name := "checkIndex", desc := "(II)V", sig := { parameters := [.int, .int], returnType := none }, accessFlags := 8, code := some k7c10 }
/-- java/lang/String -/
def k7 : Class := { plain "java/lang/String" (some 0) with
  accessFlags := 49
  interfaces := #[2, 3, 4, 5, 6]
  cf := some (fileOf pool7 10 #[.nestMembers #[1103]] #[{ accessFlags := 1, nameIndex := 5, descriptorIndex := 6, attributes := #[] }, { accessFlags := 1, nameIndex := 5, descriptorIndex := 1010, attributes := #[] }, { accessFlags := 1, nameIndex := 507, descriptorIndex := 334, attributes := #[] }, { accessFlags := 1, nameIndex := 692, descriptorIndex := 142, attributes := #[] }, { accessFlags := 1, nameIndex := 497, descriptorIndex := 427, attributes := #[] }, { accessFlags := 1, nameIndex := 866, descriptorIndex := 464, attributes := #[] }, { accessFlags := 2, nameIndex := 5, descriptorIndex := 29, attributes := #[] }, { accessFlags := 0, nameIndex := 5, descriptorIndex := 211, attributes := #[] }, { accessFlags := 0, nameIndex := 17, descriptorIndex := 337, attributes := #[] }, { accessFlags := 0, nameIndex := 494, descriptorIndex := 142, attributes := #[] }, { accessFlags := 8, nameIndex := 501, descriptorIndex := 391, attributes := #[] }] 49 2 #[1106, 1108, 575, 1110, 1112] #[{ accessFlags := 18, nameIndex := 13, descriptorIndex := 14, attributes := #[] }, { accessFlags := 18, nameIndex := 17, descriptorIndex := 18, attributes := #[] }, { accessFlags := 2, nameIndex := 21, descriptorIndex := 22, attributes := #[] }, { accessFlags := 2, nameIndex := 25, descriptorIndex := 26, attributes := #[] }, { accessFlags := 26, nameIndex := 1116, descriptorIndex := 1117, attributes := #[] }, { accessFlags := 24, nameIndex := 40, descriptorIndex := 26, attributes := #[] }, { accessFlags := 26, nameIndex := 1101, descriptorIndex := 1102, attributes := #[] }, { accessFlags := 26, nameIndex := 1121, descriptorIndex := 1122, attributes := #[] }, { accessFlags := 25, nameIndex := 599, descriptorIndex := 600, attributes := #[] }, { accessFlags := 24, nameIndex := 1125, descriptorIndex := 18, attributes := #[] }, { accessFlags := 24, nameIndex := 1127, descriptorIndex := 18, attributes := #[] }])
  fields := #[{ name := "value", type := (.array .byte), accessFlags := 18, slot := 0, constantValue := 0 }, { name := "coder", type := .byte, accessFlags := 18, slot := 1, constantValue := 0 }, { name := "hash", type := .int, accessFlags := 2, slot := 2, constantValue := 0 }, { name := "hashIsZero", type := .boolean, accessFlags := 2, slot := 3, constantValue := 0 }, { name := "serialVersionUID", type := .long, accessFlags := 26, slot := 0, constantValue := 0 }, { name := "COMPACT_STRINGS", type := .boolean, accessFlags := 24, slot := 1, constantValue := 0 }, { name := "serialPersistentFields", type := (.array (.object "java/io/ObjectStreamField")), accessFlags := 26, slot := 2, constantValue := 0 }, { name := "REPL", type := .char, accessFlags := 26, slot := 3, constantValue := 0 }, { name := "CASE_INSENSITIVE_ORDER", type := (.object "java/util/Comparator"), accessFlags := 25, slot := 4, constantValue := 0 }, { name := "LATIN1", type := .byte, accessFlags := 24, slot := 5, constantValue := 0 }, { name := "UTF16", type := .byte, accessFlags := 24, slot := 6, constantValue := 0 }]
  methods := #[k7m0, k7m1, k7m2, k7m3, k7m4, k7m5, k7m6, k7m7, k7m8, k7m9, k7m10]
  instanceTypes := #[(.array .byte), .byte, .int, .boolean]
  staticTypes := #[.long, .boolean, (.array (.object "java/io/ObjectStreamField")), .char, (.object "java/util/Comparator"), .byte, .byte]
  resolved := Array.replicate 1451 none
  statics := some 0 }

def pool8 : Array CpInfo := pool [(6, .class_ 8), (1, u "java/lang/Object"), (0, u "<init>"), (0, u "()V"), (1, .class_ 14), (1, u "java/lang/StringUTF16"), (31, u "$assertionsDisabled"), (0, u "Z"), (13, u "HI_BYTE_SHIFT"), (0, u "I"), (2, u "LO_BYTE_SHIFT"), (49, .methodref 12 116), (0, .nameAndType 117 118), (0, u "compress"), (0, u "([CI[BII)I"), (3, u "([CII)[B"), (138, u "coderFromArrayLen"), (0, u "([BI)B"), (106, .class_ 371), (1, u "java/lang/StringUTF16$LinesSpliterator"), (58, u "MAX_LENGTH"), (196, .class_ 628), (0, u "java/lang/StringUTF16$CodePointsSpliterator"), (0, .class_ 630), (0, u "java/lang/StringUTF16$CharsSpliterator")] 4

def k8m0 : Method := { name := "<init>", desc := "()V", sig := { parameters := [], returnType := none }, accessFlags := 0, code := none }
def k8c1 : Code := { maxStack := 2, maxLocals := 2, code := jdk_52_method_15_code, exceptionTable := #[], attributes := #[] }
def k8m1 : Method := { name := "coderFromArrayLen", desc := "([BI)B", sig := { parameters := [(.array .byte), .int], returnType := some .byte }, accessFlags := 8, code := some k8c1 }
def k8c2 : Code := { maxStack := 5, maxLocals := 6, code := jdk_52_method_16_code, exceptionTable := #[], attributes := #[] }
def k8m2 : Method := { name := "compress", desc := "([CII)[B", sig := { parameters := [(.array .char), .int, .int], returnType := some (.array .byte) }, accessFlags := 9, code := some k8c2 }
def k8c3 : Code := { maxStack := 3, maxLocals := 7, code := jdk_52_method_21_code, exceptionTable := #[], attributes := #[] }
def k8m3 : Method := { name := "compress", desc := "([CI[BII)I", sig := { parameters := [(.array .char), .int, (.array .byte), .int, .int], returnType := some .int }, accessFlags := 9, code := some k8c3 }
/-- java/lang/StringUTF16 -/
def k8 : Class := { plain "java/lang/StringUTF16" (some 0) with
  accessFlags := 48
  interfaces := #[]
  cf := some (fileOf pool8 12 #[.nestMembers #[627, 629, 369]] #[{ accessFlags := 0, nameIndex := 9, descriptorIndex := 10, attributes := #[] }, { accessFlags := 8, nameIndex := 261, descriptorIndex := 262, attributes := #[] }, { accessFlags := 9, nameIndex := 117, descriptorIndex := 122, attributes := #[] }, { accessFlags := 9, nameIndex := 117, descriptorIndex := 118, attributes := #[] }] 48 6 #[] #[{ accessFlags := 26, nameIndex := 61, descriptorIndex := 62, attributes := #[] }, { accessFlags := 26, nameIndex := 65, descriptorIndex := 62, attributes := #[] }, { accessFlags := 24, nameIndex := 430, descriptorIndex := 62, attributes := #[] }, { accessFlags := 4120, nameIndex := 46, descriptorIndex := 47, attributes := #[] }])
  fields := #[{ name := "HI_BYTE_SHIFT", type := .int, accessFlags := 26, slot := 0, constantValue := 0 }, { name := "LO_BYTE_SHIFT", type := .int, accessFlags := 26, slot := 1, constantValue := 0 }, { name := "MAX_LENGTH", type := .int, accessFlags := 24, slot := 2, constantValue := 0 }, { name := "$assertionsDisabled", type := .boolean, accessFlags := 4120, slot := 3, constantValue := 0 }]
  methods := #[k8m0, k8m1, k8m2, k8m3]
  instanceTypes := #[]
  staticTypes := #[.int, .int, .int, .boolean]
  resolved := Array.replicate 635 none
  statics := none }

def pool9 : Array CpInfo := pool [(2, .class_ 4), (1, u "java/lang/Enum"), (0, u "name"), (0, u "Ljava/lang/String;"), (2, u "ordinal"), (0, u "I"), (1, .class_ 14), (1, u "java/lang/Object"), (4, u "hash"), (86, .class_ 108), (1, u "java/lang/Enum$EnumDesc"), (2, .class_ 112), (0, u "java/lang/constant/Constable"), (0, .class_ 114), (0, u "java/lang/Comparable"), (0, .class_ 116), (0, u "java/io/Serializable")] 87

/-- java/lang/Enum -/
def k9 : Class := { plain "java/lang/Enum" (some 0) with
  accessFlags := 1057
  interfaces := #[5, 3, 2]
  cf := some (fileOf pool9 2 #[.nestMembers #[106]] #[] 1057 12 #[111, 113, 115] #[{ accessFlags := 18, nameIndex := 5, descriptorIndex := 6, attributes := #[] }, { accessFlags := 18, nameIndex := 9, descriptorIndex := 10, attributes := #[] }, { accessFlags := 2, nameIndex := 19, descriptorIndex := 10, attributes := #[] }])
  fields := #[{ name := "name", type := (.object "java/lang/String"), accessFlags := 18, slot := 0, constantValue := 0 }, { name := "ordinal", type := .int, accessFlags := 18, slot := 1, constantValue := 0 }, { name := "hash", type := .int, accessFlags := 2, slot := 2, constantValue := 0 }]
  methods := #[]
  instanceTypes := #[(.object "java/lang/String"), .int, .int]
  staticTypes := #[]
  resolved := Array.replicate 204 none
  statics := none }

def pool10 : Array CpInfo := pool [(1, .class_ 2), (0, u "com/example/shelfproof/shelfproof/library/Refusal"), (2, u "MISSING_BARCODE"), (0, u "Lcom/example/shelfproof/shelfproof/library/Refusal;"), (2, u "MISSING_TITLE"), (2, u "MISSING_CARD"), (2, u "MISSING_NAME"), (2, u "INVALID_ISBN"), (2, u "INVALID_DATE"), (2, u "EMPTY_QUERY"), (2, u "TOO_MANY_WORDS"), (2, u "NO_SUCH_COPY"), (2, u "NO_SUCH_MEMBER"), (2, u "BARCODE_TAKEN"), (2, u "CARD_TAKEN"), (2, u "COPY_ON_LOAN"), (2, u "COPY_NOT_ON_LOAN"), (2, u "MEMBER_HAS_LOANS"), (2, u "$VALUES"), (0, u "[Lcom/example/shelfproof/shelfproof/library/Refusal;"), (6, .class_ 61), (1, u "java/lang/Enum"), (8, u "m_code"), (0, u "Ljava/lang/String;"), (2, u "m_kind"), (0, u "Lcom/example/shelfproof/shelfproof/library/Refusal$Kind;"), (4, .class_ 82), (1, u "com/example/shelfproof/shelfproof/library/Refusal$Kind")] 75

/-- com/example/shelfproof/shelfproof/library/Refusal -/
def k10 : Class := { plain "com/example/shelfproof/shelfproof/library/Refusal" (some 9) with
  accessFlags := 16433
  interfaces := #[]
  cf := some (fileOf pool10 1 #[.nestMembers #[80]] #[] 16433 59 #[] #[{ accessFlags := 16409, nameIndex := 5, descriptorIndex := 6, attributes := #[] }, { accessFlags := 16409, nameIndex := 9, descriptorIndex := 6, attributes := #[] }, { accessFlags := 16409, nameIndex := 12, descriptorIndex := 6, attributes := #[] }, { accessFlags := 16409, nameIndex := 15, descriptorIndex := 6, attributes := #[] }, { accessFlags := 16409, nameIndex := 18, descriptorIndex := 6, attributes := #[] }, { accessFlags := 16409, nameIndex := 21, descriptorIndex := 6, attributes := #[] }, { accessFlags := 16409, nameIndex := 24, descriptorIndex := 6, attributes := #[] }, { accessFlags := 16409, nameIndex := 27, descriptorIndex := 6, attributes := #[] }, { accessFlags := 16409, nameIndex := 30, descriptorIndex := 6, attributes := #[] }, { accessFlags := 16409, nameIndex := 33, descriptorIndex := 6, attributes := #[] }, { accessFlags := 16409, nameIndex := 36, descriptorIndex := 6, attributes := #[] }, { accessFlags := 16409, nameIndex := 39, descriptorIndex := 6, attributes := #[] }, { accessFlags := 16409, nameIndex := 42, descriptorIndex := 6, attributes := #[] }, { accessFlags := 16409, nameIndex := 45, descriptorIndex := 6, attributes := #[] }, { accessFlags := 16409, nameIndex := 48, descriptorIndex := 6, attributes := #[] }, { accessFlags := 18, nameIndex := 70, descriptorIndex := 71, attributes := #[] }, { accessFlags := 18, nameIndex := 74, descriptorIndex := 75, attributes := #[] }, { accessFlags := 4122, nameIndex := 51, descriptorIndex := 52, attributes := #[] }])
  fields := #[{ name := "MISSING_BARCODE", type := (.object "com/example/shelfproof/shelfproof/library/Refusal"), accessFlags := 16409, slot := 0, constantValue := 0 }, { name := "MISSING_TITLE", type := (.object "com/example/shelfproof/shelfproof/library/Refusal"), accessFlags := 16409, slot := 1, constantValue := 0 }, { name := "MISSING_CARD", type := (.object "com/example/shelfproof/shelfproof/library/Refusal"), accessFlags := 16409, slot := 2, constantValue := 0 }, { name := "MISSING_NAME", type := (.object "com/example/shelfproof/shelfproof/library/Refusal"), accessFlags := 16409, slot := 3, constantValue := 0 }, { name := "INVALID_ISBN", type := (.object "com/example/shelfproof/shelfproof/library/Refusal"), accessFlags := 16409, slot := 4, constantValue := 0 }, { name := "INVALID_DATE", type := (.object "com/example/shelfproof/shelfproof/library/Refusal"), accessFlags := 16409, slot := 5, constantValue := 0 }, { name := "EMPTY_QUERY", type := (.object "com/example/shelfproof/shelfproof/library/Refusal"), accessFlags := 16409, slot := 6, constantValue := 0 }, { name := "TOO_MANY_WORDS", type := (.object "com/example/shelfproof/shelfproof/library/Refusal"), accessFlags := 16409, slot := 7, constantValue := 0 }, { name := "NO_SUCH_COPY", type := (.object "com/example/shelfproof/shelfproof/library/Refusal"), accessFlags := 16409, slot := 8, constantValue := 0 }, { name := "NO_SUCH_MEMBER", type := (.object "com/example/shelfproof/shelfproof/library/Refusal"), accessFlags := 16409, slot := 9, constantValue := 0 }, { name := "BARCODE_TAKEN", type := (.object "com/example/shelfproof/shelfproof/library/Refusal"), accessFlags := 16409, slot := 10, constantValue := 0 }, { name := "CARD_TAKEN", type := (.object "com/example/shelfproof/shelfproof/library/Refusal"), accessFlags := 16409, slot := 11, constantValue := 0 }, { name := "COPY_ON_LOAN", type := (.object "com/example/shelfproof/shelfproof/library/Refusal"), accessFlags := 16409, slot := 12, constantValue := 0 }, { name := "COPY_NOT_ON_LOAN", type := (.object "com/example/shelfproof/shelfproof/library/Refusal"), accessFlags := 16409, slot := 13, constantValue := 0 }, { name := "MEMBER_HAS_LOANS", type := (.object "com/example/shelfproof/shelfproof/library/Refusal"), accessFlags := 16409, slot := 14, constantValue := 0 }, { name := "m_code", type := (.object "java/lang/String"), accessFlags := 18, slot := 3, constantValue := 0 }, { name := "m_kind", type := (.object "com/example/shelfproof/shelfproof/library/Refusal$Kind"), accessFlags := 18, slot := 4, constantValue := 0 }, { name := "$VALUES", type := (.array (.object "com/example/shelfproof/shelfproof/library/Refusal")), accessFlags := 4122, slot := 15, constantValue := 0 }]
  methods := #[]
  instanceTypes := #[(.object "java/lang/String"), .int, .int, (.object "java/lang/String"), (.object "com/example/shelfproof/shelfproof/library/Refusal$Kind")]
  staticTypes := #[(.object "com/example/shelfproof/shelfproof/library/Refusal"), (.object "com/example/shelfproof/shelfproof/library/Refusal"), (.object "com/example/shelfproof/shelfproof/library/Refusal"), (.object "com/example/shelfproof/shelfproof/library/Refusal"), (.object "com/example/shelfproof/shelfproof/library/Refusal"), (.object "com/example/shelfproof/shelfproof/library/Refusal"), (.object "com/example/shelfproof/shelfproof/library/Refusal"), (.object "com/example/shelfproof/shelfproof/library/Refusal"), (.object "com/example/shelfproof/shelfproof/library/Refusal"), (.object "com/example/shelfproof/shelfproof/library/Refusal"), (.object "com/example/shelfproof/shelfproof/library/Refusal"), (.object "com/example/shelfproof/shelfproof/library/Refusal"), (.object "com/example/shelfproof/shelfproof/library/Refusal"), (.object "com/example/shelfproof/shelfproof/library/Refusal"), (.object "com/example/shelfproof/shelfproof/library/Refusal"), (.array (.object "com/example/shelfproof/shelfproof/library/Refusal"))]
  resolved := Array.replicate 158 none
  statics := some 1 }

def pool11 : Array CpInfo := pool [(2, .class_ 4), (1, u "java/lang/Object"), (0, u "<init>"), (0, u "()V"), (2, .methodref 10 11), (0, .class_ 12), (0, .nameAndType 13 14), (0, u "java/lang/String"), (0, u "strip"), (0, u "()Ljava/lang/String;"), (0, .methodref 16 17), (0, .class_ 18), (0, .nameAndType 19 20), (0, u "com/example/shelfproof/shelfproof/library/Requests"), (0, u "stripped"), (0, u "(Ljava/lang/String;)Ljava/lang/String;"), (0, .methodref 10 22), (0, .nameAndType 23 24), (0, u "isEmpty"), (0, u "()Z"), (27, u "required"), (0, u "(Ljava/lang/String;Lcom/example/shelfproof/shelfproof/library/Refusal;)Ljava/lang/String;")] 8

def k11m0 : Method := { name := "<init>", desc := "()V", sig := { parameters := [], returnType := none }, accessFlags := 2, code := none }
def k11c1 : Code := { maxStack := 2, maxLocals := 1, code := prog_35_method_2_code, exceptionTable := #[], attributes := #[] }
def k11m1 : Method := { name := "stripped", desc := "(Ljava/lang/String;)Ljava/lang/String;", sig := { parameters := [(.object "java/lang/String")], returnType := some (.object "java/lang/String") }, accessFlags := 8, code := some k11c1 }
def k11c2 : Code := { maxStack := 3, maxLocals := 3, code := prog_35_method_3_code, exceptionTable := #[], attributes := #[] }
def k11m2 : Method := { name := "required", desc := "(Ljava/lang/String;Lcom/example/shelfproof/shelfproof/library/Refusal;)Ljava/lang/String;", sig := { parameters := [(.object "java/lang/String"), (.object "com/example/shelfproof/shelfproof/library/Refusal")], returnType := some (.object "java/lang/String") }, accessFlags := 8, code := some k11c2 }
/-- com/example/shelfproof/shelfproof/library/Requests -/
def k11 : Class := { plain "com/example/shelfproof/shelfproof/library/Requests" (some 0) with
  accessFlags := 48
  interfaces := #[]
  cf := some (fileOf pool11 16 #[] #[{ accessFlags := 2, nameIndex := 5, descriptorIndex := 6, attributes := #[] }, { accessFlags := 8, nameIndex := 19, descriptorIndex := 20, attributes := #[] }, { accessFlags := 8, nameIndex := 52, descriptorIndex := 53, attributes := #[] }] 48 2 #[] #[])
  fields := #[]
  methods := #[k11m0, k11m1, k11m2]
  instanceTypes := #[]
  staticTypes := #[]
  resolved := Array.replicate 62 none
  statics := none }

def pool12 : Array CpInfo := pool [(1, .class_ 2), (0, u "java/lang/String"), (1, .class_ 6), (1, u "java/lang/Object"), (0, u "<init>"), (0, u "()V"), (0, .methodref 1 10), (0, .nameAndType 11 12), (0, u "checkIndex"), (0, u "(II)V"), (1, .class_ 16), (1, u "java/lang/StringLatin1"), (33, .methodref 14 51), (0, .nameAndType 52 53), (0, u "getChar"), (0, u "([BI)C"), (3, u "([B)I"), (8, .fieldref 67 68), (0, .class_ 69), (0, .nameAndType 70 71), (0, u "java/lang/CharacterDataLatin1"), (0, u "instance"), (0, u "Ljava/lang/CharacterDataLatin1;"), (19, u "(I)Z"), (20, .methodref 1 113), (0, .nameAndType 7 114), (0, u "([BB)V"), (6, u "$assertionsDisabled"), (0, u "Z"), (8, .class_ 133), (1, u "java/util/Arrays"), (61, .nameAndType 196 197), (0, u "newString"), (0, u "([BII)Ljava/lang/String;"), (12, .methodref 14 195), (0, .methodref 67 212), (0, .nameAndType 213 91), (0, u "isWhitespace"), (0, .methodref 14 215), (0, .nameAndType 216 57), (0, u "indexOfNonWhitespace"), (0, .methodref 14 218), (0, .nameAndType 219 57), (0, u "lastIndexOfNonWhitespace"), (1, .class_ 223), (1, u "java/lang/StringLatin1$LinesSpliterator"), (8, .methodref 131 233), (0, .nameAndType 234 235), (0, u "copyOfRange"), (0, u "([BII)[B"), (16, u "charAt"), (114, u "([B)Ljava/lang/String;"), (3, u "strip"), (18, .class_ 391), (0, u "java/lang/StringLatin1$CharsSpliterator")] 3

def k12m0 : Method := { name := "<init>", desc := "()V", sig := { parameters := [], returnType := none }, accessFlags := 0, code := none }
def k12c1 : Code := { maxStack := 2, maxLocals := 2, code := jdk_43_method_2_code, exceptionTable := #[], attributes := #[] }
def k12m1 : Method := { name := "charAt", desc := "([BI)C", sig := { parameters := [(.array .byte), .int], returnType := some .char }, accessFlags := 9, code := some k12c1 }
def k12c2 : Code := { maxStack := 2, maxLocals := 4, code := jdk_43_method_37_code, exceptionTable := #[], attributes := #[] }
def k12m2 : Method := { name := "indexOfNonWhitespace", desc := "([B)I", sig := { parameters := [(.array .byte)], returnType := some .int }, accessFlags := 9, code := some k12c2 }
def k12c3 : Code := { maxStack := 3, maxLocals := 4, code := jdk_43_method_38_code, exceptionTable := #[], attributes := #[] }
def k12m3 : Method := { name := "lastIndexOfNonWhitespace", desc := "([B)I", sig := { parameters := [(.array .byte)], returnType := some .int }, accessFlags := 9, code := some k12c3 }
def k12c4 : Code := { maxStack := 4, maxLocals := 4, code := jdk_43_method_39_code, exceptionTable := #[], attributes := #[] }
def k12m4 : Method := { name := "strip", desc := "([B)Ljava/lang/String;", sig := { parameters := [(.array .byte)], returnType := some (.object "java/lang/String") }, accessFlags := 9, code := some k12c4 }
def k12c5 : Code := { maxStack := 2, maxLocals := 2, code := jdk_43_method_44_code, exceptionTable := #[], attributes := #[] }
def k12m5 : Method := { name := "getChar", desc := "([BI)C", sig := { parameters := [(.array .byte), .int], returnType := some .char }, accessFlags := 9, code := some k12c5 }
def k12c6 : Code := { maxStack := 6, maxLocals := 3, code := jdk_43_method_47_code, exceptionTable := #[], attributes := #[] }
def k12m6 : Method := { name := "newString", desc := "([BII)Ljava/lang/String;", sig := { parameters := [(.array .byte), .int, .int], returnType := some (.object "java/lang/String") }, accessFlags := 9, code := some k12c6 }
/-- java/lang/StringLatin1 -/
def k12 : Class := { plain "java/lang/StringLatin1" (some 0) with
  accessFlags := 48
  interfaces := #[]
  cf := some (fileOf pool12 14 #[.nestMembers #[390, 221]] #[{ accessFlags := 0, nameIndex := 7, descriptorIndex := 8, attributes := #[] }, { accessFlags := 9, nameIndex := 252, descriptorIndex := 53, attributes := #[] }, { accessFlags := 9, nameIndex := 216, descriptorIndex := 57, attributes := #[] }, { accessFlags := 9, nameIndex := 219, descriptorIndex := 57, attributes := #[] }, { accessFlags := 9, nameIndex := 371, descriptorIndex := 367, attributes := #[] }, { accessFlags := 9, nameIndex := 52, descriptorIndex := 53, attributes := #[] }, { accessFlags := 9, nameIndex := 196, descriptorIndex := 197, attributes := #[] }] 48 4 #[] #[{ accessFlags := 4120, nameIndex := 121, descriptorIndex := 122, attributes := #[] }])
  fields := #[{ name := "$assertionsDisabled", type := .boolean, accessFlags := 4120, slot := 0, constantValue := 0 }]
  methods := #[k12m0, k12m1, k12m2, k12m3, k12m4, k12m5, k12m6]
  instanceTypes := #[]
  staticTypes := #[.boolean]
  resolved := Array.replicate 395 none
  statics := none }

def pool13 : Array CpInfo := pool [(2, .class_ 4), (1, u "java/lang/Object"), (0, u "<init>"), (0, u "()V"), (1, .class_ 10), (1, u "java/lang/CharacterData")] 75

def k13m0 : Method := { name := "<init>", desc := "()V", sig := { parameters := [], returnType := none }, accessFlags := 0, code := none }
/-- java/lang/CharacterData -/
def k13 : Class := { plain "java/lang/CharacterData" (some 0) with
  accessFlags := 1056
  interfaces := #[]
  cf := some (fileOf pool13 8 #[] #[{ accessFlags := 0, nameIndex := 5, descriptorIndex := 6, attributes := #[] }] 1056 2 #[] #[])
  fields := #[]
  methods := #[k13m0]
  instanceTypes := #[]
  staticTypes := #[]
  resolved := Array.replicate 86 none
  statics := none }

def pool14 : Array CpInfo := pool [(1, .fieldref 2 3), (0, .class_ 4), (0, .nameAndType 5 6), (0, u "java/lang/CharacterDataLatin1"), (0, u "A"), (0, u "[I"), (2, u "B"), (0, u "[C"), (3, u "(I)I"), (0, .methodref 2 16), (0, .nameAndType 17 14), (0, u "getProperties"), (3, u "(I)Z"), (5, u "DIGITS"), (0, u "[B"), (8, u "sharpsMap"), (1, .class_ 41), (1, u "java/lang/CharacterData"), (0, u "<init>"), (0, u "()V"), (3, u "instance"), (0, u "Ljava/lang/CharacterDataLatin1;"), (78, u "isWhitespace")] 13

def k14c0 : Code := { maxStack := 2, maxLocals := 4, code := jdk_116_method_1_code, exceptionTable := #[], attributes := #[] }
def k14m0 : Method := { name := "getProperties", desc := "(I)I", sig := { parameters := [.int], returnType := some .int }, accessFlags := 0, code := some k14c0 }
def k14c1 : Code := { maxStack := 2, maxLocals := 3, code := jdk_116_method_26_code, exceptionTable := #[], attributes := #[] }
def k14m1 : Method := { name := "isWhitespace", desc := "(I)Z", sig := { parameters := [.int], returnType := some .boolean }, accessFlags := 0, code := some k14c1 }
def k14m2 : Method := { name := "<init>", desc := "()V", sig := { parameters := [], returnType := none }, accessFlags := 2, code := none }
/-- java/lang/CharacterDataLatin1 -/
def k14 : Class := { plain "java/lang/CharacterDataLatin1" (some 13) with
  accessFlags := 32
  interfaces := #[]
  cf := some (fileOf pool14 2 #[] #[{ accessFlags := 0, nameIndex := 17, descriptorIndex := 14, attributes := #[] }, { accessFlags := 0, nameIndex := 127, descriptorIndex := 21, attributes := #[] }, { accessFlags := 2, nameIndex := 42, descriptorIndex := 43, attributes := #[] }] 32 39 #[] #[{ accessFlags := 26, nameIndex := 27, descriptorIndex := 28, attributes := #[] }, { accessFlags := 8, nameIndex := 37, descriptorIndex := 10, attributes := #[] }, { accessFlags := 24, nameIndex := 47, descriptorIndex := 48, attributes := #[] }, { accessFlags := 24, nameIndex := 5, descriptorIndex := 6, attributes := #[] }, { accessFlags := 24, nameIndex := 9, descriptorIndex := 10, attributes := #[] }])
  fields := #[{ name := "DIGITS", type := (.array .byte), accessFlags := 26, slot := 0, constantValue := 0 }, { name := "sharpsMap", type := (.array .char), accessFlags := 8, slot := 1, constantValue := 0 }, { name := "instance", type := (.object "java/lang/CharacterDataLatin1"), accessFlags := 24, slot := 2, constantValue := 0 }, { name := "A", type := (.array .int), accessFlags := 24, slot := 3, constantValue := 0 }, { name := "B", type := (.array .char), accessFlags := 24, slot := 4, constantValue := 0 }]
  methods := #[k14m0, k14m1, k14m2]
  instanceTypes := #[]
  staticTypes := #[(.array .byte), (.array .char), (.object "java/lang/CharacterDataLatin1"), (.array .int), (.array .char)]
  resolved := Array.replicate 141 none
  statics := some 2 }

def pool15 : Array CpInfo := pool [(2, .class_ 4), (1, u "java/lang/Object"), (0, u "<init>"), (0, u "()V"), (17, .class_ 26), (1, u "jdk/internal/util/Preconditions"), (6, u "checkIndex"), (21, .class_ 56), (0, u "jdk/internal/util/Preconditions$4"), (57, .class_ 115), (0, u "jdk/internal/util/Preconditions$1"), (7, u "SIOOBE_FORMATTER"), (0, u "Ljava/util/function/BiFunction;"), (0, .class_ 126), (0, u "jdk/internal/util/Preconditions$2"), (3, u "AIOOBE_FORMATTER"), (0, .class_ 132), (0, u "jdk/internal/util/Preconditions$3"), (3, u "IOOBE_FORMATTER"), (41, u "(IILjava/util/function/BiFunction;)I")] 15

def k15m0 : Method := { name := "<init>", desc := "()V", sig := { parameters := [], returnType := none }, accessFlags := 1, code := none }
def k15c1 : Code := { maxStack := 3, maxLocals := 3, code := jdk_41_method_11_code, exceptionTable := #[], attributes := #[] }
def k15m1 : Method := { name := "checkIndex", desc := "(IILjava/util/function/BiFunction;)I", sig := { parameters := [.int, .int, (.object "java/util/function/BiFunction")], returnType := some .int }, accessFlags := 9, code := some k15c1 }
/-- jdk/internal/util/Preconditions -/
def k15 : Class := { plain "jdk/internal/util/Preconditions" (some 0) with
  accessFlags := 33
  interfaces := #[]
  cf := some (fileOf pool15 24 #[.nestMembers #[55, 131, 125, 114]] #[{ accessFlags := 1, nameIndex := 5, descriptorIndex := 6, attributes := #[] }, { accessFlags := 9, nameIndex := 33, descriptorIndex := 178, attributes := #[] }] 33 2 #[] #[{ accessFlags := 25, nameIndex := 123, descriptorIndex := 124, attributes := #[] }, { accessFlags := 25, nameIndex := 130, descriptorIndex := 124, attributes := #[] }, { accessFlags := 25, nameIndex := 136, descriptorIndex := 124, attributes := #[] }])
  fields := #[{ name := "SIOOBE_FORMATTER", type := (.object "java/util/function/BiFunction"), accessFlags := 25, slot := 0, constantValue := 0 }, { name := "AIOOBE_FORMATTER", type := (.object "java/util/function/BiFunction"), accessFlags := 25, slot := 1, constantValue := 0 }, { name := "IOOBE_FORMATTER", type := (.object "java/util/function/BiFunction"), accessFlags := 25, slot := 2, constantValue := 0 }]
  methods := #[k15m0, k15m1]
  instanceTypes := #[]
  staticTypes := #[(.object "java/util/function/BiFunction"), (.object "java/util/function/BiFunction"), (.object "java/util/function/BiFunction")]
  resolved := Array.replicate 194 none
  statics := some 3 }

def pool16 : Array CpInfo := pool [(2, .class_ 4), (1, u "java/lang/Object"), (0, u "<init>"), (0, u "()V"), (7, .class_ 16), (1, u "java/util/Arrays"), (57, .class_ 76), (1, u "java/util/Arrays$NaturalOrder"), (36, .class_ 115), (1, u "java/util/Arrays$LegacyMergeSort"), (1, u "Z"), (21, u "copyOfRange"), (10, .methodref 151 152), (0, .class_ 153), (0, .nameAndType 154 155), (0, u "java/lang/System"), (0, u "arraycopy"), (0, u "(Ljava/lang/Object;ILjava/lang/Object;II)V"), (148, .methodref 305 306), (0, .class_ 307), (0, .nameAndType 308 309), (0, u "java/lang/Math"), (0, u "min"), (0, u "(II)I"), (29, .methodref 14 340), (0, .nameAndType 341 342), (0, u "copyOfRangeByte"), (0, u "([BII)[B"), (0, .methodref 14 344), (0, .nameAndType 345 346), (0, u "checkLength"), (0, u "(II)V"), (28, .class_ 376), (0, u "java/util/Arrays$ArrayList"), (68, u "$assertionsDisabled"), (269, u "MIN_ARRAY_SORT_GRAN"), (0, u "I"), (2, u "INSERTIONSORT_THRESHOLD"), (255, .class_ 976), (0, u "java/util/Arrays$ArrayItr")] 52

def k16m0 : Method := { name := "<init>", desc := "()V", sig := { parameters := [], returnType := none }, accessFlags := 2, code := none }
def k16c1 : Code := { maxStack := 4, maxLocals := 2, code := jdk_65_method_131_code, exceptionTable := #[], attributes := #[] }
def k16m1 : Method := { name := "checkLength", desc := "(II)V", sig := { parameters := [.int, .int], returnType := none }, accessFlags := 10, code := some k16c1 }
def k16c2 : Code := { maxStack := 3, maxLocals := 3, code := jdk_65_method_132_code, exceptionTable := #[], attributes := #[] }
def k16m2 : Method := { name := "copyOfRange", desc := "([BII)[B", sig := { parameters := [(.array .byte), .int, .int], returnType := some (.array .byte) }, accessFlags := 9, code := some k16c2 }
def k16c3 : Code := { maxStack := 6, maxLocals := 5, code := jdk_65_method_133_code, exceptionTable := #[], attributes := #[] }
def k16m3 : Method := { name := "copyOfRangeByte", desc := "([BII)[B", sig := { parameters := [(.array .byte), .int, .int], returnType := some (.array .byte) }, accessFlags := 10, code := some k16c3 }
/-- java/util/Arrays -/
def k16 : Class := { plain "java/util/Arrays" (some 0) with
  accessFlags := 49
  interfaces := #[]
  cf := some (fileOf pool16 14 #[.nestMembers #[975, 375, 113, 74]] #[{ accessFlags := 2, nameIndex := 5, descriptorIndex := 6, attributes := #[] }, { accessFlags := 10, nameIndex := 345, descriptorIndex := 346, attributes := #[] }, { accessFlags := 9, nameIndex := 139, descriptorIndex := 342, attributes := #[] }, { accessFlags := 10, nameIndex := 341, descriptorIndex := 342, attributes := #[] }] 49 2 #[] #[{ accessFlags := 26, nameIndex := 715, descriptorIndex := 716, attributes := #[] }, { accessFlags := 26, nameIndex := 719, descriptorIndex := 716, attributes := #[] }, { accessFlags := 4120, nameIndex := 445, descriptorIndex := 117, attributes := #[] }])
  fields := #[{ name := "MIN_ARRAY_SORT_GRAN", type := .int, accessFlags := 26, slot := 0, constantValue := 0 }, { name := "INSERTIONSORT_THRESHOLD", type := .int, accessFlags := 26, slot := 1, constantValue := 0 }, { name := "$assertionsDisabled", type := .boolean, accessFlags := 4120, slot := 2, constantValue := 0 }]
  methods := #[k16m0, k16m1, k16m2, k16m3]
  instanceTypes := #[]
  staticTypes := #[.int, .int, .boolean]
  resolved := Array.replicate 1029 none
  statics := none }

def pool17 : Array CpInfo := pool [(1, .class_ 2), (0, u "java/lang/Math"), (1, .class_ 6), (1, u "java/lang/Object"), (0, u "<init>"), (0, u "()V"), (89, .class_ 100), (1, u "java/lang/Math$RandomNumberGeneratorHolder"), (71, u "negativeZeroFloatBits"), (0, u "J"), (2, u "negativeZeroDoubleBits"), (24, u "min"), (43, u "$assertionsDisabled"), (0, u "Z"), (88, u "(II)I"), (2, u "twoToTheDoubleScaleDown"), (0, u "D"), (4, u "twoToTheDoubleScaleUp"), (9, u "E"), (3, u "PI"), (2, u "TAU"), (2, u "DEGREES_TO_RADIANS"), (0, u "RADIANS_TO_DEGREES")] 94

def k17m0 : Method := { name := "<init>", desc := "()V", sig := { parameters := [], returnType := none }, accessFlags := 2, code := none }
def k17c1 : Code := { maxStack := 2, maxLocals := 2, code := jdk_29_method_69_code, exceptionTable := #[], attributes := #[] }
def k17m1 : Method := { name := "min", desc := "(II)I", sig := { parameters := [.int, .int], returnType := some .int }, accessFlags := 9, code := some k17c1 }
/-- java/lang/Math -/
def k17 : Class := { plain "java/lang/Math" (some 0) with
  accessFlags := 49
  interfaces := #[]
  cf := some (fileOf pool17 1 #[.nestMembers #[98]] #[{ accessFlags := 2, nameIndex := 7, descriptorIndex := 8, attributes := #[] }, { accessFlags := 9, nameIndex := 201, descriptorIndex := 335, attributes := #[] }] 49 4 #[] #[{ accessFlags := 25, nameIndex := 354, descriptorIndex := 339, attributes := #[] }, { accessFlags := 25, nameIndex := 358, descriptorIndex := 339, attributes := #[] }, { accessFlags := 25, nameIndex := 361, descriptorIndex := 339, attributes := #[] }, { accessFlags := 26, nameIndex := 364, descriptorIndex := 339, attributes := #[] }, { accessFlags := 26, nameIndex := 365, descriptorIndex := 339, attributes := #[] }, { accessFlags := 26, nameIndex := 172, descriptorIndex := 173, attributes := #[] }, { accessFlags := 26, nameIndex := 176, descriptorIndex := 173, attributes := #[] }, { accessFlags := 8, nameIndex := 344, descriptorIndex := 339, attributes := #[] }, { accessFlags := 8, nameIndex := 338, descriptorIndex := 339, attributes := #[] }, { accessFlags := 4120, nameIndex := 245, descriptorIndex := 246, attributes := #[] }])
  fields := #[{ name := "E", type := .double, accessFlags := 25, slot := 0, constantValue := 0 }, { name := "PI", type := .double, accessFlags := 25, slot := 1, constantValue := 0 }, { name := "TAU", type := .double, accessFlags := 25, slot := 2, constantValue := 0 }, { name := "DEGREES_TO_RADIANS", type := .double, accessFlags := 26, slot := 3, constantValue := 0 }, { name := "RADIANS_TO_DEGREES", type := .double, accessFlags := 26, slot := 4, constantValue := 0 }, { name := "negativeZeroFloatBits", type := .long, accessFlags := 26, slot := 5, constantValue := 0 }, { name := "negativeZeroDoubleBits", type := .long, accessFlags := 26, slot := 6, constantValue := 0 }, { name := "twoToTheDoubleScaleUp", type := .double, accessFlags := 8, slot := 7, constantValue := 0 }, { name := "twoToTheDoubleScaleDown", type := .double, accessFlags := 8, slot := 8, constantValue := 0 }, { name := "$assertionsDisabled", type := .boolean, accessFlags := 4120, slot := 9, constantValue := 0 }]
  methods := #[k17m0, k17m1]
  instanceTypes := #[]
  staticTypes := #[.double, .double, .double, .double, .double, .long, .long, .double, .double, .boolean]
  resolved := Array.replicate 460 none
  statics := none }

def pool18 : Array CpInfo := pool [(2, .class_ 4), (1, u "java/lang/Object"), (0, u "<init>"), (0, u "()V"), (1, .class_ 10), (1, u "java/lang/System"), (0, u "allowSecurityManager"), (0, u "I"), (16, u "cons"), (0, u "Ljava/io/Console;"), (77, .class_ 110), (1, u "java/lang/System$CallersHolder"), (43, u "initialErrStream"), (0, u "Ljava/io/PrintStream;"), (19, u "security"), (0, u "Ljava/lang/SecurityManager;"), (31, .class_ 209), (0, u "java/lang/System$1"), (7, u "props"), (0, u "Ljava/util/Properties;"), (2, u "lineSeparator"), (0, u "Ljava/lang/String;"), (96, .class_ 321), (1, u "java/lang/System$LoggerFinder"), (5, .class_ 328), (0, u "java/lang/System$Logger"), (67, u "err"), (2, u "out"), (91, u "notSupportedJnuEncoding"), (15, u "in"), (17, u "initialIn"), (0, u "Ljava/io/InputStream;"), (35, u "bootLayer"), (0, u "Ljava/lang/ModuleLayer;"), (99, .class_ 664), (0, u "java/lang/System$2"), (9, u "NEVER"), (2, u "MAYBE"), (49, u "arraycopy"), (0, u "(Ljava/lang/Object;ILjava/lang/Object;II)V"), (72, .class_ 802), (0, u "java/lang/System$Logger$Level")] 31

def k18m0 : Method := { name := "<init>", desc := "()V", sig := { parameters := [], returnType := none }, accessFlags := 2, code := none }
def k18m1 : Method := { name := "arraycopy", desc := "(Ljava/lang/Object;ILjava/lang/Object;II)V", sig := { parameters := [(.object "java/lang/Object"), .int, (.object "java/lang/Object"), .int, .int], returnType := none }, accessFlags := 265, code := none }
/-- java/lang/System -/
def k18 : Class := { plain "java/lang/System" (some 0) with
  accessFlags := 49
  interfaces := #[]
  cf := some (fileOf pool18 8 #[.nestMembers #[319, 327, 801, 108, 663, 208]] #[{ accessFlags := 2, nameIndex := 5, descriptorIndex := 6, attributes := #[] }, { accessFlags := 265, nameIndex := 727, descriptorIndex := 728, attributes := #[] }] 49 2 #[] #[{ accessFlags := 25, nameIndex := 507, descriptorIndex := 526, attributes := #[] }, { accessFlags := 25, nameIndex := 399, descriptorIndex := 155, attributes := #[] }, { accessFlags := 25, nameIndex := 396, descriptorIndex := 155, attributes := #[] }, { accessFlags := 10, nameIndex := 525, descriptorIndex := 526, attributes := #[] }, { accessFlags := 26, nameIndex := 674, descriptorIndex := 12, attributes := #[] }, { accessFlags := 26, nameIndex := 677, descriptorIndex := 12, attributes := #[] }, { accessFlags := 10, nameIndex := 11, descriptorIndex := 12, attributes := #[] }, { accessFlags := 74, nameIndex := 175, descriptorIndex := 176, attributes := #[] }, { accessFlags := 10, nameIndex := 491, descriptorIndex := 222, attributes := #[] }, { accessFlags := 74, nameIndex := 29, descriptorIndex := 30, attributes := #[] }, { accessFlags := 74, nameIndex := 154, descriptorIndex := 155, attributes := #[] }, { accessFlags := 10, nameIndex := 217, descriptorIndex := 218, attributes := #[] }, { accessFlags := 10, nameIndex := 221, descriptorIndex := 222, attributes := #[] }, { accessFlags := 8, nameIndex := 562, descriptorIndex := 563, attributes := #[] }])
  fields := #[{ name := "in", type := (.object "java/io/InputStream"), accessFlags := 25, slot := 0, constantValue := 0 }, { name := "out", type := (.object "java/io/PrintStream"), accessFlags := 25, slot := 1, constantValue := 0 }, { name := "err", type := (.object "java/io/PrintStream"), accessFlags := 25, slot := 2, constantValue := 0 }, { name := "initialIn", type := (.object "java/io/InputStream"), accessFlags := 10, slot := 3, constantValue := 0 }, { name := "NEVER", type := .int, accessFlags := 26, slot := 4, constantValue := 0 }, { name := "MAYBE", type := .int, accessFlags := 26, slot := 5, constantValue := 0 }, { name := "allowSecurityManager", type := .int, accessFlags := 10, slot := 6, constantValue := 0 }, { name := "security", type := (.object "java/lang/SecurityManager"), accessFlags := 74, slot := 7, constantValue := 0 }, { name := "notSupportedJnuEncoding", type := (.object "java/lang/String"), accessFlags := 10, slot := 8, constantValue := 0 }, { name := "cons", type := (.object "java/io/Console"), accessFlags := 74, slot := 9, constantValue := 0 }, { name := "initialErrStream", type := (.object "java/io/PrintStream"), accessFlags := 74, slot := 10, constantValue := 0 }, { name := "props", type := (.object "java/util/Properties"), accessFlags := 10, slot := 11, constantValue := 0 }, { name := "lineSeparator", type := (.object "java/lang/String"), accessFlags := 10, slot := 12, constantValue := 0 }, { name := "bootLayer", type := (.object "java/lang/ModuleLayer"), accessFlags := 8, slot := 13, constantValue := 0 }]
  methods := #[k18m0, k18m1]
  instanceTypes := #[]
  staticTypes := #[(.object "java/io/InputStream"), (.object "java/io/PrintStream"), (.object "java/io/PrintStream"), (.object "java/io/InputStream"), .int, .int, .int, (.object "java/lang/SecurityManager"), (.object "java/lang/String"), (.object "java/io/Console"), (.object "java/io/PrintStream"), (.object "java/util/Properties"), (.object "java/lang/String"), (.object "java/lang/ModuleLayer")]
  resolved := Array.replicate 834 none
  statics := none }

def pool19 : Array CpInfo := pool [(9, u "<init>"), (6, .class_ 18), (1, u "java/lang/Object"), (0, u "()V"), (1, .class_ 23), (1, u "jdk/internal/util/ArraysSupport"), (0, u "LOG2_ARRAY_LONG_INDEX_SCALE"), (0, u "I"), (2, u "U"), (0, u "Ljdk/internal/misc/Unsafe;"), (8, u "BIG_ENDIAN"), (0, u "Z"), (8, u "LOG2_BYTE_BIT_SIZE"), (4, u "LOG2_ARRAY_INT_INDEX_SCALE"), (54, u "JLA"), (0, u "Ljdk/internal/access/JavaLangAccess;"), (11, u "LOG2_ARRAY_BOOLEAN_INDEX_SCALE"), (9, u "LOG2_ARRAY_BYTE_INDEX_SCALE"), (5, u "LOG2_ARRAY_CHAR_INDEX_SCALE"), (5, u "LOG2_ARRAY_SHORT_INDEX_SCALE"), (18, u "LOG2_ARRAY_FLOAT_INDEX_SCALE"), (24, u "LOG2_ARRAY_DOUBLE_INDEX_SCALE"), (89, u "T_BOOLEAN"), (2, u "T_CHAR"), (1, u "T_FLOAT"), (1, u "T_DOUBLE"), (1, u "T_BYTE"), (1, u "T_SHORT"), (1, u "T_INT"), (1, u "T_LONG"), (1, u "SOFT_MAX_ARRAY_LENGTH")] 83

def k19m0 : Method := { name := "<init>", desc := "()V", sig := { parameters := [], returnType := none }, accessFlags := 2, code := none }
/-- jdk/internal/util/ArraysSupport -/
def k19 : Class := { plain "jdk/internal/util/ArraysSupport" (some 0) with
  accessFlags := 33
  interfaces := #[]
  cf := some (fileOf pool19 21 #[] #[{ accessFlags := 2, nameIndex := 9, descriptorIndex := 19, attributes := #[] }] 33 16 #[] #[{ accessFlags := 24, nameIndex := 28, descriptorIndex := 29, attributes := #[] }, { accessFlags := 26, nameIndex := 38, descriptorIndex := 39, attributes := #[] }, { accessFlags := 25, nameIndex := 121, descriptorIndex := 25, attributes := #[] }, { accessFlags := 25, nameIndex := 131, descriptorIndex := 25, attributes := #[] }, { accessFlags := 25, nameIndex := 137, descriptorIndex := 25, attributes := #[] }, { accessFlags := 25, nameIndex := 143, descriptorIndex := 25, attributes := #[] }, { accessFlags := 25, nameIndex := 53, descriptorIndex := 25, attributes := #[] }, { accessFlags := 25, nameIndex := 24, descriptorIndex := 25, attributes := #[] }, { accessFlags := 25, nameIndex := 162, descriptorIndex := 25, attributes := #[] }, { accessFlags := 25, nameIndex := 187, descriptorIndex := 25, attributes := #[] }, { accessFlags := 26, nameIndex := 48, descriptorIndex := 25, attributes := #[] }, { accessFlags := 25, nameIndex := 277, descriptorIndex := 25, attributes := #[] }, { accessFlags := 25, nameIndex := 280, descriptorIndex := 25, attributes := #[] }, { accessFlags := 25, nameIndex := 282, descriptorIndex := 25, attributes := #[] }, { accessFlags := 25, nameIndex := 284, descriptorIndex := 25, attributes := #[] }, { accessFlags := 25, nameIndex := 286, descriptorIndex := 25, attributes := #[] }, { accessFlags := 25, nameIndex := 288, descriptorIndex := 25, attributes := #[] }, { accessFlags := 25, nameIndex := 290, descriptorIndex := 25, attributes := #[] }, { accessFlags := 25, nameIndex := 292, descriptorIndex := 25, attributes := #[] }, { accessFlags := 26, nameIndex := 108, descriptorIndex := 109, attributes := #[] }, { accessFlags := 25, nameIndex := 294, descriptorIndex := 25, attributes := #[] }])
  fields := #[{ name := "U", type := (.object "jdk/internal/misc/Unsafe"), accessFlags := 24, slot := 0, constantValue := 0 }, { name := "BIG_ENDIAN", type := .boolean, accessFlags := 26, slot := 1, constantValue := 0 }, { name := "LOG2_ARRAY_BOOLEAN_INDEX_SCALE", type := .int, accessFlags := 25, slot := 2, constantValue := 0 }, { name := "LOG2_ARRAY_BYTE_INDEX_SCALE", type := .int, accessFlags := 25, slot := 3, constantValue := 0 }, { name := "LOG2_ARRAY_CHAR_INDEX_SCALE", type := .int, accessFlags := 25, slot := 4, constantValue := 0 }, { name := "LOG2_ARRAY_SHORT_INDEX_SCALE", type := .int, accessFlags := 25, slot := 5, constantValue := 0 }, { name := "LOG2_ARRAY_INT_INDEX_SCALE", type := .int, accessFlags := 25, slot := 6, constantValue := 0 }, { name := "LOG2_ARRAY_LONG_INDEX_SCALE", type := .int, accessFlags := 25, slot := 7, constantValue := 0 }, { name := "LOG2_ARRAY_FLOAT_INDEX_SCALE", type := .int, accessFlags := 25, slot := 8, constantValue := 0 }, { name := "LOG2_ARRAY_DOUBLE_INDEX_SCALE", type := .int, accessFlags := 25, slot := 9, constantValue := 0 }, { name := "LOG2_BYTE_BIT_SIZE", type := .int, accessFlags := 26, slot := 10, constantValue := 0 }, { name := "T_BOOLEAN", type := .int, accessFlags := 25, slot := 11, constantValue := 0 }, { name := "T_CHAR", type := .int, accessFlags := 25, slot := 12, constantValue := 0 }, { name := "T_FLOAT", type := .int, accessFlags := 25, slot := 13, constantValue := 0 }, { name := "T_DOUBLE", type := .int, accessFlags := 25, slot := 14, constantValue := 0 }, { name := "T_BYTE", type := .int, accessFlags := 25, slot := 15, constantValue := 0 }, { name := "T_SHORT", type := .int, accessFlags := 25, slot := 16, constantValue := 0 }, { name := "T_INT", type := .int, accessFlags := 25, slot := 17, constantValue := 0 }, { name := "T_LONG", type := .int, accessFlags := 25, slot := 18, constantValue := 0 }, { name := "JLA", type := (.object "jdk/internal/access/JavaLangAccess"), accessFlags := 26, slot := 19, constantValue := 0 }, { name := "SOFT_MAX_ARRAY_LENGTH", type := .int, accessFlags := 25, slot := 20, constantValue := 0 }]
  methods := #[k19m0]
  instanceTypes := #[]
  staticTypes := #[(.object "jdk/internal/misc/Unsafe"), .boolean, .int, .int, .int, .int, .int, .int, .int, .int, .int, .int, .int, .int, .int, .int, .int, .int, .int, (.object "jdk/internal/access/JavaLangAccess"), .int]
  resolved := Array.replicate 378 none
  statics := none }

def pool20 : Array CpInfo := pool [(1, u "java/lang/Cloneable"), (0, .class_ 1), (0, u "java/lang/Object"), (0, .class_ 3)] 3

/-- java/lang/Cloneable -/
def k20 : Class := { plain "java/lang/Cloneable" (some 0) with
  accessFlags := 1537
  interfaces := #[]
  cf := some (fileOf pool20 2 #[] #[] 1537 4 #[] #[])
  fields := #[]
  methods := #[]
  instanceTypes := #[]
  staticTypes := #[]
  resolved := Array.replicate 8 none
  statics := none }

/-- the primitive byte -/
def k21 : Class := { plain "byte" none with kind := .primitive 'B', accessFlags := 0x411 }
/-- [B -/
def k22 : Class := { plain "[B" (some 0) with kind := .array 21 .byte, interfaces := #[20, 2], accessFlags := 1041 }

/-- the primitive char -/
def k23 : Class := { plain "char" none with kind := .primitive 'C', accessFlags := 0x411 }
/-- [C -/
def k24 : Class := { plain "[C" (some 0) with kind := .array 23 .char, interfaces := #[20, 2], accessFlags := 1041 }

/-- the primitive int -/
def k25 : Class := { plain "int" none with kind := .primitive 'I', accessFlags := 0x411 }
/-- [I -/
def k26 : Class := { plain "[I" (some 0) with kind := .array 25 .int, interfaces := #[20, 2], accessFlags := 1041 }

def heap : Heap := #[{ cls := 7, slots := #[.long 0, .int 1, .null, .int 0, .null, .int 0, .int 0], vm := .statics 7 },
  { cls := 10, slots := #[.null, .ref 4, .null, .null, .null, .null, .null, .null, .null, .null, .null, .null, .null, .null, .null, .null], vm := .statics 10 },
  { cls := 14, slots := #[.null, .null, .ref 6, .ref 7, .null], vm := .statics 14 },
  { cls := 15, slots := #[.null, .null, .null], vm := .statics 15 },
  { cls := 10, slots := #[.null, .int 0, .int 0, .null, .null], vm := .none },
  { cls := 19, slots := #[], vm := .none },
  { cls := 14, slots := #[], vm := .none },
  { cls := 26, slots := #[.int 1207963663, .int 1207963663, .int 1207963663, .int 1207963663, .int 1207963663, .int 1207963663, .int 1207963663, .int 1207963663, .int 1207963663, .int 1476411407, .int 1342193679, .int 1476411407, .int 1610629135, .int 1342193679, .int 1207963663, .int 1207963663, .int 1207963663, .int 1207963663, .int 1207963663, .int 1207963663, .int 1207963663, .int 1207963663, .int 1207963663, .int 1207963663, .int 1207963663, .int 1207963663, .int 1207963663, .int 1207963663, .int 1342193679, .int 1342193679, .int 1342193679, .int 1476411407, .int 1610629132, .int 1744830488, .int 1744830488, .int 671088664, .int 671113242, .int 671088664, .int 1744830488, .int 1744830488, .int (-402653163), .int (-402653162), .int 1744830488, .int 536870937, .int 939524120, .int 536870932, .int 939524120, .int 939524120, .int 402667017, .int 402667017, .int 402667017, .int 402667017, .int 402667017, .int 402667017, .int 402667017, .int 402667017, .int 402667017, .int 402667017, .int 939524120, .int 1744830488, .int (-402653159), .int 1744830489, .int (-402653159), .int 1744830488, .int 1744830488, .int 8552417, .int 8552417, .int 8552417, .int 8552417, .int 8552417, .int 8552417, .int 8552417, .int 8552417, .int 8552417, .int 8552417, .int 8552417, .int 8552417, .int 8552417, .int 8552417, .int 8552417, .int 8552417, .int 8552417, .int 8552417, .int 8552417, .int 8552417, .int 8552417, .int 8552417, .int 8552417, .int 8552417, .int 8552417, .int 8552417, .int (-402653163), .int 1744830488, .int (-402653162), .int 1744830491, .int 1744850967, .int 1744830491, .int 8486882, .int 8486882, .int 8486882, .int 8486882, .int 8486882, .int 8486882, .int 8486882, .int 8486882, .int 8486882, .int 8486882, .int 8486882, .int 8486882, .int 8486882, .int 8486882, .int 8486882, .int 8486882, .int 8486882, .int 8486882, .int 8486882, .int 8486882, .int 8486882, .int 8486882, .int 8486882, .int 8486882, .int 8486882, .int 8486882, .int (-402653163), .int 1744830489, .int (-402653162), .int 1744830489, .int 1207963663, .int 1207963663, .int 1207963663, .int 1207963663, .int 1207963663, .int 1207963663, .int 1342181391, .int 1207963663, .int 1207963663, .int 1207963663, .int 1207963663, .int 1207963663, .int 1207963663, .int 1207963663, .int 1207963663, .int 1207963663, .int 1207963663, .int 1207963663, .int 1207963663, .int 1207963663, .int 1207963663, .int 1207963663, .int 1207963663, .int 1207963663, .int 1207963663, .int 1207963663, .int 1207963663, .int 1207963663, .int 1207963663, .int 1207963663, .int 1207963663, .int 1207963663, .int 1207963663, .int 939524108, .int 1744830488, .int 671113242, .int 671113242, .int 671113242, .int 671113242, .int 1744830492, .int 1744830488, .int 1744830491, .int 1744830492, .int 28677, .int (-402653155), .int 1744830489, .int 1207963664, .int 1744830492, .int 1744830491, .int 671088668, .int 671088665, .int 402654731, .int 402654731, .int 1744830491, .int 134049794, .int 1744830488, .int 1744830488, .int 1744830491, .int 402654475, .int 28677, .int (-402653154), .int 1744832523, .int 1744832523, .int 1744832523, .int 1744830488, .int 8548353, .int 8548353, .int 8548353, .int 8548353, .int 8548353, .int 8548353, .int 8548353, .int 8548353, .int 8548353, .int 8548353, .int 8548353, .int 8548353, .int 8548353, .int 8548353, .int 8548353, .int 8548353, .int 8548353, .int 8548353, .int 8548353, .int 8548353, .int 8548353, .int 8548353, .int 8548353, .int 1744830489, .int 8548353, .int 8548353, .int 8548353, .int 8548353, .int 8548353, .int 8548353, .int 8548353, .int 134049794, .int 8482818, .int 8482818, .int 8482818, .int 8482818, .int 8482818, .int 8482818, .int 8482818, .int 8482818, .int 8482818, .int 8482818, .int 8482818, .int 8482818, .int 8482818, .int 8482818, .int 8482818, .int 8482818, .int 8482818, .int 8482818, .int 8482818, .int 8482818, .int 8482818, .int 8482818, .int 8482818, .int 1744830489, .int 8482818, .int 8482818, .int 8482818, .int 8482818, .int 8482818, .int 8482818, .int 8482818, .int 102592514], vm := .none }]
def classes : Array Class := #[k0, k1, k2, k3, k4, k5, k6, k7, k8, k9, k10, k11, k12, k13, k14, k15, k16, k17, k18, k19, k20, k21, k22, k23, k24, k25, k26]
def interned : List (Array UInt16 × Addr) := []
def slotsUsed : Nat := 292
def theMethod : MethodId := ⟨1, 3⟩
def args0 : Array Value := #[.int 97, .int 98, .int 99, .int 100, .int 3]
def aboutOver (below : List Frame) : State where
  vm := { classes := classes, interned := interned.toArray }
  heap := heap
  slotsUsed := slotsUsed
  threads := #[{ frames := .invoking theMethod args0 :: below }]
def below0 : List Frame := [.native { method := ⟨0, 0⟩, args := #[] }]
def about1 : State := aboutOver below0
def p0 : Program := .bare "" "" ""
def e0 : Env := launch0.env 0 0 0
theorem w_frames : about1.frames = Frame.invoking theMethod args0 :: below0 := rfl
set_option maxRecDepth 65536 in
theorem w_args : argsFit about1.vm theMethod args0 = true := by decide +kernel
set_option maxRecDepth 65536 in
theorem w_heap : heapFits about1 = true := by decide +kernel
set_option maxRecDepth 65536 in
theorem w_runnable : about1.curStatus? = some .runnable := by decide +kernel
set_option maxRecDepth 65536 in
theorem w_alone : about1.alone = true := by decide +kernel
set_option maxRecDepth 65536 in
theorem w_named : about1.methodNamed? x = some theMethod := by decide +kernel
set_option maxRecDepth 65536 in
theorem w_hears : about1.hears theMethod below0 = true := by decide +kernel
set_option maxRecDepth 65536 in
theorem w_ripe : about1.ripe theMethod args0 below0 = true := by decide +kernel
theorem w_running : about1.status = .running := rfl
set_option maxRecDepth 65536 in
theorem w_room : about1.hasRoom e0.platform room_1 = true :=
  launch0.hasRoom_least _ room_1 (by decide +kernel) (by decide +kernel) (by decide +kernel) (by decide +kernel) (by decide +kernel) (by decide +kernel)
theorem allAtoms_all (ts : List Jvm.Cond) (a : Array Jvm.Value) (st : Jvm.State) : (allAtoms ts).before a st = ts.all (fun c => c.before a st) := by
  induction ts with
  | nil => rfl
  | cons c t ih =>
    show (Jvm.Cond.and c (allAtoms t)).before a st = _
    rw [Jvm.Cond.before_and, ih, List.all_cons]
def words1 : List Jvm.Cond := Jvm.Cond.code x code maxLocals ret :: tables_1
/-- a 'code' word, met by the world's own term for the bytes: nothing is compared byte by byte -/
theorem code_word {y : MethodName} {bytes : ByteArray} {mx : Nat} {rt : Option FieldType} {a : Array Value} {s : State} {m : MethodId} {meth : Method} {c : Code} (h1 : s.methodNamed? y = some m) (h2 : s.vm.method? m = some meth) (h3 : meth.code = some c) (h4 : c.code = bytes)
    (h5 : (c.maxLocals == mx && c.exceptionTable.isEmpty && decide (c.maxStack ≤ mostOperands) && decide (meth.sig.returnType = rt) && !meth.locks && decide (parseMethodDescriptor y.desc = some meth.sig)) = true) : (Jvm.Cond.code y bytes mx rt).before a s = true := by
  simp only [Bool.and_eq_true, beq_iff_eq, Bool.not_eq_true', decide_eq_true_eq] at h5
  obtain ⟨⟨⟨⟨⟨g1, g2⟩, g3⟩, g4⟩, g5⟩, g6⟩ := h5
  simp [Cond.before, Cond.holds, Cond.value, h1, h2, h3, h4, g1, g2, g3, g4, g5, g6]
def isCode : Jvm.Cond → Bool
  | .code _ _ _ _ => true
  | _ => false
theorem all_split {L : List Jvm.Cond} {P : Jvm.Cond → Bool} (h1 : L.all (fun c => isCode c || P c) = true) (h2 : ∀ c ∈ L.filter isCode, P c = true) : L.all P = true := by
  refine List.all_eq_true.mpr fun c hc => ?_
  have h := List.all_eq_true.mp h1 c hc
  rcases Bool.eq_false_or_eq_true (isCode c) with hi | hi
  · exact h2 c (List.mem_filter.mpr ⟨hc, hi⟩)
  · simpa [hi] using h
set_option maxRecDepth 65536 in
theorem w_c0 : (Jvm.Cond.code x code maxLocals ret).before args0 about1 = true := code_word (m := ⟨1, 3⟩) (meth := k1m3) (c := k1c3) (by decide +kernel) rfl rfl rfl (by decide +kernel)
set_option maxRecDepth 65536 in
theorem w_c1 : (Jvm.Cond.code ({ cls := "java/lang/String", name := "<init>", desc := "([C)V" } : Jvm.MethodName) jdk_42_method_3_code (2 : Nat) (Option.none : Option Jvm.ClassFile.FieldType)).before args0 about1 = true := code_word (m := ⟨7, 1⟩) (meth := k7m1) (c := k7c1) (by decide +kernel) rfl rfl rfl (by decide +kernel)
set_option maxRecDepth 65536 in
theorem w_c2 : (Jvm.Cond.code ({ cls := "java/lang/String", name := "<init>", desc := "([CIILjava/lang/Void;)V" } : Jvm.MethodName) jdk_42_method_149_code (6 : Nat) (Option.none : Option Jvm.ClassFile.FieldType)).before args0 about1 = true := code_word (m := ⟨7, 6⟩) (meth := k7m6) (c := k7c6) (by decide +kernel) rfl rfl rfl (by decide +kernel)
set_option maxRecDepth 65536 in
theorem w_c3 : (Jvm.Cond.code ({ cls := "java/lang/Object", name := "<init>", desc := "()V" } : Jvm.MethodName) object_method_1_code (1 : Nat) (Option.none : Option Jvm.ClassFile.FieldType)).before args0 about1 = true := code_word (m := ⟨0, 0⟩) (meth := k0m0) (c := k0c0) (by decide +kernel) rfl rfl rfl (by decide +kernel)
set_option maxRecDepth 65536 in
theorem w_c4 : (Jvm.Cond.code ({ cls := "java/lang/StringUTF16", name := "compress", desc := "([CII)[B" } : Jvm.MethodName) jdk_52_method_16_code (6 : Nat) (Option.some (Jvm.ClassFile.FieldType.array Jvm.ClassFile.FieldType.byte))).before args0 about1 = true := code_word (m := ⟨8, 2⟩) (meth := k8m2) (c := k8c2) (by decide +kernel) rfl rfl rfl (by decide +kernel)
set_option maxRecDepth 65536 in
theorem w_c5 : (Jvm.Cond.code ({ cls := "java/lang/StringUTF16", name := "compress", desc := "([CI[BII)I" } : Jvm.MethodName) jdk_52_method_21_code (7 : Nat) (Option.some Jvm.ClassFile.FieldType.int)).before args0 about1 = true := code_word (m := ⟨8, 3⟩) (meth := k8m3) (c := k8c3) (by decide +kernel) rfl rfl rfl (by decide +kernel)
set_option maxRecDepth 65536 in
theorem w_c6 : (Jvm.Cond.code ({ cls := "java/lang/StringUTF16", name := "coderFromArrayLen", desc := "([BI)B" } : Jvm.MethodName) jdk_52_method_15_code (2 : Nat) (Option.some Jvm.ClassFile.FieldType.byte)).before args0 about1 = true := code_word (m := ⟨8, 1⟩) (meth := k8m1) (c := k8c1) (by decide +kernel) rfl rfl rfl (by decide +kernel)
set_option maxRecDepth 65536 in
theorem w_c7 : (Jvm.Cond.code ({ cls := "com/example/shelfproof/shelfproof/library/RequestsRequiredPinLaw", name := "ws", desc := "(C)Z" } : Jvm.MethodName) method_2_code (1 : Nat) (Option.some Jvm.ClassFile.FieldType.boolean)).before args0 about1 = true := code_word (m := ⟨1, 1⟩) (meth := k1m1) (c := k1c1) (by decide +kernel) rfl rfl rfl (by decide +kernel)
set_option maxRecDepth 65536 in
theorem w_c8 : (Jvm.Cond.code ({ cls := "com/example/shelfproof/shelfproof/library/Requests", name := "required", desc := "(Ljava/lang/String;Lcom/example/shelfproof/shelfproof/library/Refusal;)Ljava/lang/String;" } : Jvm.MethodName) prog_35_method_3_code (3 : Nat) (Option.some (Jvm.ClassFile.FieldType.object "java/lang/String"))).before args0 about1 = true := code_word (m := ⟨11, 2⟩) (meth := k11m2) (c := k11c2) (by decide +kernel) rfl rfl rfl (by decide +kernel)
set_option maxRecDepth 65536 in
theorem w_c9 : (Jvm.Cond.code ({ cls := "com/example/shelfproof/shelfproof/library/Requests", name := "stripped", desc := "(Ljava/lang/String;)Ljava/lang/String;" } : Jvm.MethodName) prog_35_method_2_code (1 : Nat) (Option.some (Jvm.ClassFile.FieldType.object "java/lang/String"))).before args0 about1 = true := code_word (m := ⟨11, 1⟩) (meth := k11m1) (c := k11c1) (by decide +kernel) rfl rfl rfl (by decide +kernel)
set_option maxRecDepth 65536 in
theorem w_c10 : (Jvm.Cond.code ({ cls := "java/lang/String", name := "strip", desc := "()Ljava/lang/String;" } : Jvm.MethodName) jdk_42_method_114_code (2 : Nat) (Option.some (Jvm.ClassFile.FieldType.object "java/lang/String"))).before args0 about1 = true := code_word (m := ⟨7, 5⟩) (meth := k7m5) (c := k7c5) (by decide +kernel) rfl rfl rfl (by decide +kernel)
set_option maxRecDepth 65536 in
theorem w_c11 : (Jvm.Cond.code ({ cls := "java/lang/String", name := "isLatin1", desc := "()Z" } : Jvm.MethodName) jdk_42_method_154_code (1 : Nat) (Option.some Jvm.ClassFile.FieldType.boolean)).before args0 about1 = true := code_word (m := ⟨7, 9⟩) (meth := k7m9) (c := k7c9) (by decide +kernel) rfl rfl rfl (by decide +kernel)
set_option maxRecDepth 65536 in
theorem w_c12 : (Jvm.Cond.code ({ cls := "java/lang/StringLatin1", name := "strip", desc := "([B)Ljava/lang/String;" } : Jvm.MethodName) jdk_43_method_39_code (4 : Nat) (Option.some (Jvm.ClassFile.FieldType.object "java/lang/String"))).before args0 about1 = true := code_word (m := ⟨12, 4⟩) (meth := k12m4) (c := k12c4) (by decide +kernel) rfl rfl rfl (by decide +kernel)
set_option maxRecDepth 65536 in
theorem w_c13 : (Jvm.Cond.code ({ cls := "java/lang/StringLatin1", name := "indexOfNonWhitespace", desc := "([B)I" } : Jvm.MethodName) jdk_43_method_37_code (4 : Nat) (Option.some Jvm.ClassFile.FieldType.int)).before args0 about1 = true := code_word (m := ⟨12, 2⟩) (meth := k12m2) (c := k12c2) (by decide +kernel) rfl rfl rfl (by decide +kernel)
set_option maxRecDepth 65536 in
theorem w_c14 : (Jvm.Cond.code ({ cls := "java/lang/StringLatin1", name := "getChar", desc := "([BI)C" } : Jvm.MethodName) jdk_43_method_44_code (2 : Nat) (Option.some Jvm.ClassFile.FieldType.char)).before args0 about1 = true := code_word (m := ⟨12, 5⟩) (meth := k12m5) (c := k12c5) (by decide +kernel) rfl rfl rfl (by decide +kernel)
set_option maxRecDepth 65536 in
theorem w_c15 : (Jvm.Cond.code ({ cls := "java/lang/CharacterDataLatin1", name := "isWhitespace", desc := "(I)Z" } : Jvm.MethodName) jdk_116_method_26_code (3 : Nat) (Option.some Jvm.ClassFile.FieldType.boolean)).before args0 about1 = true := code_word (m := ⟨14, 1⟩) (meth := k14m1) (c := k14c1) (by decide +kernel) rfl rfl rfl (by decide +kernel)
set_option maxRecDepth 65536 in
theorem w_c16 : (Jvm.Cond.code ({ cls := "java/lang/CharacterDataLatin1", name := "getProperties", desc := "(I)I" } : Jvm.MethodName) jdk_116_method_1_code (4 : Nat) (Option.some Jvm.ClassFile.FieldType.int)).before args0 about1 = true := code_word (m := ⟨14, 0⟩) (meth := k14m0) (c := k14c0) (by decide +kernel) rfl rfl rfl (by decide +kernel)
set_option maxRecDepth 65536 in
theorem w_c17 : (Jvm.Cond.code ({ cls := "java/lang/StringLatin1", name := "lastIndexOfNonWhitespace", desc := "([B)I" } : Jvm.MethodName) jdk_43_method_38_code (4 : Nat) (Option.some Jvm.ClassFile.FieldType.int)).before args0 about1 = true := code_word (m := ⟨12, 3⟩) (meth := k12m3) (c := k12c3) (by decide +kernel) rfl rfl rfl (by decide +kernel)
set_option maxRecDepth 65536 in
theorem w_c18 : (Jvm.Cond.code ({ cls := "java/lang/String", name := "isEmpty", desc := "()Z" } : Jvm.MethodName) jdk_42_method_55_code (1 : Nat) (Option.some Jvm.ClassFile.FieldType.boolean)).before args0 about1 = true := code_word (m := ⟨7, 3⟩) (meth := k7m3) (c := k7c3) (by decide +kernel) rfl rfl rfl (by decide +kernel)
set_option maxRecDepth 65536 in
theorem w_c19 : (Jvm.Cond.code ({ cls := "java/lang/String", name := "length", desc := "()I" } : Jvm.MethodName) jdk_42_method_54_code (1 : Nat) (Option.some Jvm.ClassFile.FieldType.int)).before args0 about1 = true := code_word (m := ⟨7, 2⟩) (meth := k7m2) (c := k7c2) (by decide +kernel) rfl rfl rfl (by decide +kernel)
set_option maxRecDepth 65536 in
theorem w_c20 : (Jvm.Cond.code ({ cls := "java/lang/String", name := "coder", desc := "()B" } : Jvm.MethodName) jdk_42_method_152_code (1 : Nat) (Option.some Jvm.ClassFile.FieldType.byte)).before args0 about1 = true := code_word (m := ⟨7, 8⟩) (meth := k7m8) (c := k7c8) (by decide +kernel) rfl rfl rfl (by decide +kernel)
set_option maxRecDepth 65536 in
theorem w_c21 : (Jvm.Cond.code ({ cls := "com/example/shelfproof/shelfproof/library/RequestsRequiredPinLaw", name := "at", desc := "(Ljava/lang/String;[CIII)Z" } : Jvm.MethodName) method_3_code (5 : Nat) (Option.some Jvm.ClassFile.FieldType.boolean)).before args0 about1 = true := code_word (m := ⟨1, 2⟩) (meth := k1m2) (c := k1c2) (by decide +kernel) rfl rfl rfl (by decide +kernel)
set_option maxRecDepth 65536 in
theorem w_c22 : (Jvm.Cond.code ({ cls := "java/lang/String", name := "charAt", desc := "(I)C" } : Jvm.MethodName) jdk_42_method_56_code (2 : Nat) (Option.some Jvm.ClassFile.FieldType.char)).before args0 about1 = true := code_word (m := ⟨7, 4⟩) (meth := k7m4) (c := k7c4) (by decide +kernel) rfl rfl rfl (by decide +kernel)
set_option maxRecDepth 65536 in
theorem w_c23 : (Jvm.Cond.code ({ cls := "java/lang/StringLatin1", name := "charAt", desc := "([BI)C" } : Jvm.MethodName) jdk_43_method_2_code (2 : Nat) (Option.some Jvm.ClassFile.FieldType.char)).before args0 about1 = true := code_word (m := ⟨12, 1⟩) (meth := k12m1) (c := k12c1) (by decide +kernel) rfl rfl rfl (by decide +kernel)
set_option maxRecDepth 65536 in
theorem w_c24 : (Jvm.Cond.code ({ cls := "java/lang/String", name := "checkIndex", desc := "(II)V" } : Jvm.MethodName) jdk_42_method_155_code (2 : Nat) (Option.none : Option Jvm.ClassFile.FieldType)).before args0 about1 = true := code_word (m := ⟨7, 10⟩) (meth := k7m10) (c := k7c10) (by decide +kernel) rfl rfl rfl (by decide +kernel)
set_option maxRecDepth 65536 in
theorem w_c25 : (Jvm.Cond.code ({ cls := "jdk/internal/util/Preconditions", name := "checkIndex", desc := "(IILjava/util/function/BiFunction;)I" } : Jvm.MethodName) jdk_41_method_11_code (3 : Nat) (Option.some Jvm.ClassFile.FieldType.int)).before args0 about1 = true := code_word (m := ⟨15, 1⟩) (meth := k15m1) (c := k15c1) (by decide +kernel) rfl rfl rfl (by decide +kernel)
set_option maxRecDepth 65536 in
theorem w_c26 : (Jvm.Cond.code ({ cls := "java/lang/StringLatin1", name := "newString", desc := "([BII)Ljava/lang/String;" } : Jvm.MethodName) jdk_43_method_47_code (3 : Nat) (Option.some (Jvm.ClassFile.FieldType.object "java/lang/String"))).before args0 about1 = true := code_word (m := ⟨12, 6⟩) (meth := k12m6) (c := k12c6) (by decide +kernel) rfl rfl rfl (by decide +kernel)
set_option maxRecDepth 65536 in
theorem w_c27 : (Jvm.Cond.code ({ cls := "java/util/Arrays", name := "copyOfRange", desc := "([BII)[B" } : Jvm.MethodName) jdk_65_method_132_code (3 : Nat) (Option.some (Jvm.ClassFile.FieldType.array Jvm.ClassFile.FieldType.byte))).before args0 about1 = true := code_word (m := ⟨16, 2⟩) (meth := k16m2) (c := k16c2) (by decide +kernel) rfl rfl rfl (by decide +kernel)
set_option maxRecDepth 65536 in
theorem w_c28 : (Jvm.Cond.code ({ cls := "java/util/Arrays", name := "copyOfRangeByte", desc := "([BII)[B" } : Jvm.MethodName) jdk_65_method_133_code (5 : Nat) (Option.some (Jvm.ClassFile.FieldType.array Jvm.ClassFile.FieldType.byte))).before args0 about1 = true := code_word (m := ⟨16, 3⟩) (meth := k16m3) (c := k16c3) (by decide +kernel) rfl rfl rfl (by decide +kernel)
set_option maxRecDepth 65536 in
theorem w_c29 : (Jvm.Cond.code ({ cls := "java/util/Arrays", name := "checkLength", desc := "(II)V" } : Jvm.MethodName) jdk_65_method_131_code (2 : Nat) (Option.none : Option Jvm.ClassFile.FieldType)).before args0 about1 = true := code_word (m := ⟨16, 1⟩) (meth := k16m1) (c := k16c1) (by decide +kernel) rfl rfl rfl (by decide +kernel)
set_option maxRecDepth 65536 in
theorem w_c30 : (Jvm.Cond.code ({ cls := "java/lang/Math", name := "min", desc := "(II)I" } : Jvm.MethodName) jdk_29_method_69_code (2 : Nat) (Option.some Jvm.ClassFile.FieldType.int)).before args0 about1 = true := code_word (m := ⟨17, 1⟩) (meth := k17m1) (c := k17c1) (by decide +kernel) rfl rfl rfl (by decide +kernel)
set_option maxRecDepth 65536 in
theorem w_c31 : (Jvm.Cond.code ({ cls := "java/lang/String", name := "<init>", desc := "([BB)V" } : Jvm.MethodName) jdk_42_method_151_code (3 : Nat) (Option.none : Option Jvm.ClassFile.FieldType)).before args0 about1 = true := code_word (m := ⟨7, 7⟩) (meth := k7m7) (c := k7c7) (by decide +kernel) rfl rfl rfl (by decide +kernel)
def codes1 : List Jvm.Cond := [Jvm.Cond.code x code maxLocals ret, Jvm.Cond.code ({ cls := "java/lang/String", name := "<init>", desc := "([C)V" } : Jvm.MethodName) jdk_42_method_3_code (2 : Nat) (Option.none : Option Jvm.ClassFile.FieldType), Jvm.Cond.code ({ cls := "java/lang/String", name := "<init>", desc := "([CIILjava/lang/Void;)V" } : Jvm.MethodName) jdk_42_method_149_code (6 : Nat) (Option.none : Option Jvm.ClassFile.FieldType), Jvm.Cond.code ({ cls := "java/lang/Object", name := "<init>", desc := "()V" } : Jvm.MethodName) object_method_1_code (1 : Nat) (Option.none : Option Jvm.ClassFile.FieldType), Jvm.Cond.code ({ cls := "java/lang/StringUTF16", name := "compress", desc := "([CII)[B" } : Jvm.MethodName) jdk_52_method_16_code (6 : Nat) (Option.some (Jvm.ClassFile.FieldType.array Jvm.ClassFile.FieldType.byte)), Jvm.Cond.code ({ cls := "java/lang/StringUTF16", name := "compress", desc := "([CI[BII)I" } : Jvm.MethodName) jdk_52_method_21_code (7 : Nat) (Option.some Jvm.ClassFile.FieldType.int), Jvm.Cond.code ({ cls := "java/lang/StringUTF16", name := "coderFromArrayLen", desc := "([BI)B" } : Jvm.MethodName) jdk_52_method_15_code (2 : Nat) (Option.some Jvm.ClassFile.FieldType.byte), Jvm.Cond.code ({ cls := "com/example/shelfproof/shelfproof/library/RequestsRequiredPinLaw", name := "ws", desc := "(C)Z" } : Jvm.MethodName) method_2_code (1 : Nat) (Option.some Jvm.ClassFile.FieldType.boolean), Jvm.Cond.code ({ cls := "com/example/shelfproof/shelfproof/library/Requests", name := "required", desc := "(Ljava/lang/String;Lcom/example/shelfproof/shelfproof/library/Refusal;)Ljava/lang/String;" } : Jvm.MethodName) prog_35_method_3_code (3 : Nat) (Option.some (Jvm.ClassFile.FieldType.object "java/lang/String")), Jvm.Cond.code ({ cls := "com/example/shelfproof/shelfproof/library/Requests", name := "stripped", desc := "(Ljava/lang/String;)Ljava/lang/String;" } : Jvm.MethodName) prog_35_method_2_code (1 : Nat) (Option.some (Jvm.ClassFile.FieldType.object "java/lang/String")), Jvm.Cond.code ({ cls := "java/lang/String", name := "strip", desc := "()Ljava/lang/String;" } : Jvm.MethodName) jdk_42_method_114_code (2 : Nat) (Option.some (Jvm.ClassFile.FieldType.object "java/lang/String")), Jvm.Cond.code ({ cls := "java/lang/String", name := "isLatin1", desc := "()Z" } : Jvm.MethodName) jdk_42_method_154_code (1 : Nat) (Option.some Jvm.ClassFile.FieldType.boolean), Jvm.Cond.code ({ cls := "java/lang/StringLatin1", name := "strip", desc := "([B)Ljava/lang/String;" } : Jvm.MethodName) jdk_43_method_39_code (4 : Nat) (Option.some (Jvm.ClassFile.FieldType.object "java/lang/String")), Jvm.Cond.code ({ cls := "java/lang/StringLatin1", name := "indexOfNonWhitespace", desc := "([B)I" } : Jvm.MethodName) jdk_43_method_37_code (4 : Nat) (Option.some Jvm.ClassFile.FieldType.int), Jvm.Cond.code ({ cls := "java/lang/StringLatin1", name := "getChar", desc := "([BI)C" } : Jvm.MethodName) jdk_43_method_44_code (2 : Nat) (Option.some Jvm.ClassFile.FieldType.char), Jvm.Cond.code ({ cls := "java/lang/CharacterDataLatin1", name := "isWhitespace", desc := "(I)Z" } : Jvm.MethodName) jdk_116_method_26_code (3 : Nat) (Option.some Jvm.ClassFile.FieldType.boolean), Jvm.Cond.code ({ cls := "java/lang/CharacterDataLatin1", name := "getProperties", desc := "(I)I" } : Jvm.MethodName) jdk_116_method_1_code (4 : Nat) (Option.some Jvm.ClassFile.FieldType.int), Jvm.Cond.code ({ cls := "java/lang/StringLatin1", name := "lastIndexOfNonWhitespace", desc := "([B)I" } : Jvm.MethodName) jdk_43_method_38_code (4 : Nat) (Option.some Jvm.ClassFile.FieldType.int), Jvm.Cond.code ({ cls := "java/lang/String", name := "isEmpty", desc := "()Z" } : Jvm.MethodName) jdk_42_method_55_code (1 : Nat) (Option.some Jvm.ClassFile.FieldType.boolean), Jvm.Cond.code ({ cls := "java/lang/String", name := "length", desc := "()I" } : Jvm.MethodName) jdk_42_method_54_code (1 : Nat) (Option.some Jvm.ClassFile.FieldType.int), Jvm.Cond.code ({ cls := "java/lang/String", name := "coder", desc := "()B" } : Jvm.MethodName) jdk_42_method_152_code (1 : Nat) (Option.some Jvm.ClassFile.FieldType.byte), Jvm.Cond.code ({ cls := "com/example/shelfproof/shelfproof/library/RequestsRequiredPinLaw", name := "at", desc := "(Ljava/lang/String;[CIII)Z" } : Jvm.MethodName) method_3_code (5 : Nat) (Option.some Jvm.ClassFile.FieldType.boolean), Jvm.Cond.code ({ cls := "java/lang/String", name := "charAt", desc := "(I)C" } : Jvm.MethodName) jdk_42_method_56_code (2 : Nat) (Option.some Jvm.ClassFile.FieldType.char), Jvm.Cond.code ({ cls := "java/lang/StringLatin1", name := "charAt", desc := "([BI)C" } : Jvm.MethodName) jdk_43_method_2_code (2 : Nat) (Option.some Jvm.ClassFile.FieldType.char), Jvm.Cond.code ({ cls := "java/lang/String", name := "checkIndex", desc := "(II)V" } : Jvm.MethodName) jdk_42_method_155_code (2 : Nat) (Option.none : Option Jvm.ClassFile.FieldType), Jvm.Cond.code ({ cls := "jdk/internal/util/Preconditions", name := "checkIndex", desc := "(IILjava/util/function/BiFunction;)I" } : Jvm.MethodName) jdk_41_method_11_code (3 : Nat) (Option.some Jvm.ClassFile.FieldType.int), Jvm.Cond.code ({ cls := "java/lang/StringLatin1", name := "newString", desc := "([BII)Ljava/lang/String;" } : Jvm.MethodName) jdk_43_method_47_code (3 : Nat) (Option.some (Jvm.ClassFile.FieldType.object "java/lang/String")), Jvm.Cond.code ({ cls := "java/util/Arrays", name := "copyOfRange", desc := "([BII)[B" } : Jvm.MethodName) jdk_65_method_132_code (3 : Nat) (Option.some (Jvm.ClassFile.FieldType.array Jvm.ClassFile.FieldType.byte)), Jvm.Cond.code ({ cls := "java/util/Arrays", name := "copyOfRangeByte", desc := "([BII)[B" } : Jvm.MethodName) jdk_65_method_133_code (5 : Nat) (Option.some (Jvm.ClassFile.FieldType.array Jvm.ClassFile.FieldType.byte)), Jvm.Cond.code ({ cls := "java/util/Arrays", name := "checkLength", desc := "(II)V" } : Jvm.MethodName) jdk_65_method_131_code (2 : Nat) (Option.none : Option Jvm.ClassFile.FieldType), Jvm.Cond.code ({ cls := "java/lang/Math", name := "min", desc := "(II)I" } : Jvm.MethodName) jdk_29_method_69_code (2 : Nat) (Option.some Jvm.ClassFile.FieldType.int), Jvm.Cond.code ({ cls := "java/lang/String", name := "<init>", desc := "([BB)V" } : Jvm.MethodName) jdk_42_method_151_code (3 : Nat) (Option.none : Option Jvm.ClassFile.FieldType)]
set_option maxRecDepth 65536 in
theorem codes_eq : words1.filter isCode = codes1 := rfl
theorem w_codes : ∀ c ∈ words1.filter isCode, c.before args0 about1 = true := by
  rw [codes_eq]
  intro c hc
  simp only [codes1, List.mem_cons, List.not_mem_nil, or_false] at hc
  rcases hc with rfl | rfl | rfl | rfl | rfl | rfl | rfl | rfl | rfl | rfl | rfl | rfl | rfl | rfl | rfl | rfl | rfl | rfl | rfl | rfl | rfl | rfl | rfl | rfl | rfl | rfl | rfl | rfl | rfl | rfl | rfl | rfl
  · exact w_c0
  · exact w_c1
  · exact w_c2
  · exact w_c3
  · exact w_c4
  · exact w_c5
  · exact w_c6
  · exact w_c7
  · exact w_c8
  · exact w_c9
  · exact w_c10
  · exact w_c11
  · exact w_c12
  · exact w_c13
  · exact w_c14
  · exact w_c15
  · exact w_c16
  · exact w_c17
  · exact w_c18
  · exact w_c19
  · exact w_c20
  · exact w_c21
  · exact w_c22
  · exact w_c23
  · exact w_c24
  · exact w_c25
  · exact w_c26
  · exact w_c27
  · exact w_c28
  · exact w_c29
  · exact w_c30
  · exact w_c31
set_option maxRecDepth 65536 in
theorem w_t1 : (words1.take 24).all (fun c => isCode c || c.before args0 about1) = true := by decide +kernel
set_option maxRecDepth 65536 in
theorem w_t2 : ((words1.drop 24).take 24).all (fun c => isCode c || c.before args0 about1) = true := by decide +kernel
set_option maxRecDepth 65536 in
theorem w_t3 : (((words1.drop 24).drop 24).take 24).all (fun c => isCode c || c.before args0 about1) = true := by decide +kernel
set_option maxRecDepth 65536 in
theorem w_t4 : ((((words1.drop 24).drop 24).drop 24).take 24).all (fun c => isCode c || c.before args0 about1) = true := by decide +kernel
set_option maxRecDepth 65536 in
theorem w_t5 : (((((words1.drop 24).drop 24).drop 24).drop 24).take 24).all (fun c => isCode c || c.before args0 about1) = true := by decide +kernel
set_option maxRecDepth 65536 in
theorem w_t6 : (((((words1.drop 24).drop 24).drop 24).drop 24).drop 24).all (fun c => isCode c || c.before args0 about1) = true := by decide +kernel
theorem w_tables : (allAtoms (Jvm.Cond.code x code maxLocals ret :: tables_1)).before args0 about1 = true := by
  rw [allAtoms_all]
  show words1.all (fun c => c.before args0 about1) = true
  refine all_split ?_ w_codes
  rw [← List.take_append_drop 24 words1, List.all_append, w_t1, ← List.take_append_drop 24 (words1.drop 24), List.all_append, w_t2, ← List.take_append_drop 24 ((words1.drop 24).drop 24), List.all_append, w_t3, ← List.take_append_drop 24 (((words1.drop 24).drop 24).drop 24), List.all_append, w_t4, ← List.take_append_drop 24 ((((words1.drop 24).drop 24).drop 24).drop 24), List.all_append, w_t5, w_t6]
  rfl
set_option maxRecDepth 65536 in
theorem w_rest : rest_1_c.before args0 about1 = true := by decide +kernel
set_option maxRecDepth 65536 in
theorem w_case : (Jvm.Cond.and given_1 narrow_1).before args0 about1 = true := by decide +kernel
theorem w_applies : (headSpec (Jvm.Cond.code x code maxLocals ret :: tables_1) room_1).applies x e0.platform about1 = true :=
  (Spec.applies_iff w_frames).mpr ⟨w_running, w_runnable, w_alone, w_named, w_hears, w_ripe, w_room, w_tables⟩
theorem atStart : AtStart classFile x code maxLocals ret World_1 tables_1 room_1 Calls_1 rest_1 Pre_1 launch0 p0 e0 about1 theMethod args0 below0 :=
  ⟨lists_1, trivial, launch0.admits_env _ _ _, launch0.least_env, fairChoices_fair.cas, fairChoices_fair.clock, w_frames, w_args, w_heap, w_applies, trivial, w_rest, w_case⟩
end start1
theorem witness_1 : WitnessClaimed_1 := ⟨start1.p0, start1.e0, start1.about1, start1.theMethod, start1.args0, start1.below0, start1.atStart⟩
end Jvm.Pilot.@@N@@
