import JvmDerived
import JvmDerived.Pilot.@@N@@Statement
import JvmDerived.Pilot.@@N@@Code
set_option linter.unusedVariables false
set_option linter.unusedSimpArgs false
/- laws to paste: Road.backV, Road.codOf, Road.lenW, Road.chN, Road.eqW (cut by pick.py; bodies as the Statement names them) -/
namespace Jvm.Pilot.@@N@@
namespace StrChars
open Jvm Sem ClassFile Op Lib Jvm.Stand Jvm.Free.XT Jvm.Free.ALB Jvm.Free.JM Jvm.Free
open Jvm.Lib.Cold (StaticIs)
/-- a char array whose places are chars -/
def Ch (a : Addr) (A : Cell) (U : State) : Prop := Arr .char a A U ∧ Typed .char A
theorem Ch.mv {a : Addr} {A : Cell} {U U' : State} (h : Ch a A U) (hal : U.vm.Alike U'.vm) (hh : U'.heap = U.heap) : Ch a A U' := ⟨h.1.mv hal hh, h.2⟩
theorem Ch.keep {a : Addr} {A : Cell} {U U' : State} (h : Ch a A U) (hal : U.vm.Alike U'.vm) (hk : U'.heap[a]? = some A) : Ch a A U' := ⟨h.1.keep hal hk, h.2⟩
/-- what place i of a char[]'s cell holds -/
def cv (A : Cell) (i : Nat) : Int32 := match A.slots[i]? with | some (.int x) => x | _ => 0
theorem Ch.get {a : Addr} {A : Cell} {U : State} (h : Ch a A U) {i : Nat} (hi : i < A.slots.size) : A.slots[i]? = some (.int (cv A i)) := by
  have e := Array.getElem?_eq_getElem hi
  have f := h.2 i _ e
  unfold cv; rw [e]
  generalize A.slots[i] = v at f
  cases v <;> simp [fits] at f ⊢
/-- the byte that i2b leaves of a char -/
def lo8 (x : Int32) : Int32 := x.toInt8.toInt32
theorem fits_lo8 (y : Int32) : fits .byte (.int (lo8 y)) = true := by
  have h1 := y.toInt8.le_toInt
  have h2 := y.toInt8.toInt_lt
  simp only [lo8, fits, Bool.and_eq_true, decide_eq_true_eq, Int32.le_iff_toInt_le, Int8.toInt_toInt32, show (-128 : Int32).toInt = -128 from by decide, show (127 : Int32).toInt = 127 from by decide]
  omega
/-- A' is A but that each place j of lo .. hi - 1 holds f j -/
def Laid (A A' : Cell) (lo hi : Nat) (f : Nat → Value) : Prop := A'.cls = A.cls ∧ A'.vm = A.vm ∧ A'.slots.size = A.slots.size ∧ ∀ i, A'.slots[i]? = if lo ≤ i ∧ i < hi then some (f i) else A.slots[i]?
theorem Laid.zero (A : Cell) (lo : Nat) (f : Nat → Value) : Laid A A lo (lo + 0) f := ⟨rfl, rfl, rfl, fun i => by rw [if_neg (by omega)]⟩
theorem Laid.step {A Ak : Cell} {lo k : Nat} {f : Nat → Value} {v : Value} (h : Laid A Ak lo k f) (hlo : lo ≤ k) (hk : k < Ak.slots.size) (hv : v = f k) : Laid A (Ak.setSlot k v) lo (k + 1) f := by
  refine ⟨h.1, h.2.1, by simpa [Cell.setSlot] using h.2.2.1, fun i => ?_⟩
  by_cases e : k = i
  · subst e; rw [Cell.slots_setSlot_self v hk, if_pos (by omega), hv]
  · rw [Cell.slots_setSlot_ne v e, h.2.2.2 i]
    by_cases q : lo ≤ i ∧ i < k
    · rw [if_pos q, if_pos (by omega)]
    · rw [if_neg q, if_neg (by omega)]
def U16 : String := "java/lang/StringUTF16"
namespace Cmp5
def yN : MethodName := ⟨"java/lang/StringUTF16", "compress", "([CI[BII)I"⟩
abbrev yB : ByteArray := jdk_52_method_21_code
theorem d0 : decode yB 0 = .ok (.iconst 0, 1) := by decide +kernel
theorem d1 : decode yB 1 = .ok (.istore 5, 2) := by decide +kernel
theorem d3 : decode yB 3 = .ok (.iload 5, 2) := by decide +kernel
theorem d5 : decode yB 5 = .ok (.iload 4, 2) := by decide +kernel
theorem d7 : decode yB 7 = .ok (.if_icmp (.ge) 37, 3) := by decide +kernel
theorem d10 : decode yB 10 = .ok (.aload_n 0, 1) := by decide +kernel
theorem d11 : decode yB 11 = .ok (.iload_n 1, 1) := by decide +kernel
theorem d12 : decode yB 12 = .ok (.caload, 1) := by decide +kernel
theorem d13 : decode yB 13 = .ok (.istore 6, 2) := by decide +kernel
theorem d15 : decode yB 15 = .ok (.iload 6, 2) := by decide +kernel
theorem d17 : decode yB 17 = .ok (.sipush 255, 3) := by decide +kernel
theorem d20 : decode yB 20 = .ok (.if_icmp (.le) 6, 3) := by decide +kernel
theorem d26 : decode yB 26 = .ok (.aload_n 2, 1) := by decide +kernel
theorem d27 : decode yB 27 = .ok (.iload_n 3, 1) := by decide +kernel
theorem d28 : decode yB 28 = .ok (.iload 6, 2) := by decide +kernel
theorem d30 : decode yB 30 = .ok (.i2b, 1) := by decide +kernel
theorem d31 : decode yB 31 = .ok (.bastore, 1) := by decide +kernel
theorem d32 : decode yB 32 = .ok (.iinc 1 1, 3) := by decide +kernel
theorem d35 : decode yB 35 = .ok (.iinc 3 1, 3) := by decide +kernel
theorem d38 : decode yB 38 = .ok (.iinc 5 1, 3) := by decide +kernel
theorem d41 : decode yB 41 = .ok (.goto (-38), 3) := by decide +kernel
theorem d44 : decode yB 44 = .ok (.iload 4, 2) := by decide +kernel
theorem d46 : decode yB 46 = .ok (.ireturn, 1) := by decide +kernel
def site : List Cond := []
def tab : Cond := tabOf yN yB 7 (some .int) site
def P (b : Addr) (A : Cell) (d : Addr) (B : Cell) (o q len : Nat) (args : Array Value) (s : State) : Prop := args = #[.ref b, .int (Int32.ofNat o), .ref d, .int (Int32.ofNat q), .int (Int32.ofNat len)] ∧ Ch b A s ∧ Arr .byte d B s ∧ b ≠ d ∧ o + len ≤ A.slots.size ∧ q + len ≤ B.slots.size ∧ ∀ i, i < len → ¬ 255 < cv A (o + i)
def E (b : Addr) (A : Cell) (d : Addr) (B : Cell) (o q len : Nat) (r : Option Value) (s u : State) : Prop := r = some (.int (Int32.ofNat len)) ∧ ∃ B', Put d B' s u ∧ Laid B B' q (q + len) (fun j => Value.int (lo8 (cv A (o + (j - q)))))
/-- no char of the range above 255: len; the places written hold each char's low byte -/
theorem law (l : Launch) (b : Addr) (A : Cell) (d : Addr) (B : Cell) (o q len : Nat) : Law l yN 5 5 0 0 yB 7 (some .int) site (P b A d B o q len) (E b A d B o q len) (copyLocs d q len) 0 0 := by
  refine Law.of_walk (plainFor_of_name (by decide +kernel)) (by decide +kernel) (by decide +kernel) (by decide) (fun _ _ h => by rw [h.1]; rfl) (fun _ U U' hal hh h => ⟨h.1, h.2.1.mv hal hh, h.2.2.1.mv hal hh, h.2.2.2⟩) (fun r U U' V V' h1 hal h2 h => ⟨h.1, h.2.elim fun B' q => ⟨B', q.1.mv h1 h2, q.2⟩⟩) ?_
  intro p e s m args below meth c s₁ X0 hexec hbytes hml hret hlk hnm hown hh0 W hP
  obtain ⟨rfl, hA, hB, hne, l1, l2, hp⟩ := hP
  have c1 : Steps p.tables e below (s₁.setTop (entryFrame m #[.ref b, .int (Int32.ofNat o), .ref d, .int (Int32.ofNat q), .int (Int32.ofNat len)] 7)) (s₁.setTop (mkF m 0 #[.val (.ref b), .val (.int (Int32.ofNat o)), .val (.ref d), .val (.int (Int32.ofNat q)), .val (.int (Int32.ofNat len)), .unset, .unset] [])) := entry rfl
  have hA0 := hA.1.mv X0.warmed.alike hh0
  have hB0 := hB.mv X0.warmed.alike hh0
  have a31 := hA.1.2.2.2
  have c2 : Steps p.tables e below (s₁.setTop (entryFrame m #[.ref b, .int (Int32.ofNat o), .ref d, .int (Int32.ofNat q), .int (Int32.ofNat len)] 7)) (s₁.setTop (mkF m 3 #[.val (.ref b), .val (.int (Int32.ofNat o)), .val (.ref d), .val (.int (Int32.ofNat q)), .val (.int (Int32.ofNat len)), .val (.int 0), .unset] [])) := c1.trans (by
    refine iconstV X0.here hexec rfl 0 (hb hbytes d0) (by decide) ?_
    refine XS.istore X0.here hexec rfl (hb hbytes d1) rfl rfl ?_
    exact Steps.refl _)
  have loop : ∀ (r i : Nat), i + r = len → ∀ (z : Slot), (z = .unset ∨ ∃ w, z = .val w ∧ w.category = 1) → ∀ (Tl : State) (Bk : Cell), Stand p l e { frames := 0, locals := 0, cells := 0, slots := 0 } s m #[.ref b, .int (Int32.ofNat o), .ref d, .int (Int32.ofNat q), .int (Int32.ofNat len)] below meth c Tl ([] ++ copyLocs d q i) 0 0 → Put d Bk s₁ Tl → Laid B Bk q (q + i) (fun j => Value.int (lo8 (cv A (o + (j - q))))) →
      Steps p.tables e below (s₁.setTop (entryFrame m #[.ref b, .int (Int32.ofNat o), .ref d, .int (Int32.ofNat q), .int (Int32.ofNat len)] 7)) (Tl.setTop (mkF m 3 #[.val (.ref b), .val (.int (Int32.ofNat (o + i))), .val (.ref d), .val (.int (Int32.ofNat (q + i))), .val (.int (Int32.ofNat len)), .val (.int (Int32.ofNat i)), z] [])) → ∃ (T' : State) (B' : Cell) (z' : Slot), Stand p l e { frames := 0, locals := 0, cells := 0, slots := 0 } s m #[.ref b, .int (Int32.ofNat o), .ref d, .int (Int32.ofNat q), .int (Int32.ofNat len)] below meth c T' ([] ++ copyLocs d q len) 0 0 ∧ Put d B' s₁ T' ∧ Laid B B' q (q + len) (fun j => Value.int (lo8 (cv A (o + (j - q))))) ∧
      Steps p.tables e below (s₁.setTop (entryFrame m #[.ref b, .int (Int32.ofNat o), .ref d, .int (Int32.ofNat q), .int (Int32.ofNat len)] 7)) (T'.setTop (mkF m 3 #[.val (.ref b), .val (.int (Int32.ofNat (o + len))), .val (.ref d), .val (.int (Int32.ofNat (q + len))), .val (.int (Int32.ofNat len)), .val (.int (Int32.ofNat len)), z'] [])) := by
    intro r
    induction r with
    | zero =>
      intro i hi z hz Tl Bk Xl pl fl cl
      have hil : i = len := by omega
      rw [hil] at Xl fl cl
      exact ⟨Tl, Bk, z, Xl, pl, fl, cl⟩
    | succ r ih =>
      intro i hi z hz Tl Bk Xl pl fl cl
      have all := X0.warmed.alike.symm.trans Xl.warmed.alike
      have hAl := hA0.keep all (pl.other hne hA0.1)
      have hBk := hB0.like all pl.1 fl.1 fl.2.1 fl.2.2.1
      have hlt : q + i < Bk.slots.size := by rw [fl.2.2.1]; omega
      have c3 : Steps p.tables e below (s₁.setTop (entryFrame m #[.ref b, .int (Int32.ofNat o), .ref d, .int (Int32.ofNat q), .int (Int32.ofNat len)] 7)) (Tl.setTop (mkF m 12 #[.val (.ref b), .val (.int (Int32.ofNat (o + i))), .val (.ref d), .val (.int (Int32.ofNat (q + i))), .val (.int (Int32.ofNat len)), .val (.int (Int32.ofNat i)), z] [.int (Int32.ofNat (o + i)), .ref b])) := cl.trans (by
        refine XS.iload Xl.here hexec rfl (hb hbytes d3) rfl ?_
        refine XS.iload Xl.here hexec rfl (hb hbytes d5) rfl ?_
        refine XS.icmpNo Xl.here hexec rfl (hb hbytes d7) rfl (ii_ge_f (lt32 (by omega) (by omega))) ?_
        refine XS.aloadN Xl.here hexec rfl (hb hbytes d10) rfl rfl ?_
        refine XS.iloadN Xl.here hexec rfl (hb hbytes d11) rfl ?_
        exact Steps.refl _)
      have c4 : Steps p.tables e below (s₁.setTop (entryFrame m #[.ref b, .int (Int32.ofNat o), .ref d, .int (Int32.ofNat q), .int (Int32.ofNat len)] 7)) (Tl.setTop (mkF m 13 #[.val (.ref b), .val (.int (Int32.ofNat (o + i))), .val (.ref d), .val (.int (Int32.ofNat (q + i))), .val (.int (Int32.ofNat len)), .val (.int (Int32.ofNat i)), z] [.int (cv A (o + i))])) := c3.trans (by
        refine Xl.aget hexec hAl rfl (hA.get (i := o + i) (by omega)) rfl rfl (hb hbytes d12) ?_
        exact Steps.refl _)
      have c5 : Steps p.tables e below (s₁.setTop (entryFrame m #[.ref b, .int (Int32.ofNat o), .ref d, .int (Int32.ofNat q), .int (Int32.ofNat len)] 7)) (Tl.setTop (mkF m 15 #[.val (.ref b), .val (.int (Int32.ofNat (o + i))), .val (.ref d), .val (.int (Int32.ofNat (q + i))), .val (.int (Int32.ofNat len)), .val (.int (Int32.ofNat i)), .val (.int (cv A (o + i)))] [])) := c4.trans (by
        refine XS.istoreS Xl.here hexec rfl (hb hbytes d13) rfl rfl hz ?_
        exact Steps.refl _)
      have c6 : Steps p.tables e below (s₁.setTop (entryFrame m #[.ref b, .int (Int32.ofNat o), .ref d, .int (Int32.ofNat q), .int (Int32.ofNat len)] 7)) (Tl.setTop (mkF m 31 #[.val (.ref b), .val (.int (Int32.ofNat (o + i))), .val (.ref d), .val (.int (Int32.ofNat (q + i))), .val (.int (Int32.ofNat len)), .val (.int (Int32.ofNat i)), .val (.int (cv A (o + i)))] [.int (lo8 (cv A (o + i))), .int (Int32.ofNat (q + i)), .ref d])) := c5.trans (by
        refine XS.iload Xl.here hexec rfl (hb hbytes d15) rfl ?_
        refine sipushV Xl.here hexec rfl 255 (hb hbytes d17) (by decide) ?_
        refine XS.icmpYes Xl.here hexec rfl (pc0 := 20) rfl (hb hbytes d20) rfl (ii_le_t (hp i (by omega))) (by decide) rfl ?_
        refine XS.aloadN Xl.here hexec rfl (hb hbytes d26) rfl rfl ?_
        refine XS.iloadN Xl.here hexec rfl (hb hbytes d27) rfl ?_
        refine XS.iload Xl.here hexec rfl (hb hbytes d28) rfl ?_
        refine i2b Xl.here hexec rfl (hb hbytes d30) rfl ?_
        exact Steps.refl _)
      obtain ⟨T7, X7, p7, st7⟩ := Xl.aput hexec hBk rfl hlt rfl (fits_lo8 (cv A (o + i))) (g := (mkF m 31 #[.val (.ref b), .val (.int (Int32.ofNat (o + i))), .val (.ref d), .val (.int (Int32.ofNat (q + i))), .val (.int (Int32.ofNat len)), .val (.int (Int32.ofNat i)), .val (.int (cv A (o + i)))] [.int (lo8 (cv A (o + i))), .int (Int32.ofNat (q + i)), .ref d])) rfl (rest := []) rfl (hb hbytes d31)
      have c8 : Steps p.tables e below (s₁.setTop (entryFrame m #[.ref b, .int (Int32.ofNat o), .ref d, .int (Int32.ofNat q), .int (Int32.ofNat len)] 7)) (T7.setTop (mkF m 32 #[.val (.ref b), .val (.int (Int32.ofNat (o + i))), .val (.ref d), .val (.int (Int32.ofNat (q + i))), .val (.int (Int32.ofNat len)), .val (.int (Int32.ofNat i)), .val (.int (cv A (o + i)))] [])) := c6.trans (st7 _ (Steps.refl _))
      have c9 : Steps p.tables e below (s₁.setTop (entryFrame m #[.ref b, .int (Int32.ofNat o), .ref d, .int (Int32.ofNat q), .int (Int32.ofNat len)] 7)) (T7.setTop (mkF m 3 #[.val (.ref b), .val (.int (Int32.ofNat (o + i) + 1)), .val (.ref d), .val (.int (Int32.ofNat (q + i) + 1)), .val (.int (Int32.ofNat len)), .val (.int (Int32.ofNat i + 1)), .val (.int (cv A (o + i)))] [])) := c8.trans (by
        refine iincV X7.here hexec rfl 1 (hb hbytes d32) (by decide) rfl rfl ?_
        refine iincV X7.here hexec rfl 1 (hb hbytes d35) (by decide) rfl rfl ?_
        refine iincV X7.here hexec rfl 1 (hb hbytes d38) (by decide) rfl rfl ?_
        refine XS.goto X7.here hexec rfl (pc0 := 41) rfl (hb hbytes d41) (by decide) rfl ?_
        exact Steps.refl _)
      have c10 : Steps p.tables e below (s₁.setTop (entryFrame m #[.ref b, .int (Int32.ofNat o), .ref d, .int (Int32.ofNat q), .int (Int32.ofNat len)] 7)) (T7.setTop (mkF m 3 #[.val (.ref b), .val (.int (Int32.ofNat (o + (i + 1)))), .val (.ref d), .val (.int (Int32.ofNat (q + (i + 1)))), .val (.int (Int32.ofNat len)), .val (.int (Int32.ofNat (i + 1))), .val (.int (cv A (o + i)))] [])) := by
        have := c9
        rw [succ32, succ32, succ32] at this
        exact this
      exact ih (i + 1) (by omega) _ (Or.inr ⟨_, rfl, rfl⟩) T7 _ (by rw [copyLocs_step, ← List.append_assoc]; exact X7) (pl.trans p7) (fl.step (by omega) hlt (by simp)) c10
  obtain ⟨T9, B9, z9, X9, p9, f9, g9⟩ := loop len 0 (by omega) .unset (Or.inl rfl) s₁ B (by simpa [copyLocs] using X0) ⟨hB0.1, fun _ _ => rfl, rfl⟩ (Laid.zero _ _ _) c2
  have c11 : Steps p.tables e below (s₁.setTop (entryFrame m #[.ref b, .int (Int32.ofNat o), .ref d, .int (Int32.ofNat q), .int (Int32.ofNat len)] 7)) (T9.setTop (mkF m 46 #[.val (.ref b), .val (.int (Int32.ofNat (o + len))), .val (.ref d), .val (.int (Int32.ofNat (q + len))), .val (.int (Int32.ofNat len)), .val (.int (Int32.ofNat len)), z9] [.int (Int32.ofNat len)])) := g9.trans (by
    refine XS.iload X9.here hexec rfl (hb hbytes d3) rfl ?_
    refine XS.iload X9.here hexec rfl (hb hbytes d5) rfl ?_
    refine XS.icmpYes X9.here hexec rfl (pc0 := 7) rfl (hb hbytes d7) rfl (ii_ge_t (nlt32 (by omega) (Nat.le_refl _))) (by decide) rfl ?_
    refine XS.iload X9.here hexec rfl (hb hbytes d44) rfl ?_
    exact Steps.refl _)
  exact ⟨T9, some (.int (Int32.ofNat len)), _, _, _, X9, by simp, rfl, rfl, (fun h => by cases h), ⟨rfl, B9, p9.from hh0, f9⟩, fun fs hl => c11.trans (X9.ireturnOut hexec hret rfl (Or.inl rfl) (hb hbytes d46) hl)⟩
end Cmp5
namespace Cmp3
def yN : MethodName := ⟨"java/lang/StringUTF16", "compress", "([CII)[B"⟩
abbrev yB : ByteArray := jdk_52_method_16_code
theorem d0 : decode yB 0 = .ok (.iload_n 2, 1) := by decide +kernel
theorem d1 : decode yB 1 = .ok (.newarray .byte, 2) := by decide +kernel
theorem d3 : decode yB 3 = .ok (.astore_n 3, 1) := by decide +kernel
theorem d4 : decode yB 4 = .ok (.aload_n 0, 1) := by decide +kernel
theorem d5 : decode yB 5 = .ok (.iload_n 1, 1) := by decide +kernel
theorem d6 : decode yB 6 = .ok (.aload_n 3, 1) := by decide +kernel
theorem d7 : decode yB 7 = .ok (.iconst 0, 1) := by decide +kernel
theorem d8 : decode yB 8 = .ok (.iload_n 2, 1) := by decide +kernel
theorem d9 : decode yB 9 = .ok (.invokestatic 115, 3) := by decide +kernel
theorem d12 : decode yB 12 = .ok (.istore 4, 2) := by decide +kernel
theorem d14 : decode yB 14 = .ok (.iload 4, 2) := by decide +kernel
theorem d16 : decode yB 16 = .ok (.iload_n 2, 1) := by decide +kernel
theorem d17 : decode yB 17 = .ok (.if_icmp (.eq) 40, 3) := by decide +kernel
theorem d57 : decode yB 57 = .ok (.aload_n 3, 1) := by decide +kernel
theorem d58 : decode yB 58 = .ok (.areturn, 1) := by decide +kernel
def site : List Cond := [.arrayClass .byte, Cmp5.tab] ++ staticW U16 115 Cmp5.yN
def tab : Cond := tabOf yN yB 6 (some (.array .byte)) site
def P (b : Addr) (A : Cell) (o len : Nat) (args : Array Value) (s : State) : Prop := args = #[.ref b, .int (Int32.ofNat o), .int (Int32.ofNat len)] ∧ Ch b A s ∧ o + len ≤ A.slots.size ∧ len ≤ 536870912 ∧ ∀ i, i < len → ¬ 255 < cv A (o + i)
def E (b : Addr) (A : Cell) (o len : Nat) (r : Option Value) (s u : State) : Prop := NewArr .byte "[B" len (fun j => .int (lo8 (cv A (o + j)))) r s u ∧ u.heap.size = s.heap.size + 1
/-- no char of the range above 255: a new byte[] of their low bytes -/
theorem law (l : Launch) (b : Addr) (A : Cell) (o len : Nat) : Law l yN 3 3 1 18 yB 6 (some (.array .byte)) site (P b A o len) (E b A o len) [] 1 len := by
  refine Law.of_walk (plainFor_of_name (by decide +kernel)) (by decide +kernel) (by decide +kernel) (by decide) (fun _ _ h => by rw [h.1]; rfl) (fun _ U U' hal hh h => ⟨h.1, h.2.1.mv hal hh, h.2.2⟩) (fun r U U' V V' h1 hal h2 h => ⟨NewArr.mv r U U' V V' h1 hal h2 h.1, by rw [h1, h2]; exact h.2⟩) ?_
  intro p e s m args below meth c s₁ X0 hexec hbytes hml hret hlk hnm hown hh0 W hP
  obtain ⟨rfl, hA, l1, l2, hp⟩ := hP
  have a31 := hA.1.2.2.2
  have c1 : Steps p.tables e below (s₁.setTop (entryFrame m #[.ref b, .int (Int32.ofNat o), .int (Int32.ofNat len)] 6)) (s₁.setTop (mkF m 0 #[.val (.ref b), .val (.int (Int32.ofNat o)), .val (.int (Int32.ofNat len)), .unset, .unset, .unset] [])) := entry rfl
  have c2 : Steps p.tables e below (s₁.setTop (entryFrame m #[.ref b, .int (Int32.ofNat o), .int (Int32.ofNat len)] 6)) (s₁.setTop (mkF m 1 #[.val (.ref b), .val (.int (Int32.ofNat o)), .val (.int (Int32.ofNat len)), .unset, .unset, .unset] [.int (Int32.ofNat len)])) := c1.trans (by
    refine XS.iloadN X0.here hexec rfl (hb hbytes d0) rfl ?_
    exact Steps.refl _)
  obtain ⟨T3, B3, X3, ba3, bs3, bv3, bh3, bf3, st3⟩ := X0.anew hexec (atype := .byte) (wk W (.arrayClass .byte)) rfl (by show len * 1 ≤ _; omega) (by omega) (g := (mkF m 1 #[.val (.ref b), .val (.int (Int32.ofNat o)), .val (.int (Int32.ofNat len)), .unset, .unset, .unset] [.int (Int32.ofNat len)])) rfl (hb hbytes d1) (rest := []) rfl (Nat.le_refl _) (by show 0 + len ≤ len; omega)
  rw [hh0] at ba3 st3
  have kp3 : XT.Kept s T3 := (XT.Kept.of_eq hh0).push bh3
  have hA3 := hA.keep X3.warmed.alike (kp3 _ _ hA.1.1)
  have hne : b ≠ s.heap.size := hA.1.ne
  have c4 : Steps p.tables e below (s₁.setTop (entryFrame m #[.ref b, .int (Int32.ofNat o), .int (Int32.ofNat len)] 6)) (T3.setTop (mkF m 3 #[.val (.ref b), .val (.int (Int32.ofNat o)), .val (.int (Int32.ofNat len)), .unset, .unset, .unset] [.ref s.heap.size])) := c2.trans (st3 _ (Steps.refl _))
  have c5 : Steps p.tables e below (s₁.setTop (entryFrame m #[.ref b, .int (Int32.ofNat o), .int (Int32.ofNat len)] 6)) (T3.setTop (mkF m 9 #[.val (.ref b), .val (.int (Int32.ofNat o)), .val (.int (Int32.ofNat len)), .val (.ref s.heap.size), .unset, .unset] [.int (Int32.ofNat len), .int 0, .ref s.heap.size, .int (Int32.ofNat o), .ref b])) := c4.trans (by
    refine XS.astoreN X3.here hexec rfl (hb hbytes d3) rfl rfl rfl ?_
    refine XS.aloadN X3.here hexec rfl (hb hbytes d4) rfl rfl ?_
    refine XS.iloadN X3.here hexec rfl (hb hbytes d5) rfl ?_
    refine XS.aloadN X3.here hexec rfl (hb hbytes d6) rfl rfl ?_
    refine iconstV X3.here hexec rfl 0 (hb hbytes d7) (by decide) ?_
    refine XS.iloadN X3.here hexec rfl (hb hbytes d8) rfl ?_
    exact Steps.refl _)
  obtain ⟨v6, T6, X6, E6, g6⟩ := X3.callS hexec (Cmp5.law l b A s.heap.size B3 o 0 len) hown (wks W (staticW U16 115 Cmp5.yN)) (wk W Cmp5.tab) (W := 0) (Nat.le_of_ble_eq_true rfl) (Nat.le_of_ble_eq_true rfl) (Nat.le_refl _) (by show 0 + len + 0 ≤ len; omega) (g := (mkF m 9 #[.val (.ref b), .val (.int (Int32.ofNat o)), .val (.int (Int32.ofNat len)), .val (.ref s.heap.size), .unset, .unset] [.int (Int32.ofNat len), .int (Int32.ofNat 0), .ref s.heap.size, .int (Int32.ofNat o), .ref b])) rfl (by rw [hml]; rfl) c5 (argsL := [.ref b, .int (Int32.ofNat o), .ref s.heap.size, .int (Int32.ofNat 0), .int (Int32.ofNat len)]) (rest := []) rfl rfl (by show 2 * 0 + 0 ≤ _; decide) (hb hbytes d9) (⟨rfl, hA3, ba3, hne, l1, by rw [bs3]; simp, hp⟩)
  obtain ⟨rfl, B6, p6, f6⟩ := E6
  have c7 : Steps p.tables e below (s₁.setTop (entryFrame m #[.ref b, .int (Int32.ofNat o), .int (Int32.ofNat len)] 6)) (T6.setTop (mkF m 12 #[.val (.ref b), .val (.int (Int32.ofNat o)), .val (.int (Int32.ofNat len)), .val (.ref s.heap.size), .unset, .unset] [.int (Int32.ofNat len)])) := g6
  have c8 : Steps p.tables e below (s₁.setTop (entryFrame m #[.ref b, .int (Int32.ofNat o), .int (Int32.ofNat len)] 6)) (T6.setTop (mkF m 58 #[.val (.ref b), .val (.int (Int32.ofNat o)), .val (.int (Int32.ofNat len)), .val (.ref s.heap.size), .val (.int (Int32.ofNat len)), .unset] [.ref s.heap.size])) := c7.trans (by
    refine XS.istore X6.here hexec rfl (hb hbytes d12) rfl rfl ?_
    refine XS.iload X6.here hexec rfl (hb hbytes d14) rfl ?_
    refine XS.iloadN X6.here hexec rfl (hb hbytes d16) rfl ?_
    refine XS.icmpYes X6.here hexec rfl (pc0 := 17) rfl (hb hbytes d17) rfl (ii_eq_t rfl) (by decide) rfl ?_
    refine XS.aloadN X6.here hexec rfl (hb hbytes d57) rfl rfl ?_
    exact Steps.refl _)
  have X8 := X6.wide (L' := []) (cells' := 1) (slots' := len) (fun x hx hlt => by
    simp only [List.nil_append, copyLocs, List.mem_map, List.mem_range] at hx
    obtain ⟨i, -, rfl⟩ := hx
    exact absurd hlt (Nat.lt_irrefl _)) (Nat.le_refl _) (by omega)
  exact ⟨T6, some (.ref s.heap.size), _, _, _, X8, rfl, rfl, rfl, (fun h => by cases h), ⟨⟨rfl, B6, ba3.like (X3.warmed.alike.symm.trans X6.warmed.alike) p6.1 f6.1 f6.2.1 f6.2.2.1, f6.2.1.trans bv3, by rw [X6.warmed.alike.findClass, f6.1]; exact bf3, by rw [f6.2.2.1, bs3]; simp, fun j hj => by rw [f6.2.2.2 j, if_pos (by omega)]; rfl, kp3.put p6 (Nat.le_refl _)⟩, by rw [p6.2.2, bh3, hh0]; simp⟩, fun fs hl => c8.trans (X8.areturnOut hexec rfl hret rfl (hb hbytes d58) hl)⟩
end Cmp3
namespace CodL
def yN : MethodName := ⟨"java/lang/StringUTF16", "coderFromArrayLen", "([BI)B"⟩
abbrev yB : ByteArray := jdk_52_method_15_code
theorem d0 : decode yB 0 = .ok (.iload_n 1, 1) := by decide +kernel
theorem d1 : decode yB 1 = .ok (.aload_n 0, 1) := by decide +kernel
theorem d2 : decode yB 2 = .ok (.arraylength, 1) := by decide +kernel
theorem d3 : decode yB 3 = .ok (.isub, 1) := by decide +kernel
theorem d4 : decode yB 4 = .ok (.bipush 31, 2) := by decide +kernel
theorem d6 : decode yB 6 = .ok (.iushr, 1) := by decide +kernel
theorem d7 : decode yB 7 = .ok (.i2b, 1) := by decide +kernel
theorem d8 : decode yB 8 = .ok (.ireturn, 1) := by decide +kernel
def site : List Cond := []
def tab : Cond := tabOf yN yB 2 (some .byte) site
def P (d : Addr) (B : Cell) (args : Array Value) (s : State) : Prop := args = #[.ref d, .int (Int32.ofNat B.slots.size)] ∧ Arr .byte d B s
def E (r : Option Value) (s u : State) : Prop := XT.PureE (some (.int 0)) r s u
/-- an array as long as the number of chars: LATIN1 -/
theorem law (l : Launch) (d : Addr) (B : Cell) : Law l yN 2 2 0 0 yB 2 (some .byte) site (P d B) E [] 0 0 := by
  refine Law.of_walk (plainFor_of_name (by decide +kernel)) (by decide +kernel) (by decide +kernel) (by decide) (fun _ _ h => by rw [h.1]; rfl) (fun _ U U' hal hh h => ⟨h.1, h.2.mv hal hh⟩) (fun r U U' V V' h1 hal h2 h => XT.PureE.mv r U U' V V' h1 hal h2 h) ?_
  intro p e s m args below meth c s₁ X0 hexec hbytes hml hret hlk hnm hown hh0 W hP
  obtain ⟨rfl, hB⟩ := hP
  have hB0 := hB.mv X0.warmed.alike hh0
  have c1 : Steps p.tables e below (s₁.setTop (entryFrame m #[.ref d, .int (Int32.ofNat B.slots.size)] 2)) (s₁.setTop (mkF m 0 #[.val (.ref d), .val (.int (Int32.ofNat B.slots.size))] [])) := entry rfl
  have c2 : Steps p.tables e below (s₁.setTop (entryFrame m #[.ref d, .int (Int32.ofNat B.slots.size)] 2)) (s₁.setTop (mkF m 2 #[.val (.ref d), .val (.int (Int32.ofNat B.slots.size))] [.ref d, .int (Int32.ofNat B.slots.size)])) := c1.trans (by
    refine XS.iloadN X0.here hexec rfl (hb hbytes d0) rfl ?_
    refine XS.aloadN X0.here hexec rfl (hb hbytes d1) rfl rfl ?_
    exact Steps.refl _)
  have c3 : Steps p.tables e below (s₁.setTop (entryFrame m #[.ref d, .int (Int32.ofNat B.slots.size)] 2)) (s₁.setTop (mkF m 8 #[.val (.ref d), .val (.int (Int32.ofNat B.slots.size))] [.int (lo8 (ushr (Int32.ofNat B.slots.size - Int32.ofNat B.slots.size) 31))])) := c2.trans (by
    refine X0.alen hexec hB0 rfl rfl (hb hbytes d2) ?_
    refine XS.isub X0.here hexec rfl (hb hbytes d3) rfl ?_
    refine bipushV X0.here hexec rfl 31 (hb hbytes d4) (by decide) ?_
    refine iushr X0.here hexec rfl (hb hbytes d6) rfl ?_
    refine i2b X0.here hexec rfl (hb hbytes d7) rfl ?_
    exact Steps.refl _)
  have e0 : lo8 (ushr (Int32.ofNat B.slots.size - Int32.ofNat B.slots.size) 31) = 0 := by rw [Int32.sub_self]; decide
  rw [e0] at c3
  exact ⟨s₁, some (.int 0), _, _, _, X0, rfl, rfl, rfl, (fun h => by cases h), ⟨rfl, hh0⟩, fun fs hl => c3.trans (X0.ireturnOut hexec hret rfl (Or.inr (Or.inr (Or.inl rfl))) (hb hbytes d8) hl)⟩
end CodL
/-- the String at a is Latin-1 over a new byte[] (the heap's one new cell): the low bytes of the len chars of A from o on; every cell but a is kept -/
def Got (a : Addr) (D : Cell) (fV fC : Field) (A : Cell) (o len : Nat) (r : Option Value) (s u : State) : Prop := r = none ∧ ∃ D' V : Cell, Blank "java/lang/String" a D' u ∧ Same D D' [fV.slot, fC.slot] ∧ D'.slots[fV.slot]? = some (.ref s.heap.size) ∧ D'.slots[fC.slot]? = some (.int 0) ∧ Arr .byte s.heap.size V u ∧ V.vm = .none ∧ u.vm.findClass "[B" = some V.cls ∧ V.slots.size = len ∧ (∀ j, j < len → V.slots[j]? = some (.int (lo8 (cv A (o + j))))) ∧ (∀ (y : Addr) (c : Cell), y ≠ a → s.heap[y]? = some c → u.heap[y]? = some c) ∧ u.heap.size = s.heap.size + 1
theorem Got.mv {a : Addr} {D A : Cell} {fV fC : Field} {o len : Nat} : ∀ r (U U' V V' : State), U'.heap = U.heap → V.vm.Alike V'.vm → V'.heap = V.heap → Got a D fV fC A o len r U V → Got a D fV fC A o len r U' V' :=
  fun r U U' V V' h1 hal h2 ⟨e0, D', X, a1, a2, a3, a4, a5, a6, a7, a8, a9, a10, a11⟩ => ⟨e0, D', X, a1.mv hal h2, a2, by rw [h1]; exact a3, a4, by rw [h1]; exact a5.mv hal h2, a6, by rw [hal.findClass]; exact a7, a8, a9, by rw [h1, h2]; exact a10, by rw [h1, h2]; exact a11⟩
namespace New4
def yN : MethodName := ⟨"java/lang/String", "<init>", "([CIILjava/lang/Void;)V"⟩
abbrev yB : ByteArray := jdk_42_method_149_code
theorem d0 : decode yB 0 = .ok (.aload_n 0, 1) := by decide +kernel
theorem d1 : decode yB 1 = .ok (.invokespecial 1, 3) := by decide +kernel
theorem d4 : decode yB 4 = .ok (.iload_n 3, 1) := by decide +kernel
theorem d5 : decode yB 5 = .ok (.ifCond (.ne) 22, 3) := by decide +kernel
theorem d27 : decode yB 27 = .ok (.getstatic 38, 3) := by decide +kernel
theorem d30 : decode yB 30 = .ok (.ifCond (.eq) 28, 3) := by decide +kernel
theorem d33 : decode yB 33 = .ok (.aload_n 1, 1) := by decide +kernel
theorem d34 : decode yB 34 = .ok (.iload_n 2, 1) := by decide +kernel
theorem d35 : decode yB 35 = .ok (.iload_n 3, 1) := by decide +kernel
theorem d36 : decode yB 36 = .ok (.invokestatic 177, 3) := by decide +kernel
theorem d39 : decode yB 39 = .ok (.astore 5, 2) := by decide +kernel
theorem d41 : decode yB 41 = .ok (.aload_n 0, 1) := by decide +kernel
theorem d42 : decode yB 42 = .ok (.aload 5, 2) := by decide +kernel
theorem d44 : decode yB 44 = .ok (.iload_n 3, 1) := by decide +kernel
theorem d45 : decode yB 45 = .ok (.invokestatic 47, 3) := by decide +kernel
theorem d48 : decode yB 48 = .ok (.putfield 15, 3) := by decide +kernel
theorem d51 : decode yB 51 = .ok (.aload_n 0, 1) := by decide +kernel
theorem d52 : decode yB 52 = .ok (.aload 5, 2) := by decide +kernel
theorem d54 : decode yB 54 = .ok (.putfield 9, 3) := by decide +kernel
theorem d57 : decode yB 57 = .ok (.return_, 1) := by decide +kernel
def site : List Cond := [.fieldLink "java/lang/String" 38 "java/lang/String" "COMPACT_STRINGS" "Z", Cmp3.tab, CodL.tab, .laysFinal "java/lang/String" "java/lang/String" "value" "[B", .fieldLink "java/lang/String" 9 "java/lang/String" "value" "[B", .laysFinal "java/lang/String" "java/lang/String" "coder" "B", .fieldLink "java/lang/String" 15 "java/lang/String" "coder" "B"] ++ objW "java/lang/String" 1 ++ staticW "java/lang/String" 177 Cmp3.yN ++ staticW "java/lang/String" 47 CodL.yN
def tab : Cond := tabOf yN yB 6 none site
def P (a : Addr) (D : Cell) (fV fC : Field) (b : Addr) (A : Cell) (z : Int32) (o len : Nat) (args : Array Value) (s : State) : Prop := args = #[.ref a, .ref b, .int (Int32.ofNat o), .int (Int32.ofNat len), .null] ∧ Blank "java/lang/String" a D s ∧ Found "java/lang/String" "value" "[B" fV s ∧ Found "java/lang/String" "coder" "B" fC s ∧ Ch b A s ∧ StaticIs s "java/lang/String" "COMPACT_STRINGS" "Z" (.int z) ∧ ¬ z = 0 ∧ 0 < len ∧ o + len ≤ A.slots.size ∧ len ≤ 536870912 ∧ ∀ i, i < len → ¬ 255 < cv A (o + i)
def E (a : Addr) (D : Cell) (fV fC : Field) (A : Cell) (o len : Nat) (r : Option Value) (s u : State) : Prop := Got a D fV fC A o len r s u
/-- len > 0, no char of the range above 255: a Latin-1 String of their low bytes -/
theorem law (l : Launch) (a : Addr) (D : Cell) (fV fC : Field) (b : Addr) (A : Cell) (z : Int32) (o len : Nat) : Law l yN 5 4 2 35 yB 6 none site (P a D fV fC b A z o len) (E a D fV fC A o len) [⟨a, fC.slot⟩, ⟨a, fV.slot⟩] 1 len := by
  refine Law.of_walk (plainFor_of_name (by decide +kernel)) (by decide +kernel) (by decide +kernel) (by decide) (fun _ _ h => by rw [h.1]; rfl) (fun _ U U' hal hh h => ⟨h.1, h.2.1.mv hal hh, h.2.2.1.al hal, h.2.2.2.1.al hal, h.2.2.2.2.1.mv hal hh, h.2.2.2.2.2.1.there hal hh, h.2.2.2.2.2.2⟩) (fun r U U' V V' h1 hal h2 h => Got.mv r U U' V V' h1 hal h2 h) ?_
  intro p e s m args below meth c s₁ X0 hexec hbytes hml hret hlk hnm hown hh0 W hP
  obtain ⟨rfl, hB, f1, f2, hA, s1, hz, l0, l1, l2, hp⟩ := hP
  have a31 := hA.1.2.2.2
  have c1 : Steps p.tables e below (s₁.setTop (entryFrame m #[.ref a, .ref b, .int (Int32.ofNat o), .int (Int32.ofNat len), .null] 6)) (s₁.setTop (mkF m 0 #[.val (.ref a), .val (.ref b), .val (.int (Int32.ofNat o)), .val (.int (Int32.ofNat len)), .val .null, .unset] [])) := entry rfl
  have c2 : Steps p.tables e below (s₁.setTop (entryFrame m #[.ref a, .ref b, .int (Int32.ofNat o), .int (Int32.ofNat len), .null] 6)) (s₁.setTop (mkF m 1 #[.val (.ref a), .val (.ref b), .val (.int (Int32.ofNat o)), .val (.int (Int32.ofNat len)), .val .null, .unset] [.ref a])) := c1.trans (by
    refine XS.aloadN X0.here hexec rfl (hb hbytes d0) rfl rfl ?_
    exact Steps.refl _)
  obtain ⟨T3, X3, q3, st3⟩ := X0.oinit hexec hown (wks W (objW "java/lang/String" 1)) (g := (mkF m 1 #[.val (.ref a), .val (.ref b), .val (.int (Int32.ofNat o)), .val (.int (Int32.ofNat len)), .val .null, .unset] [.ref a])) rfl (by rw [hml]; rfl) (rest := []) rfl (hb hbytes d1) (W := 0) (by show 2 * 0 + 0 ≤ _; decide) (Nat.le_of_ble_eq_true rfl) (Nat.le_of_ble_eq_true rfl)
  have hh3 := q3.trans hh0
  have c4 : Steps p.tables e below (s₁.setTop (entryFrame m #[.ref a, .ref b, .int (Int32.ofNat o), .int (Int32.ofNat len), .null] 6)) (T3.setTop (mkF m 27 #[.val (.ref a), .val (.ref b), .val (.int (Int32.ofNat o)), .val (.int (Int32.ofNat len)), .val .null, .unset] [])) := (c2.trans (st3 _ (Steps.refl _))).trans (by
    refine XS.iloadN X3.here hexec rfl (hb hbytes d4) rfl ?_
    refine XS.ifYes X3.here hexec rfl (pc0 := 5) rfl (hb hbytes d5) rfl (i0_ne_t (nz32 (by omega) l0)) (by decide) rfl ?_
    exact Steps.refl _)
  obtain ⟨T5, X5, q5, st5⟩ := X3.sget hexec hown (wk W (.fieldLink "java/lang/String" 38 "java/lang/String" "COMPACT_STRINGS" "Z")) s1 (fun _ _ h => by rw [hh3]; exact h) (g := (mkF m 27 #[.val (.ref a), .val (.ref b), .val (.int (Int32.ofNat o)), .val (.int (Int32.ofNat len)), .val .null, .unset] [])) rfl (hb hbytes d27)
  have hh5 := q5.trans hh3
  have c6 : Steps p.tables e below (s₁.setTop (entryFrame m #[.ref a, .ref b, .int (Int32.ofNat o), .int (Int32.ofNat len), .null] 6)) (T5.setTop (mkF m 30 #[.val (.ref a), .val (.ref b), .val (.int (Int32.ofNat o)), .val (.int (Int32.ofNat len)), .val .null, .unset] [.int z])) := c4.trans (st5 _ (Steps.refl _))
  have c7 : Steps p.tables e below (s₁.setTop (entryFrame m #[.ref a, .ref b, .int (Int32.ofNat o), .int (Int32.ofNat len), .null] 6)) (T5.setTop (mkF m 36 #[.val (.ref a), .val (.ref b), .val (.int (Int32.ofNat o)), .val (.int (Int32.ofNat len)), .val .null, .unset] [.int (Int32.ofNat len), .int (Int32.ofNat o), .ref b])) := c6.trans (by
    refine XS.ifNo X5.here hexec rfl (hb hbytes d30) rfl (i0_eq_f hz) ?_
    refine XS.aloadN X5.here hexec rfl (hb hbytes d33) rfl rfl ?_
    refine XS.iloadN X5.here hexec rfl (hb hbytes d34) rfl ?_
    refine XS.iloadN X5.here hexec rfl (hb hbytes d35) rfl ?_
    exact Steps.refl _)
  obtain ⟨v8, T8, X8, E8, g8⟩ := X5.callS hexec (Cmp3.law l b A o len) hown (wks W (staticW "java/lang/String" 177 Cmp3.yN)) (wk W Cmp3.tab) (W := 0) (Nat.le_of_ble_eq_true rfl) (Nat.le_of_ble_eq_true rfl) (Nat.le_refl _) (by show 0 + len ≤ len; omega) (g := (mkF m 36 #[.val (.ref a), .val (.ref b), .val (.int (Int32.ofNat o)), .val (.int (Int32.ofNat len)), .val .null, .unset] [.int (Int32.ofNat len), .int (Int32.ofNat o), .ref b])) rfl (by rw [hml]; rfl) c7 (argsL := [.ref b, .int (Int32.ofNat o), .int (Int32.ofNat len)]) (rest := []) rfl rfl (by show 2 * 0 + 0 ≤ _; decide) (hb hbytes d36) (⟨rfl, hA.mv X5.warmed.alike hh5, l1, l2, hp⟩)
  obtain ⟨e8, z8⟩ := E8
  obtain ⟨rfl, N, n1, n2, n3, n4, n5, n6⟩ := NewArr.mv _ T5 s _ _ hh5.symm (Vm.Alike.refl _) rfl e8
  rw [hh5] at z8
  have hB1 := hB.keep X8.warmed.alike (n6 _ _ hB.1)
  have hne : s.heap.size ≠ a := (Nat.ne_of_lt (Array.getElem?_eq_some_iff.mp hB.1).1).symm
  have c9 : Steps p.tables e below (s₁.setTop (entryFrame m #[.ref a, .ref b, .int (Int32.ofNat o), .int (Int32.ofNat len), .null] 6)) (T8.setTop (mkF m 39 #[.val (.ref a), .val (.ref b), .val (.int (Int32.ofNat o)), .val (.int (Int32.ofNat len)), .val .null, .unset] [.ref s.heap.size])) := g8
  have c10 : Steps p.tables e below (s₁.setTop (entryFrame m #[.ref a, .ref b, .int (Int32.ofNat o), .int (Int32.ofNat len), .null] 6)) (T8.setTop (mkF m 45 #[.val (.ref a), .val (.ref b), .val (.int (Int32.ofNat o)), .val (.int (Int32.ofNat len)), .val .null, .val (.ref s.heap.size)] [.int (Int32.ofNat N.slots.size), .ref s.heap.size, .ref a])) := by
    have hc : Steps p.tables e below (s₁.setTop (entryFrame m #[.ref a, .ref b, .int (Int32.ofNat o), .int (Int32.ofNat len), .null] 6)) (T8.setTop (mkF m 45 #[.val (.ref a), .val (.ref b), .val (.int (Int32.ofNat o)), .val (.int (Int32.ofNat len)), .val .null, .val (.ref s.heap.size)] [.int (Int32.ofNat len), .ref s.heap.size, .ref a])) := c9.trans (by
      refine XS.astore X8.here hexec rfl (hb hbytes d39) rfl rfl rfl ?_
      refine XS.aloadN X8.here hexec rfl (hb hbytes d41) rfl rfl ?_
      refine XS.aload X8.here hexec rfl (hb hbytes d42) rfl rfl ?_
      refine XS.iloadN X8.here hexec rfl (hb hbytes d44) rfl ?_
      exact Steps.refl _)
    rw [n4]; exact hc
  obtain ⟨v11, T11, X11, E11, g11⟩ := X8.callS hexec (CodL.law l s.heap.size N) hown (wks W (staticW "java/lang/String" 47 CodL.yN)) (wk W CodL.tab) (W := 1) (Nat.le_of_ble_eq_true rfl) (Nat.le_of_ble_eq_true rfl) (Nat.le_refl _) (by show 0 + len + 0 ≤ len; omega) (g := (mkF m 45 #[.val (.ref a), .val (.ref b), .val (.int (Int32.ofNat o)), .val (.int (Int32.ofNat len)), .val .null, .val (.ref s.heap.size)] [.int (Int32.ofNat N.slots.size), .ref s.heap.size, .ref a])) rfl (by rw [hml]; rfl) c10 (argsL := [.ref s.heap.size, .int (Int32.ofNat N.slots.size)]) (rest := [.ref a]) rfl rfl (by show 2 * 0 + (1 + 0) ≤ _; decide) (hb hbytes d45) (⟨rfl, n1⟩)
  obtain ⟨rfl, q11⟩ := E11
  have hB11 := hB1.mv (X8.warmed.alike.symm.trans X11.warmed.alike) q11
  have c12 : Steps p.tables e below (s₁.setTop (entryFrame m #[.ref a, .ref b, .int (Int32.ofNat o), .int (Int32.ofNat len), .null] 6)) (T11.setTop (mkF m 48 #[.val (.ref a), .val (.ref b), .val (.int (Int32.ofNat o)), .val (.int (Int32.ofNat len)), .val .null, .val (.ref s.heap.size)] [.int 0, .ref a])) := g11
  obtain ⟨T13, X13, p13, bl13, sl13, st13⟩ := X11.finit hexec hown (wk W (.fieldLink "java/lang/String" 15 "java/lang/String" "coder" "B")) (Or.inr ⟨_, (wk W (.laysFinal "java/lang/String" "java/lang/String" "coder" "B"))⟩) (Or.inl ⟨rfl, hnm⟩) f2 (Or.inl rfl) hB11 (t := .byte) (by decide +kernel) rfl (g := (mkF m 48 #[.val (.ref a), .val (.ref b), .val (.int (Int32.ofNat o)), .val (.int (Int32.ofNat len)), .val .null, .val (.ref s.heap.size)] [.int 0, .ref a])) rfl (rest := []) rfl (hb hbytes d48)
  have c14 : Steps p.tables e below (s₁.setTop (entryFrame m #[.ref a, .ref b, .int (Int32.ofNat o), .int (Int32.ofNat len), .null] 6)) (T13.setTop (mkF m 54 #[.val (.ref a), .val (.ref b), .val (.int (Int32.ofNat o)), .val (.int (Int32.ofNat len)), .val .null, .val (.ref s.heap.size)] [.ref s.heap.size, .ref a])) := (c12.trans (st13 _ (Steps.refl _))).trans (by
    refine XS.aloadN X13.here hexec rfl (hb hbytes d51) rfl rfl ?_
    refine XS.aload X13.here hexec rfl (hb hbytes d52) rfl rfl ?_
    exact Steps.refl _)
  obtain ⟨T15, X15, p15, bl15, sl15, st15⟩ := X13.finit hexec hown (wk W (.fieldLink "java/lang/String" 9 "java/lang/String" "value" "[B")) (Or.inr ⟨_, (wk W (.laysFinal "java/lang/String" "java/lang/String" "value" "[B"))⟩) (Or.inl ⟨rfl, hnm⟩) f1 (Or.inl rfl) bl13 (t := (.array .byte)) (by decide +kernel) rfl (g := (mkF m 54 #[.val (.ref a), .val (.ref b), .val (.int (Int32.ofNat o)), .val (.int (Int32.ofNat len)), .val .null, .val (.ref s.heap.size)] [.ref s.heap.size, .ref a])) rfl (rest := []) rfl (hb hbytes d54)
  have c16 : Steps p.tables e below (s₁.setTop (entryFrame m #[.ref a, .ref b, .int (Int32.ofNat o), .int (Int32.ofNat len), .null] 6)) (T15.setTop (mkF m 57 #[.val (.ref a), .val (.ref b), .val (.int (Int32.ofNat o)), .val (.int (Int32.ofNat len)), .val .null, .val (.ref s.heap.size)] [])) := c14.trans (st15 _ (Steps.refl _))
  have ap := apart (Or.inr ⟨_, (wk W (.laysFinal "java/lang/String" "java/lang/String" "value" "[B"))⟩) (Or.inr ⟨_, (wk W (.laysFinal "java/lang/String" "java/lang/String" "coder" "B"))⟩) f1 f2 (t₁ := .array .byte) (t₂ := .byte) (by decide +kernel) (by decide +kernel) (by decide)
  have al := X8.warmed.alike.symm.trans X15.warmed.alike
  have n7 : T11.heap[s.heap.size]? = some N := by rw [q11]; exact n1.1
  exact ⟨T15, none, _, _, _, X15, by simp, rfl, by omega, (fun _ => rfl), ⟨rfl, _, N, bl15, ((Same.refl D _).set _ (by simp)).set _ (by simp), sl15, (Cell.slots_setSlot_ne _ ap).trans sl13, n1.keep al (p15.other hne (p13.other hne n7)), n2, by rw [al.findClass]; exact n3, n4, n5, fun y c h1 h2 => p15.other h1 (p13.other h1 (by rw [q11]; exact n6 y c h2)), by rw [p15.2.2, p13.2.2, q11]; exact z8⟩, fun fs hl => c16.trans (X15.returnOut hexec hret (hb hbytes d57) hl)⟩
end New4
namespace New1
def yN : MethodName := ⟨"java/lang/String", "<init>", "([C)V"⟩
abbrev yB : ByteArray := jdk_42_method_3_code
theorem d0 : decode yB 0 = .ok (.aload_n 0, 1) := by decide +kernel
theorem d1 : decode yB 1 = .ok (.aload_n 1, 1) := by decide +kernel
theorem d2 : decode yB 2 = .ok (.iconst 0, 1) := by decide +kernel
theorem d3 : decode yB 3 = .ok (.aload_n 1, 1) := by decide +kernel
theorem d4 : decode yB 4 = .ok (.arraylength, 1) := by decide +kernel
theorem d5 : decode yB 5 = .ok (.aconst_null, 1) := by decide +kernel
theorem d6 : decode yB 6 = .ok (.invokespecial 27, 3) := by decide +kernel
theorem d9 : decode yB 9 = .ok (.return_, 1) := by decide +kernel
def site : List Cond := [New4.tab] ++ initW "java/lang/String" 27 New4.yN
def tab : Cond := tabOf yN yB 2 none site
def P (a : Addr) (D : Cell) (fV fC : Field) (b : Addr) (A : Cell) (z : Int32) (args : Array Value) (s : State) : Prop := args = #[.ref a, .ref b] ∧ Blank "java/lang/String" a D s ∧ Found "java/lang/String" "value" "[B" fV s ∧ Found "java/lang/String" "coder" "B" fC s ∧ Ch b A s ∧ StaticIs s "java/lang/String" "COMPACT_STRINGS" "Z" (.int z) ∧ ¬ z = 0 ∧ 0 < A.slots.size ∧ A.slots.size ≤ 536870912 ∧ ∀ i, i < A.slots.size → ¬ 255 < cv A i
def E (a : Addr) (D : Cell) (fV fC : Field) (A : Cell) (r : Option Value) (s u : State) : Prop := Got a D fV fC A 0 A.slots.size r s u
/-- new String(chars), not empty, no char above 255: a Latin-1 String of their low bytes -/
theorem law (l : Launch) (a : Addr) (D : Cell) (fV fC : Field) (b : Addr) (A : Cell) (z : Int32) : Law l yN 2 1 3 52 yB 2 none site (P a D fV fC b A z) (E a D fV fC A) [⟨a, fC.slot⟩, ⟨a, fV.slot⟩] 1 A.slots.size := by
  refine Law.of_walk (plainFor_of_name (by decide +kernel)) (by decide +kernel) (by decide +kernel) (by decide) (fun _ _ h => by rw [h.1]; rfl) (fun _ U U' hal hh h => ⟨h.1, h.2.1.mv hal hh, h.2.2.1.al hal, h.2.2.2.1.al hal, h.2.2.2.2.1.mv hal hh, h.2.2.2.2.2.1.there hal hh, h.2.2.2.2.2.2⟩) (fun r U U' V V' h1 hal h2 h => Got.mv r U U' V V' h1 hal h2 h) ?_
  intro p e s m args below meth c s₁ X0 hexec hbytes hml hret hlk hnm hown hh0 W hP
  obtain ⟨rfl, hB, f1, f2, hA, s1, hz, l0, l2, hp⟩ := hP
  have c1 : Steps p.tables e below (s₁.setTop (entryFrame m #[.ref a, .ref b] 2)) (s₁.setTop (mkF m 0 #[.val (.ref a), .val (.ref b)] [])) := entry rfl
  have c2 : Steps p.tables e below (s₁.setTop (entryFrame m #[.ref a, .ref b] 2)) (s₁.setTop (mkF m 6 #[.val (.ref a), .val (.ref b)] [.null, .int (Int32.ofNat A.slots.size), .int 0, .ref b, .ref a])) := c1.trans (by
    refine XS.aloadN X0.here hexec rfl (hb hbytes d0) rfl rfl ?_
    refine XS.aloadN X0.here hexec rfl (hb hbytes d1) rfl rfl ?_
    refine iconstV X0.here hexec rfl 0 (hb hbytes d2) (by decide) ?_
    refine XS.aloadN X0.here hexec rfl (hb hbytes d3) rfl rfl ?_
    refine X0.alen hexec (hA.1.mv X0.warmed.alike hh0) rfl rfl (hb hbytes d4) ?_
    refine XS.aconstNull X0.here hexec rfl (hb hbytes d5) ?_
    exact Steps.refl _)
  obtain ⟨v3, T3, X3, E3, g3⟩ := X0.callN hexec (New4.law l a D fV fC b A z 0 A.slots.size) rfl hown (wks W (initW "java/lang/String" 27 New4.yN)) (W New4.tab (by simp only [site, List.mem_cons, List.mem_append, true_or, or_true])) (W := 0) (Nat.le_of_ble_eq_true rfl) (Nat.le_of_ble_eq_true rfl) (Nat.le_refl _) (by show 0 + A.slots.size ≤ A.slots.size; omega) (g := (mkF m 6 #[.val (.ref a), .val (.ref b)] [.null, .int (Int32.ofNat A.slots.size), .int (Int32.ofNat 0), .ref b, .ref a])) rfl (by rw [hml]; rfl) c2 (argsL := [.ref b, .int (Int32.ofNat 0), .int (Int32.ofNat A.slots.size), .null]) (rest := []) rfl rfl (by show 2 * 0 + 0 ≤ _; decide) (hb hbytes d6) (⟨rfl, hB.mv X0.warmed.alike hh0, f1.al X0.warmed.alike, f2.al X0.warmed.alike, hA.mv X0.warmed.alike hh0, s1.there X0.warmed.alike hh0, hz, l0, by omega, l2, fun i hi => by rw [Nat.zero_add]; exact hp i hi⟩)
  have e0 := Got.mv _ s₁ s _ _ hh0.symm (Vm.Alike.refl _) rfl E3
  obtain rfl := e0.1
  have c4 : Steps p.tables e below (s₁.setTop (entryFrame m #[.ref a, .ref b] 2)) (T3.setTop (mkF m 9 #[.val (.ref a), .val (.ref b)] [])) := g3
  exact ⟨T3, none, _, _, _, X3, by simp, rfl, by omega, (fun _ => rfl), e0, fun fs hl => c4.trans (X3.returnOut hexec hret (hb hbytes d9) hl)⟩
theorem pays {l : Launch} {R : Room} {p : Program} {e : Env} {below : List Frame} {s : State} {sargs : Array Value} {len W : Nat} (a : Addr) (D : Cell) (fV fC : Field) (b : Addr) (A : Cell) (z : Int32) (htab : tab.before sargs s = true) (hfr : 4 ≤ R.frames) (hlo : W + 65 ≤ R.locals) :
    Back l R p e below s sargs yN len W (fun A₁ a₁ => A₁.cells + 1 ≤ R.cells ∧ A₁.slots + A.slots.size ≤ R.slots ∧ P a D fV fC b A z a₁ A₁.U) (fun A₁ _ v₁ B₁ => E a D fV fC A v₁ A₁.U B₁.U ∧ B₁.locs = A₁.locs ++ [⟨a, fC.slot⟩, ⟨a, fV.slot⟩] ∧ B₁.cells = A₁.cells + 1 ∧ B₁.slots = A₁.slots + A.slots.size) :=
  (law l a D fV fC b A z).pays htab hfr (by omega)
end New1
/-- the byte, read back as charAt reads it, is the char -/
theorem lo8_mask {x : Int32} (h0 : ¬ x < 0) (h1 : ¬ 255 < x) : lo8 x &&& 255 = x := by
  have t : ∀ k : Fin 256, lo8 (Int32.ofNat k.val) &&& 255 = Int32.ofNat k.val := by decide +kernel
  rw [Int32.lt_iff_toInt_lt] at h0 h1
  have e0 : (0 : Int32).toInt = 0 := rfl
  have e1 : (255 : Int32).toInt = 255 := rfl
  obtain ⟨k, hk⟩ : ∃ k : Nat, x.toInt = k := ⟨x.toInt.toNat, by omega⟩
  have hx : x = Int32.ofNat k := Int32.toInt_inj.mp (by rw [hk, Int32.toInt_ofNat_small (by omega)])
  rw [hx]
  exact t ⟨k, by omega⟩
end StrChars
namespace StrChars.Road
open Jvm Sem ClassFile Op Lib Jvm.Stand Jvm.Free Jvm.Free.XT
open Jvm.Lib.Cold (StaticIs)
abbrev ST : String := "java/lang/String"
/-- every table word that New1's law asks, flat -/
abbrev words : List Jvm.Cond := [.code New1.yN New1.yB 2 none, .initialized ST, .methodLink ST 27 New4.yN, .instanceMethod New4.yN,
  .code New4.yN New4.yB 6 none, .fieldLink ST 38 ST "COMPACT_STRINGS" "Z", .laysFinal ST ST "value" "[B", .fieldLink ST 9 ST "value" "[B", .laysFinal ST ST "coder" "B", .fieldLink ST 15 ST "coder" "B",
  .methodLink ST 1 Lib.objectInit, .instanceMethod Lib.objectInit, .code Lib.objectInit ⟨#[0xb1]⟩ 1 none, .methodLink ST 177 Cmp3.yN, .static Cmp3.yN, .methodLink ST 47 CodL.yN, .static CodL.yN,
  .code Cmp3.yN Cmp3.yB 6 (some (.array .byte)), .initialized U16, .arrayClass .byte, .methodLink U16 115 Cmp5.yN, .static Cmp5.yN, .code Cmp5.yN Cmp5.yB 7 (some .int), .code CodL.yN CodL.yB 2 (some .byte)]
theorem tab_of {a : Array Value} {s : State} (h : ∀ w ∈ words, w.before a s = true) : New1.tab.before a s = true := by
  have h5 : Cmp5.tab.before a s = true := unparts (wk h (.code Cmp5.yN Cmp5.yB 7 (some .int))) (wks h (.initialized Cmp5.yN.cls :: Cmp5.site))
  have hc : CodL.tab.before a s = true := unparts (wk h (.code CodL.yN CodL.yB 2 (some .byte))) (wks h (.initialized CodL.yN.cls :: CodL.site))
  have q5 : ∀ w ∈ Cmp5.tab :: words, w.before a s = true := fun w hw => (List.mem_cons.mp hw).elim (fun e => e ▸ h5) (h w)
  have h3 : Cmp3.tab.before a s = true := unparts (wk q5 (.code Cmp3.yN Cmp3.yB 6 (some (.array .byte)))) (wks q5 (.initialized Cmp3.yN.cls :: Cmp3.site))
  have q3 : ∀ w ∈ Cmp3.tab :: CodL.tab :: words, w.before a s = true := fun w hw => (List.mem_cons.mp hw).elim (fun e => e ▸ h3) fun hw => (List.mem_cons.mp hw).elim (fun e => e ▸ hc) (h w)
  have h4 : New4.tab.before a s = true := unparts (wk q3 (.code New4.yN New4.yB 6 none)) (wks q3 (.initialized New4.yN.cls :: New4.site))
  have q4 : ∀ w ∈ New4.tab :: words, w.before a s = true := fun w hw => (List.mem_cons.mp hw).elim (fun e => e ▸ h4) (h w)
  exact unparts (wk q4 (.code New1.yN New1.yB 2 none)) (wks q4 (.initialized New1.yN.cls :: New1.site))
/-- the words ride from the start Z to the walk's own state -/
theorem moved {Z s : State} {a0 args : Array Value} (hZ : Z.Warmed39 s.vm) (hw : ∀ d ∈ words, d.before a0 Z = true) : ∀ d ∈ words, d.before args s = true := fun d hd => by
  have q := hw d hd
  have t : ∀ d ∈ words, d = .arrayClass .byte ∨ (d.onTables && d.keepsFace) = true := by decide +kernel
  rcases t d hd with rfl | t
  · exact RoadKit.mvA hZ q
  · exact RoadKit.mv hZ q t
/-- WHAT COMES BACK, over the tables of the start Z: h the heap at the call, h' behind it -/
def Q (Z : State) (x : Addr) (A : Cell) (h : Heap) (v : Option Value) (h' : Heap) (L : List Loc) : Prop := v = none ∧ (∀ y ∈ L, y.base = x) ∧ RoadKit.Keep h h' [x] ∧ h'.size = h.size + 1 ∧ RoadKit.Exa Z h' x ST ∧ RoadKit.Fld Z h' x ST "value" "[B" (.ref h.size) ∧ RoadKit.Fld Z h' x ST "coder" "B" (.int 0) ∧
  (∃ V : Cell, RoadKit.Arr Z h' h.size V .byte ∧ V.vm = .none ∧ Z.vm.findClass "[B" = some V.cls ∧ V.slots.size = A.slots.size ∧ ∀ j, j < A.slots.size → V.slots[j]? = some (.int (lo8 (cv A j)))) ∧
  ∀ (O n d : String) (w : Value), RoadKit.Fld Z h x O n d w → RoadKit.slotOf Z O n d ≠ RoadKit.slotOf Z ST "value" "[B" → RoadKit.slotOf Z O n d ≠ RoadKit.slotOf Z ST "coder" "B" → RoadKit.Fld Z h' x O n d w
/-- **new String(chars) AT A CALL, IN THE ROAD'S FORM**: for specialBack behind newO: x the fresh String, b the char[] with the cell A -/
theorem back {p : Program} {l : Launch} {e : Env} {R : Room} {s : State} {args : Array Value} {below : List Frame} {len W : Nat} {Z : State} {a0 : Array Value} {h : Heap} (hZ : Z.Warmed39 s.vm) (hw : ∀ d ∈ words, d.before a0 Z = true) {kI : Nat} (wi : (Jvm.Cond.instantiable ST kI).before a0 Z = true)
    {x b : Addr} {A : Cell} {z : Int32} {v0 c0 : Value} (E : RoadKit.Exa Z h x ST) (V : RoadKit.Fld Z h x ST "value" "[B" v0) (C : RoadKit.Fld Z h x ST "coder" "B" c0) (K : RoadKit.Arr Z h b A .char) (hty : Typed .char A) (S : RoadKit.Sta Z h ST "COMPACT_STRINGS" "Z" (.int z)) (hz : ¬ z = 0)
    (l0 : 0 < A.slots.size) (l2 : A.slots.size ≤ 536870912) (hp : ∀ i, i < A.slots.size → ¬ 255 < cv A i) (hfr : 4 ≤ R.frames) (hlo : W + 65 ≤ R.locals) :
    Back l R p e below s args New1.yN len W (fun P a => a = #[.ref x, .ref b] ∧ P.U.heap = h ∧ P.cells + 1 ≤ R.cells ∧ P.slots + A.slots.size ≤ R.slots)
      (fun P _ v B => ∃ L, Q Z x A h v B.U.heap L ∧ B.locs = P.locs ++ L ∧ B.cells = P.cells + 1 ∧ B.slots = P.slots + A.slots.size) := by
  intro m meth c P g ig mk a X hg hsize hdg hW hn hp'
  obtain ⟨rfl, rfl, r1, r2⟩ := hp'
  have al : Z.vm.Alike P.U.vm := hZ.alike.trans X.warmed.alike
  obtain ⟨D, cfV, kV, iV, fV, hD, gV, stV, knV, obV, asV, slV⟩ := id V
  obtain ⟨D', cfC, kC, iC, fC, hD', gC, stC, -, -, asC, slC⟩ := id C
  cases hD.symm.trans hD'
  obtain ⟨D2, kD, e1, e2, e3, e4, e5⟩ := id E
  cases hD.symm.trans e1
  obtain ⟨c2, k2, i1, i2, i3, -⟩ := Cond.instantiable_spec wi
  cases e2.symm.trans i1
  cases e3.symm.trans i2
  obtain ⟨kU, u1, u2⟩ := al.2.2 _ _ e3
  have hB : Blank ST x D P.U := ⟨hD, ⟨knV, fun q hq => by rw [hq] at obV; cases obV⟩, by rw [al.findClass]; exact e2, kU, u1, by rw [u2]; exact i3, by rw [u2]; exact e5 i3⟩
  have F1 : Found ST "value" "[B" fV P.U := ⟨SBG.found_only al ⟨cfV, kV, iV, gV⟩, stV⟩
  have F2 : Found ST "coder" "B" fC P.U := ⟨SBG.found_only al ⟨cfC, kC, iC, gC⟩, stC⟩
  have hA : Ch b A P.U := ⟨⟨K.1, State.isArrayOf_alike al K.2.1, K.2.2, by omega⟩, hty⟩
  have hS : StaticIs P.U ST "COMPACT_STRINGS" "Z" (.int z) := by
    obtain ⟨cfS, iS, kS, fS, st, cS, t1, t2, t3, t4, t5, t6, t7⟩ := S
    exact StaticIs.there (s := { Z with heap := P.U.heap }) ⟨cfS, iS, kS, fS, st, cS, t1, t2, t3, t4, t5, (fun q => by rw [q] at t6; cases t6), t7⟩ al rfl
  obtain ⟨v, B, X', ⟨⟨hv, E', V', q1, q2, q3, q4, q5, q6, q7, q8, q9, q10, q11⟩, hl, hc, hs⟩, st⟩ := New1.pays x D fV fC b A z (tab_of (moved hZ hw)) hfr hlo m meth c P g ig mk _ X hg hsize hdg hW hn ⟨r1, r2, rfl, hB, F1, F2, hA, hS, hz, l0, l2, hp⟩
  have al' : Z.vm.Alike B.U.vm := hZ.alike.trans X'.warmed.alike
  have hsz : E'.slots.size = D.slots.size := by
    obtain ⟨-, -, -, kB, w1, w2, w3⟩ := q1
    obtain ⟨kB', y1, y2⟩ := al'.2.2 _ _ e3
    rw [q2.2.1] at w1
    cases w1.symm.trans y1
    rw [w3, e5 i3, y2]
  refine ⟨v, B, X', ⟨_, ⟨hv, ?_, ⟨by omega, fun y cy hy hn' => q10 y cy (by simpa using hn') hy, fun y cy hy => ?_⟩, q11, ⟨E', _, q1.1, by rw [q2.2.1]; exact e2, by rw [q2.2.1]; exact e3, by rw [q2.1]; exact obV, fun _ => by rw [hsz]; exact e5 i3⟩,
    ⟨E', cfV, kV, iV, fV, q1.1, gV, stV, by rw [q2.1]; exact knV, by rw [q2.1]; exact obV, by rw [q2.2.1]; exact asV, q3⟩, ⟨E', cfC, kC, iC, fC, q1.1, gC, stC, by rw [q2.1]; exact knV, by rw [q2.1]; exact obV, by rw [q2.2.1]; exact asC, q4⟩,
    ⟨V', ⟨q5.1, State.isArrayOf_alike al'.symm q5.2.1, q5.2.2.1⟩, q6, by rw [← al'.findClass]; exact q7, q8, fun j hj => by have := q9 j hj; rwa [Nat.zero_add] at this⟩, fun O n d w F n1 n2 => ?_⟩, hl, hc, hs⟩, st⟩
  · intro y hy
    simp only [List.mem_cons, List.not_mem_nil, or_false] at hy
    rcases hy with rfl | rfl <;> rfl
  · by_cases q : y = x
    · subst q
      cases hD.symm.trans hy
      exact ⟨E', q1.1, q2.2.1, q2.1, hsz⟩
    · exact ⟨cy, q10 y cy q hy, rfl, rfl, rfl⟩
  · obtain ⟨D3, cf, k, i, f, g1, g2, g3, g4, g5, g6, g7⟩ := F
    cases hD.symm.trans g1
    simp only [RoadKit.slotOf, g2, gV, gC, Option.map_some, Option.getD_some] at n1 n2
    exact ⟨E', cf, k, i, f, q1.1, g2, g3, by rw [q2.1]; exact g4, by rw [q2.1]; exact g5, by rw [q2.2.1]; exact g6, by rw [q2.2.2 f.slot (by simp [n1, n2])]; exact g7⟩
end StrChars.Road
namespace StrChars.Road
open Jvm Sem ClassFile Op Lib Jvm.Stand Jvm.Free Jvm.Free.XT
/-- WHAT COMES BACK, the byte[] as a list of values -/
def QA (Z : State) (x : Addr) (zn : Int32) (cs : List Int32) (h : Heap) (v : Option Value) (h' : Heap) (L : List Loc) : Prop := v = none ∧ (∀ y ∈ L, y.base = x) ∧ RoadKit.Keep h h' [x] ∧ h'.size = h.size + 1 ∧ RoadKit.Exa Z h' x ST ∧ RoadKit.Fld Z h' x ST "value" "[B" (.ref h.size) ∧ RoadKit.Fld Z h' x ST "coder" "B" (.int 0) ∧
  (∃ kb, Z.vm.findClass "[B" = some kb ∧ RoadKit.Arv Z h' h.size kb .byte zn (cs.map fun c => .int (lo8 c)) (.int 0)) ∧
  ∀ (O n d : String) (w : Value), RoadKit.Fld Z h x O n d w → RoadKit.slotOf Z O n d ≠ RoadKit.slotOf Z ST "value" "[B" → RoadKit.slotOf Z O n d ≠ RoadKit.slotOf Z ST "coder" "B" → RoadKit.Fld Z h' x O n d w
/-- **new String(chars) AT A CALL, THE ARRAYS AS LISTS**: the char[] at b holds cs, not empty, no char above 255 -/
theorem backArv {p : Program} {l : Launch} {e : Env} {R : Room} {s : State} {args : Array Value} {below : List Frame} {len W : Nat} {Z : State} {a0 : Array Value} {h : Heap} (hZ : Z.Warmed39 s.vm) (hw : ∀ d ∈ words, d.before a0 Z = true) {kI : Nat} (wi : (Jvm.Cond.instantiable ST kI).before a0 Z = true)
    {x b : Addr} {k : ClassId} {zn z : Int32} {cs : List Int32} {dv v0 c0 : Value} (E : RoadKit.Exa Z h x ST) (V : RoadKit.Fld Z h x ST "value" "[B" v0) (C : RoadKit.Fld Z h x ST "coder" "B" c0) (K : RoadKit.Arv Z h b k .char zn (cs.map Value.int) dv) (S : RoadKit.Sta Z h ST "COMPACT_STRINGS" "Z" (.int z)) (hz : ¬ z = 0)
    (hlen : zn.toNatClampNeg = cs.length) (h0 : 0 < cs.length) (hbig : cs.length ≤ 536870912) (hall : ∀ c ∈ cs, ¬ 255 < c) (hfr : 4 ≤ R.frames) (hlo : W + 65 ≤ R.locals) :
    Back l R p e below s args New1.yN len W (fun P a => a = #[.ref x, .ref b] ∧ P.U.heap = h ∧ P.cells + 1 ≤ R.cells ∧ P.slots + cs.length ≤ R.slots)
      (fun P _ v B => ∃ L, QA Z x zn cs h v B.U.heap L ∧ B.locs = P.locs ++ L ∧ B.cells = P.cells + 1 ∧ B.slots = P.slots + cs.length) := by
  obtain ⟨A, K1, K2, K3, K4, K5, K6⟩ := K
  have e : A.slots.size = cs.length := K3.trans hlen
  have hat : ∀ (i : Nat) (hi : i < cs.length), A.slots[i]? = some (.int cs[i]) := fun i hi => by rw [K5 i (by omega)]; simp [List.getD_eq_getElem?_getD, hi]
  have hcv : ∀ (i : Nat) (hi : i < cs.length), cv A i = cs[i] := fun i hi => by unfold cv; rw [hat i hi]
  have hty : Typed .char A := fun i v hv => by
    have hi : i < A.slots.size := (Array.getElem?_eq_some_iff.mp hv).1
    have q := K5 i hi
    rw [hv] at q
    rw [Option.some.inj q]
    exact K6 i hi
  refine Back.mono (back hZ hw wi E V C K1 hty S hz (by omega) (by omega) (fun i hi => by rw [hcv i (by omega)]; exact hall _ (List.getElem_mem _)) hfr hlo) (fun P a hp => ⟨hp.1, hp.2.1, hp.2.2.1, by rw [e]; exact hp.2.2.2⟩) (fun P a v B hp hq => ?_)
  obtain ⟨L, ⟨q1, q2, q3, q4, q5, q6, q7, ⟨V', v1, v2, v3, v4, v5⟩, q9⟩, hl, hc, hs⟩ := hq
  refine ⟨L, ⟨q1, q2, q3, q4, q5, q6, q7, ⟨V'.cls, v3, V', v1, rfl, by rw [v4, e, hlen], K4, fun i hi => ?_, fun i hi => ?_⟩, q9⟩, hl, hc, by rw [hs, e]⟩
  · have hi' : i < cs.length := by omega
    rw [v5 i (by omega), hcv i hi']; simp [List.getD_eq_getElem?_getD, hi']
  · have hi' : i < cs.length := by omega
    simp only [List.getD_eq_getElem?_getD, List.getElem?_map, List.getElem?_eq_getElem hi', Option.map_some, Option.getD_some]
    exact fits_lo8 _
end StrChars.Road
namespace StrChars.Road
open Jvm Sem ClassFile Op Lib Jvm.Stand Jvm.Free Jvm.Free.XT
/-- WHAT COMES BACK, in the writer's own shape -/
def QV (Z : State) (x : Addr) (N : Int32) (bs : List Int32) (h : Heap) (n0 : Nat) (v : Option Value) (h' : Heap) (L : List Loc) : Prop := v = none ∧ RoadKit.Fr n0 L ∧ RoadKit.Keep h h' [x] ∧ RoadKit.Exa Z h' x ST ∧ RoadKit.Fld Z h' x ST "coder" "B" (.int 0) ∧
  ∃ (t : Addr) (kb : ClassId), n0 ≤ t ∧ h.size ≤ t ∧ ¬ t = x ∧ RoadKit.Fld Z h' x ST "value" "[B" (.ref t) ∧ RoadKit.Arv Z h' t kb .byte N (bs.map Value.int) (.int 0)
/-- **new String(chars) AT A CALL, FOR THE WRITER**: a char[] of n known ints, each 0 to 255 -/
theorem backV {p : Program} {l : Launch} {e : Env} {R : Room} {s : State} {args : Array Value} {below : List Frame} {len W : Nat} {Z : State} {a0 : Array Value} {h : Heap} (hZ : Z.Warmed39 s.vm) (hw : ∀ d ∈ words, d.before a0 Z = true) {kI : Nat} (wi : (Jvm.Cond.instantiable ST kI).before a0 Z = true)
    {x b : Addr} {kC : ClassId} {cs bs : List Int32} {d v0 c0 : Value} {z N : Int32} {n n0 : Nat} (hx0 : n0 ≤ x) (hh0 : n0 ≤ h.size) (E : RoadKit.Exa Z h x ST) (V : RoadKit.Fld Z h x ST "value" "[B" v0) (C : RoadKit.Fld Z h x ST "coder" "B" c0) (K : RoadKit.Arv Z h b kC .char N (cs.map Value.int) d) (S : RoadKit.Sta Z h ST "COMPACT_STRINGS" "Z" (.int z)) (hz : ¬ z = 0)
    (hn : cs.length = n) (hN : N = Int32.ofNat n) (l0 : 0 < n) (l2 : n ≤ 4000) (hp : ∀ c ∈ cs, ¬ c < 0 ∧ ¬ (255 : Int32) < c) (hb : bs = cs.map (fun c => c.toInt8.toInt32)) (hfr : 4 ≤ R.frames) (hlo : W + 65 ≤ R.locals) :
    Back l R p e below s args (⟨"java/lang/String", "<init>", "([C)V"⟩ : MethodName) len W (fun P a => a = #[.ref x, .ref b] ∧ P.U.heap = h ∧ P.cells + 1 ≤ R.cells ∧ P.slots + n ≤ R.slots)
      (fun P _ v B => ∃ L, QV Z x N bs h n0 v B.U.heap L ∧ B.locs = P.locs ++ L ∧ B.cells = P.cells + 1 ∧ B.slots = P.slots + n) := by
  subst hn hN hb
  refine Back.mono (backArv hZ hw wi E V C K S hz (n32 (by omega)) l0 (by omega) (fun c hc => (hp c hc).2) hfr hlo) (fun P a hp => hp) (fun P a v B hp hq => ?_)
  obtain ⟨L, ⟨q1, q2, q3, q4, q5, q6, q7, ⟨kb, v1, v2⟩, q9⟩, hl, hc, hs⟩ := hq
  exact ⟨L, ⟨q1, fun y hy => by rw [q2 y hy]; exact hx0, q3, q5, q7, h.size, kb, hh0, Nat.le_refl _, Nat.ne_of_gt E.lt, q6, by rw [List.map_map]; exact v2⟩, hl, hc, hs⟩
end StrChars.Road
namespace StrChars
open Jvm Sem ClassFile Op Lib Jvm.Stand Jvm.Free.XT Jvm.Free.ALB Jvm.Free.JM Jvm.Free
open Jvm.Lib.Cold (StaticIs)
def hi8 (x : Int32) : Int32 := lo8 (x >>> ((8 : Int32) &&& 31))
/-- what StringUTF16.getChar makes of two bytes -/
def pairCh (u v : Int32) : Int32 := (((u &&& 255) <<< ((0 : Int32) &&& 31)) ||| ((v &&& 255) <<< ((8 : Int32) &&& 31))).toUInt32.toUInt16.toUInt32.toInt32
theorem shr0 (c : Int32) : c >>> ((0 : Int32) &&& 31) = c := by
  have e : ((0 : Int32) &&& 31) = 0 := by decide
  rw [e]
  apply Int32.toBitVec_inj.mp
  rw [Int32.toBitVec_shiftRight]
  have e1 : ((0 : Int32).toBitVec.smod 32) = 0#32 := by decide
  rw [e1, BitVec.sshiftRight_eq']
  exact BitVec.sshiftRight_zero
theorem lo8_and (x : Int32) : (lo8 x &&& 255).toBitVec.toNat = x.toBitVec.toNat % 256 := by
  have h : (lo8 x).toBitVec = (x.toBitVec.signExtend 8).signExtend 32 := by rw [lo8, Int8.toBitVec_toInt32, Int32.toBitVec_toInt8]
  rw [Int32.toBitVec_and, BitVec.toNat_and, h]
  have e : ((x.toBitVec.signExtend 8).signExtend 32).toNat % 256 = x.toBitVec.toNat % 256 := by
    rw [BitVec.toNat_signExtend]
    have hlt := x.toBitVec.isLt
    simp only [BitVec.toNat_setWidth, BitVec.toNat_signExtend]
    split <;> split <;> omega
  rw [← e]
  exact Nat.and_two_pow_sub_one_eq_mod _ 8
theorem pair_says {c : Int32} (h0 : ¬ c < 0) (h1 : ¬ 65535 < c) : pairCh (lo8 c) (hi8 c) = c := by
  rw [Int32.lt_iff_toInt_lt] at h0 h1
  have e0 : (0 : Int32).toInt = 0 := rfl
  have e1 : (65535 : Int32).toInt = 65535 := rfl
  have hc : c.toInt = c.toBitVec.toNat := by
    have := c.toBitVec.isLt
    have e : c.toInt = c.toBitVec.toInt := rfl
    rw [e] at h0 h1
    rw [e]
    rw [BitVec.toInt_eq_toNat_cond] at h0 h1 ⊢
    split at h0 <;> split <;> omega
  have hn : c.toBitVec.toNat < 65536 := by omega
  have a1 := lo8_and c
  have a2 : (hi8 c &&& 255).toBitVec.toNat = c.toBitVec.toNat / 256 := by
    rw [hi8, lo8_and]
    have e : ((8 : Int32) &&& 31) = 8 := by decide
    rw [e, Int32.toBitVec_shiftRight]
    have e2 : ((8 : Int32).toBitVec.smod 32) = 8#32 := by decide
    rw [e2, BitVec.sshiftRight_eq', BitVec.toNat_sshiftRight_of_msb_false (by rw [BitVec.msb_eq_false_iff_two_mul_lt]; omega)]
    show c.toBitVec.toNat >>> 8 % 256 = _
    rw [Nat.shiftRight_eq_div_pow]
    omega
  unfold pairCh
  apply Int32.toBitVec_inj.mp
  apply BitVec.eq_of_toNat_eq
  have f0 : ((0 : Int32) &&& 31) = 0 := by decide
  have f8 : ((8 : Int32) &&& 31) = 8 := by decide
  rw [f0, f8]
  have g : (((lo8 c &&& 255) <<< (0 : Int32)) ||| ((hi8 c &&& 255) <<< (8 : Int32))).toBitVec.toNat = c.toBitVec.toNat := by
    rw [Int32.toBitVec_or, Int32.toBitVec_shiftLeft, Int32.toBitVec_shiftLeft]
    have s0 : ((0 : Int32).toBitVec.smod 32) = 0#32 := by decide
    have s8 : ((8 : Int32).toBitVec.smod 32) = 8#32 := by decide
    rw [s0, s8, BitVec.toNat_or]
    simp only [BitVec.shiftLeft_eq', BitVec.toNat_shiftLeft, a1, a2]
    show (c.toBitVec.toNat % 256) <<< 0 % 2 ^ 32 ||| (c.toBitVec.toNat / 256) <<< 8 % 2 ^ 32 = _
    rw [Nat.shiftLeft_zero, Nat.mod_eq_of_lt (show c.toBitVec.toNat % 256 < 2 ^ 32 by omega), Nat.mod_eq_of_lt (show (c.toBitVec.toNat / 256) <<< 8 < 2 ^ 32 by rw [Nat.shiftLeft_eq]; omega), Nat.or_comm, ← Nat.shiftLeft_add_eq_or_of_lt (by omega), Nat.shiftLeft_eq]
    omega
  show BitVec.toNat (((((lo8 c &&& 255) <<< (0 : Int32)) ||| ((hi8 c &&& 255) <<< (8 : Int32))).toBitVec.setWidth 16).setWidth 32) = _
  rw [BitVec.toNat_setWidth, BitVec.toNat_setWidth, g]
  omega
end StrChars
namespace StrChars
open Jvm Sem ClassFile Op Lib Jvm.Stand Jvm.Free.XT Jvm.Free.ALB Jvm.Free.JM Jvm.Free
open Jvm.Lib.Cold (StaticIs)
theorem shr1 {n : Nat} (h : 2 * n < 2 ^ 31) : Int32.ofNat (2 * n) >>> ((1 : Int32) &&& 31) = Int32.ofNat n := by
  have e : ((1 : Int32) &&& 31) = 1 := by decide
  rw [e]
  apply Int32.toBitVec_inj.mp
  rw [Int32.toBitVec_shiftRight]
  have e1 : ((1 : Int32).toBitVec.smod 32) = 1#32 := by decide
  have hm : (BitVec.ofNat 32 (2 * n)).toNat = 2 * n := by rw [BitVec.toNat_ofNat, Nat.mod_eq_of_lt (by omega)]
  rw [e1, BitVec.sshiftRight_eq']
  apply BitVec.eq_of_toNat_eq
  show ((BitVec.ofNat 32 (2 * n)).sshiftRight 1).toNat = (BitVec.ofNat 32 n).toNat
  rw [BitVec.toNat_sshiftRight_of_msb_false (by rw [BitVec.msb_eq_false_iff_two_mul_lt, hm]; omega), hm, BitVec.toNat_ofNat, Nat.shiftRight_eq_div_pow]
  omega
/-- charAt's cast of a byte read back -/
def chr8 (u : Int32) : Int32 := (u &&& 255).toUInt32.toUInt16.toUInt32.toInt32
theorem chr8_lo8 {c : Int32} (h0 : ¬ c < 0) (h1 : ¬ 255 < c) : chr8 (lo8 c) = c := by
  have t : ∀ k : Fin 256, (Int32.ofNat k.val).toUInt32.toUInt16.toUInt32.toInt32 = Int32.ofNat k.val := by decide +kernel
  unfold chr8
  rw [lo8_mask h0 h1]
  rw [Int32.lt_iff_toInt_lt] at h0 h1
  have e0 : (0 : Int32).toInt = 0 := rfl
  have e1 : (255 : Int32).toInt = 255 := rfl
  obtain ⟨k, hk⟩ : ∃ k : Nat, c.toInt = k := ⟨c.toInt.toNat, by omega⟩
  have hx : c = Int32.ofNat k := Int32.toInt_inj.mp (by rw [hk, Int32.toInt_ofNat_small (by omega)])
  rw [hx]
  exact t ⟨k, by omega⟩
theorem narrow_ch {c : Int32} (h0 : ¬ c < 0) (h1 : ¬ 65535 < c) : narrow .char (.int c) = .int c := by
  have q : narrow .char (.int (pairCh (lo8 c) (hi8 c))) = .int (pairCh (lo8 c) (hi8 c)) := narrow_c _
  rwa [pair_says h0 h1] at q
/-- the array's cell V codes the n chars f 0 .. f (n - 1) by the coder cd, as the JDK does: coder 1 just where some char is above 255 -/
def Cod (cd : Int32) (n : Nat) (f : Nat → Int32) (V : Cell) : Prop := (cd = 0 ∧ V.slots.size = n ∧ ∀ j, j < n → V.slots[j]? = some (.int (lo8 (f j))) ∧ ¬ 255 < f j) ∨ (cd = 1 ∧ V.slots.size = 2 * n ∧ (∀ j, j < n → V.slots[2 * j]? = some (.int (lo8 (f j))) ∧ V.slots[2 * j + 1]? = some (.int (hi8 (f j)))) ∧ ∃ j, j < n ∧ 255 < f j)
theorem Cod.cd {cd : Int32} {n : Nat} {f : Nat → Int32} {V : Cell} (h : Cod cd n f V) : cd = 0 ∨ cd = 1 := h.imp (fun q => q.1) fun q => q.1
theorem Cod.len {cd : Int32} {n : Nat} {f : Nat → Int32} {V : Cell} (h : Cod cd n f V) (hs : V.slots.size < 2 ^ 31) : Int32.ofNat V.slots.size >>> (cd &&& 31) = Int32.ofNat n := by
  rcases h with ⟨rfl, h, -⟩ | ⟨rfl, h, -⟩
  · rw [shr0, h]
  · rw [h, shr1 (by omega)]
/-- **x is a String of the n chars f 0 .. f (n - 1)**, Latin-1 or UTF-16; its array at t has the cell V -/
def Txt (x t : Addr) (V : Cell) (cd : Int32) (n : Nat) (f : Nat → Int32) (U : State) : Prop := Exact "java/lang/String" x U ∧ Has x "java/lang/String" "value" "[B" (.ref t) U ∧ Has x "java/lang/String" "coder" "B" (.int cd) U ∧ XT.Arr .byte t V U ∧ Cod cd n f V ∧ ∀ j, j < n → ¬ f j < 0 ∧ ¬ 65535 < f j
theorem Txt.mv {x t : Addr} {V : Cell} {cd : Int32} {n : Nat} {f : Nat → Int32} {U U' : State} (h : Txt x t V cd n f U) (hal : U.vm.Alike U'.vm) (hh : U'.heap = U.heap) : Txt x t V cd n f U' := ⟨h.1.mv hal hh, h.2.1.mv hal hh, h.2.2.1.mv hal hh, h.2.2.2.1.mv hal hh, h.2.2.2.2⟩
namespace Cdr
def yN : MethodName := ⟨"java/lang/String", "coder", "()B"⟩
abbrev yB : ByteArray := jdk_42_method_152_code
theorem d0 : decode yB 0 = .ok (.getstatic 38, 3) := by decide +kernel
theorem d3 : decode yB 3 = .ok (.ifCond (.eq) 10, 3) := by decide +kernel
theorem d6 : decode yB 6 = .ok (.aload_n 0, 1) := by decide +kernel
theorem d7 : decode yB 7 = .ok (.getfield 15, 3) := by decide +kernel
theorem d10 : decode yB 10 = .ok (.goto 4, 3) := by decide +kernel
theorem d14 : decode yB 14 = .ok (.ireturn, 1) := by decide +kernel
def site : List Cond := [.fieldLink "java/lang/String" 38 "java/lang/String" "COMPACT_STRINGS" "Z", .fieldLink "java/lang/String" 15 "java/lang/String" "coder" "B"]
def tab : Cond := tabOf yN yB 1 (some .byte) site
def P (x : Addr) (cd z : Int32) (args : Array Value) (s : State) : Prop := args = #[.ref x] ∧ Has x "java/lang/String" "coder" "B" (.int cd) s ∧ (cd = 0 ∨ cd = 1) ∧ StaticIs s "java/lang/String" "COMPACT_STRINGS" "Z" (.int z) ∧ ¬ z = 0
def E (cd : Int32) (r : Option Value) (s u : State) : Prop := XT.PureE (some (.int cd)) r s u
theorem law (l : Launch) (x : Addr) (cd z : Int32) : Law l yN 1 0 0 0 yB 1 (some .byte) site (P x cd z) (E cd) [] 0 0 := by
  refine Law.of_walk (plainFor_of_name (by decide +kernel)) (by decide +kernel) (by decide +kernel) (by decide) (fun _ _ h => by rw [h.1]; rfl) (fun _ U U' hal hh h => ⟨h.1, h.2.1.mv hal hh, h.2.2.1, h.2.2.2.1.there hal hh, h.2.2.2.2⟩) (fun r U U' V V' h1 hal h2 h => XT.PureE.mv r U U' V V' h1 hal h2 h) ?_
  intro p e s m args below meth c s₁ X0 hexec hbytes hml hret hlk hnm hown hh0 W hP
  obtain ⟨rfl, hx, hc, s1, hz⟩ := hP
  have c1 : Steps p.tables e below (s₁.setTop (entryFrame m #[.ref x] 1)) (s₁.setTop (mkF m 0 #[.val (.ref x)] [])) := entry rfl
  obtain ⟨T2, X2, q2, st2⟩ := X0.sget hexec hown (wk W (.fieldLink "java/lang/String" 38 "java/lang/String" "COMPACT_STRINGS" "Z")) s1 (fun _ _ h => by rw [hh0]; exact h) (g := (mkF m 0 #[.val (.ref x)] [])) rfl (hb hbytes d0)
  have hh2 := q2.trans hh0
  have c3 : Steps p.tables e below (s₁.setTop (entryFrame m #[.ref x] 1)) (T2.setTop (mkF m 7 #[.val (.ref x)] [.ref x])) := (c1.trans (st2 _ (Steps.refl _))).trans (by
    refine XS.ifNo X2.here hexec rfl (hb hbytes d3) rfl (i0_eq_f hz) ?_
    refine XS.aloadN X2.here hexec rfl (hb hbytes d6) rfl rfl ?_
    exact Steps.refl _)
  obtain ⟨T4, X4, q4, st4⟩ := X2.hget hexec hown (wk W (.fieldLink "java/lang/String" 15 "java/lang/String" "coder" "B")) (hx.mv X2.warmed.alike hh2) (g := (mkF m 7 #[.val (.ref x)] [.ref x])) rfl (rest := []) rfl (hb hbytes d7)
  have c5 : Steps p.tables e below (s₁.setTop (entryFrame m #[.ref x] 1)) (T4.setTop (mkF m 14 #[.val (.ref x)] [.int cd])) := (c3.trans (st4 _ (Steps.refl _))).trans (by
    refine XS.goto X4.here hexec rfl (pc0 := 10) rfl (hb hbytes d10) (by decide) rfl ?_
    exact Steps.refl _)
  exact ⟨T4, some (.int cd), _, _, _, X4, rfl, rfl, rfl, (fun h => by cases h), ⟨rfl, q4.trans hh2⟩, fun fs hl => c5.trans (X4.ireturnOut hexec hret (by rcases hc with rfl | rfl <;> rfl) (Or.inr (Or.inr (Or.inl rfl))) (hb hbytes d14) hl)⟩
end Cdr
namespace Len
def yN : MethodName := ⟨"java/lang/String", "length", "()I"⟩
abbrev yB : ByteArray := jdk_42_method_54_code
theorem d0 : decode yB 0 = .ok (.aload_n 0, 1) := by decide +kernel
theorem d1 : decode yB 1 = .ok (.getfield 9, 3) := by decide +kernel
theorem d4 : decode yB 4 = .ok (.arraylength, 1) := by decide +kernel
theorem d5 : decode yB 5 = .ok (.aload_n 0, 1) := by decide +kernel
theorem d6 : decode yB 6 = .ok (.invokevirtual 335, 3) := by decide +kernel
theorem d9 : decode yB 9 = .ok (.ishr, 1) := by decide +kernel
theorem d10 : decode yB 10 = .ok (.ireturn, 1) := by decide +kernel
def site : List Cond := [.fieldLink "java/lang/String" 9 "java/lang/String" "value" "[B", Cdr.tab] ++ virtW "java/lang/String" 335 "java/lang/String" Cdr.yN Cdr.yN
def tab : Cond := tabOf yN yB 1 (some .int) site
def P (x t : Addr) (V : Cell) (cd : Int32) (n : Nat) (f : Nat → Int32) (z : Int32) (args : Array Value) (s : State) : Prop := args = #[.ref x] ∧ Txt x t V cd n f s ∧ StaticIs s "java/lang/String" "COMPACT_STRINGS" "Z" (.int z) ∧ ¬ z = 0
def E (n : Nat) (r : Option Value) (s u : State) : Prop := XT.PureE (some (.int (Int32.ofNat n))) r s u
/-- length() of a String of n chars, in either coding -/
theorem law (l : Launch) (x t : Addr) (V : Cell) (cd : Int32) (n : Nat) (f : Nat → Int32) (z : Int32) : Law l yN 1 0 1 13 yB 1 (some .int) site (P x t V cd n f z) (E n) [] 0 0 := by
  refine Law.of_walk (plainFor_of_name (by decide +kernel)) (by decide +kernel) (by decide +kernel) (by decide) (fun _ _ h => by rw [h.1]; rfl) (fun _ U U' hal hh h => ⟨h.1, h.2.1.mv hal hh, h.2.2.1.there hal hh, h.2.2.2⟩) (fun r U U' V V' h1 hal h2 h => XT.PureE.mv r U U' V V' h1 hal h2 h) ?_
  intro p e s m args below meth c s₁ X0 hexec hbytes hml hret hlk hnm hown hh0 W hP
  obtain ⟨rfl, hx, s1, hz⟩ := hP
  have v31 := hx.2.2.2.1.2.2.2
  have c1 : Steps p.tables e below (s₁.setTop (entryFrame m #[.ref x] 1)) (s₁.setTop (mkF m 1 #[.val (.ref x)] [.ref x])) := Steps.trans (entry rfl) (by
    show Steps p.tables e below (s₁.setTop (mkF m 0 #[.val (.ref x)] [])) _
    refine XS.aloadN X0.here hexec rfl (hb hbytes d0) rfl rfl ?_
    exact Steps.refl _)
  obtain ⟨T2, X2, q2, st2⟩ := X0.hget hexec hown (wk W (.fieldLink "java/lang/String" 9 "java/lang/String" "value" "[B")) (hx.mv X0.warmed.alike hh0).2.1 (g := (mkF m 1 #[.val (.ref x)] [.ref x])) rfl (rest := []) rfl (hb hbytes d1)
  have hh2 := q2.trans hh0
  have hx2 := hx.mv X2.warmed.alike hh2
  have c3 : Steps p.tables e below (s₁.setTop (entryFrame m #[.ref x] 1)) (T2.setTop (mkF m 6 #[.val (.ref x)] [.ref x, .int (Int32.ofNat V.slots.size)])) := (c1.trans (st2 _ (Steps.refl _))).trans (by
    refine X2.alen hexec hx2.2.2.2.1 rfl rfl (hb hbytes d4) ?_
    refine XS.aloadN X2.here hexec rfl (hb hbytes d5) rfl rfl ?_
    exact Steps.refl _)
  obtain ⟨v4, T4, X4, E4, g4⟩ := X2.callV hexec (Cdr.law l x cd z) hown (wks W (virtW "java/lang/String" 335 "java/lang/String" Cdr.yN Cdr.yN)) rfl (by decide) (wk W Cdr.tab) (W := 1) (Nat.le_of_ble_eq_true rfl) (Nat.le_of_ble_eq_true rfl) (Nat.le_refl _) (Nat.le_refl _) (hx2.1.fc X2.warmed.alike) hx2.1.is (g := (mkF m 6 #[.val (.ref x)] [.ref x, .int (Int32.ofNat V.slots.size)])) rfl (by rw [hml]; rfl) c3 (argsL := []) (rest := [.int (Int32.ofNat V.slots.size)]) rfl rfl (by show 2 * 0 + (1 + 0) ≤ _; decide) (hb hbytes d6) (⟨rfl, hx2.2.2.1, hx.2.2.2.2.1.cd, s1.there X2.warmed.alike hh2, hz⟩)
  obtain ⟨rfl, q4⟩ := E4
  have c5 : Steps p.tables e below (s₁.setTop (entryFrame m #[.ref x] 1)) (T4.setTop (mkF m 10 #[.val (.ref x)] [.int (Int32.ofNat V.slots.size >>> (cd &&& 31))])) := Steps.trans g4 (by
    refine ishr X4.here hexec rfl (hb hbytes d9) rfl ?_
    exact Steps.refl _)
  rw [hx.2.2.2.2.1.len v31] at c5
  exact ⟨T4, some (.int (Int32.ofNat n)), _, _, _, X4, rfl, rfl, rfl, (fun h => by cases h), ⟨rfl, q4.trans hh2⟩, fun fs hl => c5.trans (X4.ireturnOut hexec hret rfl (Or.inl rfl) (hb hbytes d10) hl)⟩
theorem pays {l : Launch} {R : Room} {p : Program} {e : Env} {below : List Frame} {s : State} {sargs : Array Value} {len W : Nat} (x t : Addr) (V : Cell) (cd : Int32) (n : Nat) (f : Nat → Int32) (z : Int32) (htab : tab.before sargs s = true) (hfr : 2 ≤ R.frames) (hlo : W + 25 ≤ R.locals) :
    Back l R p e below s sargs yN len W (fun A₁ a₁ => A₁.cells + 0 ≤ R.cells ∧ A₁.slots + 0 ≤ R.slots ∧ P x t V cd n f z a₁ A₁.U) (fun A₁ _ v₁ B₁ => E n v₁ A₁.U B₁.U ∧ B₁.locs = A₁.locs ++ [] ∧ B₁.cells = A₁.cells + 0 ∧ B₁.slots = A₁.slots + 0) :=
  (law l x t V cd n f z).pays htab hfr (by omega)
end Len
namespace IsL
def yN : MethodName := ⟨"java/lang/String", "isLatin1", "()Z"⟩
abbrev yB : ByteArray := jdk_42_method_154_code
theorem d0 : decode yB 0 = .ok (.getstatic 38, 3) := by decide +kernel
theorem d3 : decode yB 3 = .ok (.ifCond (.eq) 14, 3) := by decide +kernel
theorem d6 : decode yB 6 = .ok (.aload_n 0, 1) := by decide +kernel
theorem d7 : decode yB 7 = .ok (.getfield 15, 3) := by decide +kernel
theorem d10 : decode yB 10 = .ok (.ifCond (.ne) 7, 3) := by decide +kernel
theorem d13 : decode yB 13 = .ok (.iconst 1, 1) := by decide +kernel
theorem d14 : decode yB 14 = .ok (.goto 4, 3) := by decide +kernel
theorem d17 : decode yB 17 = .ok (.iconst 0, 1) := by decide +kernel
theorem d18 : decode yB 18 = .ok (.ireturn, 1) := by decide +kernel
def site : List Cond := [.fieldLink "java/lang/String" 38 "java/lang/String" "COMPACT_STRINGS" "Z", .fieldLink "java/lang/String" 15 "java/lang/String" "coder" "B"]
def tab : Cond := tabOf yN yB 1 (some .boolean) site
def P (x : Addr) (cd z : Int32) (args : Array Value) (s : State) : Prop := args = #[.ref x] ∧ Has x "java/lang/String" "coder" "B" (.int cd) s ∧ (cd = 0 ∨ cd = 1) ∧ StaticIs s "java/lang/String" "COMPACT_STRINGS" "Z" (.int z) ∧ ¬ z = 0
def E (cd : Int32) (r : Option Value) (s u : State) : Prop := XT.PureE (some (.int (1 - cd))) r s u
theorem law (l : Launch) (x : Addr) (cd z : Int32) : Law l yN 1 0 0 0 yB 1 (some .boolean) site (P x cd z) (E cd) [] 0 0 := by
  refine Law.of_walk (plainFor_of_name (by decide +kernel)) (by decide +kernel) (by decide +kernel) (by decide) (fun _ _ h => by rw [h.1]; rfl) (fun _ U U' hal hh h => ⟨h.1, h.2.1.mv hal hh, h.2.2.1, h.2.2.2.1.there hal hh, h.2.2.2.2⟩) (fun r U U' V V' h1 hal h2 h => XT.PureE.mv r U U' V V' h1 hal h2 h) ?_
  intro p e s m args below meth c s₁ X0 hexec hbytes hml hret hlk hnm hown hh0 W hP
  obtain ⟨rfl, hx, hc, s1, hz⟩ := hP
  have c1 : Steps p.tables e below (s₁.setTop (entryFrame m #[.ref x] 1)) (s₁.setTop (mkF m 0 #[.val (.ref x)] [])) := entry rfl
  obtain ⟨T2, X2, q2, st2⟩ := X0.sget hexec hown (wk W (.fieldLink "java/lang/String" 38 "java/lang/String" "COMPACT_STRINGS" "Z")) s1 (fun _ _ h => by rw [hh0]; exact h) (g := (mkF m 0 #[.val (.ref x)] [])) rfl (hb hbytes d0)
  have hh2 := q2.trans hh0
  have c3 : Steps p.tables e below (s₁.setTop (entryFrame m #[.ref x] 1)) (T2.setTop (mkF m 7 #[.val (.ref x)] [.ref x])) := (c1.trans (st2 _ (Steps.refl _))).trans (by
    refine XS.ifNo X2.here hexec rfl (hb hbytes d3) rfl (i0_eq_f hz) ?_
    refine XS.aloadN X2.here hexec rfl (hb hbytes d6) rfl rfl ?_
    exact Steps.refl _)
  obtain ⟨T4, X4, q4, st4⟩ := X2.hget hexec hown (wk W (.fieldLink "java/lang/String" 15 "java/lang/String" "coder" "B")) (hx.mv X2.warmed.alike hh2) (g := (mkF m 7 #[.val (.ref x)] [.ref x])) rfl (rest := []) rfl (hb hbytes d7)
  have c5 : Steps p.tables e below (s₁.setTop (entryFrame m #[.ref x] 1)) (T4.setTop (mkF m 10 #[.val (.ref x)] [.int cd])) := c3.trans (st4 _ (Steps.refl _))
  have c6 : Steps p.tables e below (s₁.setTop (entryFrame m #[.ref x] 1)) (T4.setTop (mkF m 18 #[.val (.ref x)] [.int (1 - cd)])) := by
    rcases hc with rfl | rfl
    · exact c5.trans (by
        refine XS.ifNo X4.here hexec rfl (hb hbytes d10) rfl (i0_ne_f rfl) ?_
        refine iconstV X4.here hexec rfl 1 (hb hbytes d13) (by decide) ?_
        refine XS.goto X4.here hexec rfl (pc0 := 14) rfl (hb hbytes d14) (by decide) rfl ?_
        exact Steps.refl _)
    · exact c5.trans (by
        refine XS.ifYes X4.here hexec rfl (pc0 := 10) rfl (hb hbytes d10) rfl (i0_ne_t (by decide)) (by decide) rfl ?_
        refine iconstV X4.here hexec rfl 0 (hb hbytes d17) (by decide) ?_
        exact Steps.refl _)
  exact ⟨T4, some (.int (1 - cd)), _, _, _, X4, rfl, rfl, rfl, (fun h => by cases h), ⟨rfl, q4.trans hh2⟩, fun fs hl => c6.trans (X4.ireturnOut hexec hret (by rcases hc with rfl | rfl <;> rfl) (Or.inr (Or.inl rfl)) (hb hbytes d18) hl)⟩
end IsL
namespace LChA
def yN : MethodName := ⟨"java/lang/StringLatin1", "charAt", "([BI)C"⟩
abbrev yB : ByteArray := jdk_43_method_2_code
theorem d0 : decode yB 0 = .ok (.iload_n 1, 1) := by decide +kernel
theorem d1 : decode yB 1 = .ok (.aload_n 0, 1) := by decide +kernel
theorem d2 : decode yB 2 = .ok (.arraylength, 1) := by decide +kernel
theorem d3 : decode yB 3 = .ok (.invokestatic 9, 3) := by decide +kernel
theorem d6 : decode yB 6 = .ok (.aload_n 0, 1) := by decide +kernel
theorem d7 : decode yB 7 = .ok (.iload_n 1, 1) := by decide +kernel
theorem d8 : decode yB 8 = .ok (.baload, 1) := by decide +kernel
theorem d9 : decode yB 9 = .ok (.sipush 255, 3) := by decide +kernel
theorem d12 : decode yB 12 = .ok (.iand, 1) := by decide +kernel
theorem d13 : decode yB 13 = .ok (.i2c, 1) := by decide +kernel
theorem d14 : decode yB 14 = .ok (.ireturn, 1) := by decide +kernel
def site : List Cond := [JO.Str_checkIndex.tab] ++ staticW "java/lang/StringLatin1" 9 JO.Str_checkIndex.yN
def tab : Cond := tabOf yN yB 2 (some .char) site
def P (t : Addr) (V : Cell) (i : Nat) (u : Int32) (fm : Value) (args : Array Value) (s : State) : Prop := args = #[.ref t, .int (Int32.ofNat i)] ∧ XT.Arr .byte t V s ∧ V.slots[i]? = some (.int u) ∧ (StaticIs s "jdk/internal/util/Preconditions" "SIOOBE_FORMATTER" "Ljava/util/function/BiFunction;" fm ∧ fm.isRef = true)
def E (u : Int32) (r : Option Value) (s w : State) : Prop := XT.PureE (some (.int (chr8 u))) r s w
theorem law (l : Launch) (t : Addr) (V : Cell) (i : Nat) (u : Int32) (fm : Value) : Law l yN 2 2 2 27 yB 2 (some .char) site (P t V i u fm) (E u) [] 0 0 := by
  refine Law.of_walk (plainFor_of_name (by decide +kernel)) (by decide +kernel) (by decide +kernel) (by decide) (fun _ _ h => by rw [h.1]; rfl) (fun _ U U' hal hh h => ⟨h.1, h.2.1.mv hal hh, h.2.2.1, h.2.2.2.1.there hal hh, h.2.2.2.2⟩) (fun r U U' V V' h1 hal h2 h => XT.PureE.mv r U U' V V' h1 hal h2 h) ?_
  intro p e s m args below meth c s₁ X0 hexec hbytes hml hret hlk hnm hown hh0 W hP
  obtain ⟨rfl, hV, hu, s1, rf⟩ := hP
  have v31 := hV.2.2.2
  have hi : i < V.slots.size := (Array.getElem?_eq_some_iff.mp hu).1
  have c1 : Steps p.tables e below (s₁.setTop (entryFrame m #[.ref t, .int (Int32.ofNat i)] 2)) (s₁.setTop (mkF m 0 #[.val (.ref t), .val (.int (Int32.ofNat i))] [])) := entry rfl
  have c2 : Steps p.tables e below (s₁.setTop (entryFrame m #[.ref t, .int (Int32.ofNat i)] 2)) (s₁.setTop (mkF m 3 #[.val (.ref t), .val (.int (Int32.ofNat i))] [.int (Int32.ofNat V.slots.size), .int (Int32.ofNat i)])) := c1.trans (by
    refine XS.iloadN X0.here hexec rfl (hb hbytes d0) rfl ?_
    refine XS.aloadN X0.here hexec rfl (hb hbytes d1) rfl rfl ?_
    refine X0.alen hexec (hV.mv X0.warmed.alike hh0) rfl rfl (hb hbytes d2) ?_
    exact Steps.refl _)
  obtain ⟨v3, T3, X3, E3, g3⟩ := X0.callS hexec (JO.Str_checkIndex.law l (Int32.ofNat i) (Int32.ofNat V.slots.size) fm) hown (wks W (staticW "java/lang/StringLatin1" 9 JO.Str_checkIndex.yN)) (wk W JO.Str_checkIndex.tab) (W := 0) (Nat.le_of_ble_eq_true rfl) (Nat.le_of_ble_eq_true rfl) (Nat.le_refl _) (Nat.le_refl _) (g := (mkF m 3 #[.val (.ref t), .val (.int (Int32.ofNat i))] [.int (Int32.ofNat V.slots.size), .int (Int32.ofNat i)])) rfl (by rw [hml]; rfl) c2 (argsL := [.int (Int32.ofNat i), .int (Int32.ofNat V.slots.size)]) (rest := []) rfl rfl (by show 2 * 0 + 0 ≤ _; decide) (hb hbytes d3) (⟨rfl, rf, s1.there X0.warmed.alike hh0, Int32.ofNat_not_neg (by omega), lt32 v31 hi⟩)
  obtain ⟨rfl, q3⟩ := E3
  have hh3 := q3.trans hh0
  have c4 : Steps p.tables e below (s₁.setTop (entryFrame m #[.ref t, .int (Int32.ofNat i)] 2)) (T3.setTop (mkF m 14 #[.val (.ref t), .val (.int (Int32.ofNat i))] [.int (chr8 u)])) := Steps.trans g3 (by
    refine XS.aloadN X3.here hexec rfl (hb hbytes d6) rfl rfl ?_
    refine XS.iloadN X3.here hexec rfl (hb hbytes d7) rfl ?_
    refine X3.aget hexec (hV.mv X3.warmed.alike hh3) rfl hu rfl rfl (hb hbytes d8) ?_
    refine sipushV X3.here hexec rfl 255 (hb hbytes d9) (by decide) ?_
    refine XS.iand X3.here hexec rfl (hb hbytes d12) rfl ?_
    refine i2c X3.here hexec rfl (hb hbytes d13) rfl ?_
    exact Steps.refl _)
  exact ⟨T3, some (.int (chr8 u)), _, _, _, X3, rfl, rfl, rfl, (fun h => by cases h), ⟨rfl, hh3⟩, fun fs hl => c4.trans (X3.ireturnOut hexec hret (narrow_c _) (Or.inr (Or.inr (Or.inr (Or.inl rfl)))) (hb hbytes d14) hl)⟩
end LChA
end StrChars
namespace StrChars.Road
open Jvm Sem ClassFile Op Lib Jvm.Stand Jvm.Free Jvm.Free.XT
open Jvm.Lib.Cold (StaticIs)
theorem consq {a : Array Value} {s : State} {c : Jvm.Cond} {L : List Jvm.Cond} (h0 : c.before a s = true) (h : ∀ w ∈ L, w.before a s = true) : ∀ w ∈ c :: L, w.before a s = true := fun w hw => (List.mem_cons.mp hw).elim (fun e => e ▸ h0) (h w)
/-- the words of String.length(), either coding -/
abbrev wordsLen : List Jvm.Cond := [.code Len.yN Len.yB 1 (some .int), .initialized ST, .fieldLink ST 9 ST "value" "[B", .fieldLink ST 38 ST "COMPACT_STRINGS" "Z", .fieldLink ST 15 ST "coder" "B", .code Cdr.yN Cdr.yB 1 (some .byte), .methodLink ST 335 Cdr.yN, .declares Cdr.yN, .selects ST Cdr.yN Cdr.yN, .instanceMethod Cdr.yN]
theorem tabLen_of {a : Array Value} {s : State} (h : ∀ w ∈ wordsLen, w.before a s = true) : Len.tab.before a s = true := by
  have hc : Cdr.tab.before a s = true := unparts (wk h (.code Cdr.yN Cdr.yB 1 (some .byte))) (wks h (.initialized Cdr.yN.cls :: Cdr.site))
  have q := consq hc h
  exact unparts (wk q (.code Len.yN Len.yB 1 (some .int))) (wks q (.initialized Len.yN.cls :: Len.site))
theorem movedLen {Z s : State} {a0 args : Array Value} (hZ : Z.Warmed39 s.vm) (hw : ∀ d ∈ wordsLen, d.before a0 Z = true) : ∀ d ∈ wordsLen, d.before args s = true := fun d hd => by
  have q := hw d hd
  have t : ∀ d ∈ wordsLen, d = .arrayClass .byte ∨ (d.onTables && d.keepsFace) = true := by decide +kernel
  rcases t d hd with rfl | t
  · exact RoadKit.mvA hZ q
  · exact RoadKit.mv hZ q t
/-- the bytes of the chars cs, low before high -/
def wideBytes : List Int32 → List Value
  | [] => []
  | c :: cs => .int (lo8 c) :: .int (hi8 c) :: wideBytes cs
theorem wide_lo (d : Value) : ∀ (cs : List Int32) (j : Nat), j < cs.length → (wideBytes cs).getD (2 * j) d = .int (lo8 (cs.getD j 0))
  | [], j, h => absurd h (Nat.not_lt_zero j)
  | c :: cs, 0, _ => rfl
  | c :: cs, j + 1, h => by
    have q := wide_lo d cs j (by simpa using h)
    rw [show 2 * (j + 1) = 2 * j + 1 + 1 from by omega]
    simpa [wideBytes] using q
theorem wide_hi (d : Value) : ∀ (cs : List Int32) (j : Nat), j < cs.length → (wideBytes cs).getD (2 * j + 1) d = .int (hi8 (cs.getD j 0))
  | [], j, h => absurd h (Nat.not_lt_zero j)
  | c :: cs, 0, _ => rfl
  | c :: cs, j + 1, h => by
    have q := wide_hi d cs j (by simpa using h)
    rw [show 2 * (j + 1) + 1 = 2 * j + 1 + 1 + 1 from by omega]
    simpa [wideBytes] using q
theorem low_at (d : Value) (cs : List Int32) (j : Nat) (h : j < cs.length) : (cs.map fun c => Value.int (lo8 c)).getD j d = .int (lo8 (cs.getD j 0)) := by
  simp [List.getD_eq_getElem?_getD, h]
/-- an array of N2 bytes vs codes the chars cs by the coder cd -/
def CodA (cs : List Int32) (cd N2 : Int32) (vs : List Value) : Prop := (cd = 0 ∧ N2 = Int32.ofNat cs.length ∧ vs = (cs.map fun c => Value.int (lo8 c)) ∧ ∀ c ∈ cs, ¬ 255 < c) ∨ (cd = 1 ∧ N2 = Int32.ofNat (2 * cs.length) ∧ vs = wideBytes cs ∧ ∃ c ∈ cs, 255 < c)
theorem CodA.cod {cs : List Int32} {cd N2 : Int32} {vs : List Value} {V : Cell} (h : CodA cs cd N2 vs) (hn : 2 * cs.length < 2 ^ 31) (hs : V.slots.size = N2.toNatClampNeg) (hv : RoadKit.Has V vs (.int 0)) : Cod cd cs.length (fun j => cs.getD j 0) V := by
  rcases h with ⟨rfl, rfl, rfl, h⟩ | ⟨rfl, rfl, rfl, c, hc, hw⟩
  · rw [n32 (by omega)] at hs
    exact Or.inl ⟨rfl, hs, fun j hj => ⟨by rw [hv j (by omega), low_at _ _ _ hj], by
      have e : cs.getD j 0 = cs[j] := by simp [List.getD_eq_getElem?_getD, hj]
      show ¬ 255 < cs.getD j 0
      rw [e]; exact h _ (List.getElem_mem _)⟩⟩
  · rw [n32 (by omega)] at hs
    obtain ⟨j, hj, rfl⟩ := List.getElem_of_mem hc
    exact Or.inr ⟨rfl, hs, fun j hj => ⟨by rw [hv _ (by omega), wide_lo _ _ _ hj], by rw [hv _ (by omega), wide_hi _ _ _ hj]⟩, j, hj, by
      have e : cs.getD j 0 = cs[j] := by simp [List.getD_eq_getElem?_getD, hj]
      show 255 < cs.getD j 0
      rw [e]; exact hw⟩
/-- an object of exactly java/lang/String, its two fields found: as the laws ask it -/
theorem strObj {Z U : State} {a0 : Array Value} {kI : Nat} (wi : (Jvm.Cond.instantiable ST kI).before a0 Z = true) (al : Z.vm.Alike U.vm) {x : Addr} {v0 c0 : Value} (E : RoadKit.Exa Z U.heap x ST) (V : RoadKit.Fld Z U.heap x ST "value" "[B" v0) (C : RoadKit.Fld Z U.heap x ST "coder" "B" c0) :
    ∃ (D : Cell) (fV fC : Field), Blank ST x D U ∧ Found ST "value" "[B" fV U ∧ Found ST "coder" "B" fC U ∧ D.slots[fV.slot]? = some v0 ∧ D.slots[fC.slot]? = some c0 ∧ RoadKit.slotOf Z ST "value" "[B" = fV.slot ∧ RoadKit.slotOf Z ST "coder" "B" = fC.slot := by
  obtain ⟨D, cfV, kV, iV, fV, hD, gV, stV, knV, obV, asV, slV⟩ := V
  obtain ⟨D', cfC, kC, iC, fC, hD', gC, stC, -, -, asC, slC⟩ := C
  cases hD.symm.trans hD'
  obtain ⟨D2, kD, e1, e2, e3, e4, e5⟩ := E
  cases hD.symm.trans e1
  obtain ⟨c2, k2, i1, i2, i3, -⟩ := Cond.instantiable_spec wi
  cases e2.symm.trans i1
  cases e3.symm.trans i2
  obtain ⟨kU, u1, u2⟩ := al.2.2 _ _ e3
  exact ⟨D, fV, fC, ⟨hD, ⟨knV, fun q hq => by rw [hq] at obV; cases obV⟩, by rw [al.findClass]; exact e2, kU, u1, by rw [u2]; exact i3, by rw [u2]; exact e5 i3⟩, ⟨SBG.found_only al ⟨cfV, kV, iV, gV⟩, stV⟩, ⟨SBG.found_only al ⟨cfC, kC, iC, gC⟩, stC⟩, slV, slC, by simp [RoadKit.slotOf, gV], by simp [RoadKit.slotOf, gC]⟩
theorem sta_is {Z U : State} (al : Z.vm.Alike U.vm) {C n d : String} {v : Value} (S : RoadKit.Sta Z U.heap C n d v) : StaticIs U C n d v := by
  obtain ⟨cfS, iS, kS, fS, st, cS, t1, t2, t3, t4, t5, t6, t7⟩ := S
  exact StaticIs.there (s := { Z with heap := U.heap }) ⟨cfS, iS, kS, fS, st, cS, t1, t2, t3, t4, t5, (fun q => by rw [q] at t6; cases t6), t7⟩ al rfl
/-- **length() OF SUCH A STRING** -/
theorem lenW {p : Program} {l : Launch} {e : Env} {R : Room} {s : State} {args : Array Value} {below : List Frame} {len W : Nat} {Z : State} {a0 : Array Value} {h : Heap} (hZ : Z.Warmed39 s.vm) (hw : ∀ d ∈ wordsLen, d.before a0 Z = true) {kI : Nat} (wi : (Jvm.Cond.instantiable ST kI).before a0 Z = true)
    {x t : Addr} {kb : ClassId} {cs : List Int32} {cd N2 z : Int32} {vs : List Value} (E : RoadKit.Exa Z h x ST) (V : RoadKit.Fld Z h x ST "value" "[B" (.ref t)) (C : RoadKit.Fld Z h x ST "coder" "B" (.int cd)) (K : RoadKit.Arv Z h t kb .byte N2 vs (.int 0)) (hc : CodA cs cd N2 vs) (hb : ∀ c ∈ cs, ¬ c < 0 ∧ ¬ (65535 : Int32) < c)
    (S : RoadKit.Sta Z h ST "COMPACT_STRINGS" "Z" (.int z)) (hz : ¬ z = 0) (l2 : cs.length ≤ 4000) (hfr : 2 ≤ R.frames) (hlo : W + 25 ≤ R.locals) :
    Back l R p e below s args (⟨"java/lang/String", "length", "()I"⟩ : MethodName) len W (fun P a => a = #[.ref x] ∧ P.U.heap = h ∧ P.cells + 0 ≤ R.cells ∧ P.slots + 0 ≤ R.slots)
      (fun P _ v B => ∃ L, (v = some (.int (Int32.ofNat cs.length)) ∧ L = [] ∧ B.U.heap = h) ∧ B.locs = P.locs ++ L ∧ B.cells = P.cells + 0 ∧ B.slots = P.slots + 0) := by
  obtain ⟨A, K1, K2, K3, K4, K5, K6⟩ := K
  have hcod := hc.cod (by omega) K3 K5
  intro m meth c P g ig mk a X hg hsize hdg hW hn hp'
  obtain ⟨rfl, rfl, r1, r2⟩ := hp'
  have al : Z.vm.Alike P.U.vm := hZ.alike.trans X.warmed.alike
  obtain ⟨D, fV, fC, hB, F1, F2, g1, g2, -, -⟩ := strObj wi al E V C
  have hx : Txt x t A cd cs.length (fun j => cs.getD j 0) P.U := ⟨⟨_, hB.2.2.1, D, hB.1, rfl, by cases q : D.vm <;> first | rfl | exact absurd q (hB.2.1.2 _)⟩, Has.of hB F1 g1, Has.of hB F2 g2, ⟨K1.1, State.isArrayOf_alike al K1.2.1, K1.2.2, by rcases hcod with ⟨-, q, -⟩ | ⟨-, q, -⟩ <;> omega⟩, hcod, fun j hj => by
    have e : cs.getD j 0 = cs[j] := by simp [List.getD_eq_getElem?_getD, hj]
    show ¬ cs.getD j 0 < 0 ∧ ¬ 65535 < cs.getD j 0
    rw [e]; exact hb _ (List.getElem_mem _)⟩
  obtain ⟨v, B, X', ⟨⟨hv, hh⟩, hl, hk, hs⟩, st⟩ := Len.pays x t A cd cs.length (fun j => cs.getD j 0) z (tabLen_of (movedLen hZ hw)) hfr hlo m meth c P g ig mk _ X hg hsize hdg hW hn ⟨r1, r2, rfl, hx, sta_is al S, hz⟩
  exact ⟨v, B, X', ⟨[], ⟨hv, rfl, hh⟩, hl, hk, hs⟩, st⟩
end StrChars.Road
namespace StrChars
open Jvm Sem ClassFile Op Lib Jvm.Stand Jvm.Free.XT Jvm.Free.ALB Jvm.Free.JM Jvm.Free
open Jvm.Lib.Cold (StaticIs)
/-- what place i of a byte[]'s cell holds -/
def yv (A : Cell) (i : Nat) : Int32 := match A.slots[i]? with | some (.int x) => x | _ => 0
theorem yv_get {a : Addr} {A : Cell} {U : State} (h : XT.Arr .byte a A U) (ht : Typed .byte A) {i : Nat} (hi : i < A.slots.size) : A.slots[i]? = some (.int (yv A i)) := by
  have e := Array.getElem?_eq_getElem hi
  have f := ht i _ e
  unfold yv; rw [e]
  generalize A.slots[i] = v at f
  cases v <;> simp [fits] at f ⊢
/-- the two arrays are equal, place for place -/
def EqC (A B : Cell) : Prop := A.slots.size = B.slots.size ∧ ∀ i, i < A.slots.size → yv A i = yv B i
/-- a boolean that says whether p -/
def Says01 (q : Prop) (r : Option Value) (s u : State) : Prop := ∃ v : Int32, r = some (.int v) ∧ u.heap = s.heap ∧ ((v = 1 ∧ q) ∨ (v = 0 ∧ ¬ q))
theorem Says01.mv {q : Prop} : ∀ r (U U' V V' : State), U'.heap = U.heap → V.vm.Alike V'.vm → V'.heap = V.heap → Says01 q r U V → Says01 q r U' V' :=
  fun r U U' V V' h1 _ h2 ⟨v, a, b, c⟩ => ⟨v, a, by rw [h1, h2]; exact b, c⟩
namespace LEq
def yN : MethodName := ⟨"java/lang/StringLatin1", "equals", "([B[B)Z"⟩
abbrev yB : ByteArray := jdk_43_method_13_code
theorem d0 : decode yB 0 = .ok (.aload_n 0, 1) := by decide +kernel
theorem d1 : decode yB 1 = .ok (.arraylength, 1) := by decide +kernel
theorem d2 : decode yB 2 = .ok (.aload_n 1, 1) := by decide +kernel
theorem d3 : decode yB 3 = .ok (.arraylength, 1) := by decide +kernel
theorem d4 : decode yB 4 = .ok (.if_icmp (.ne) 30, 3) := by decide +kernel
theorem d7 : decode yB 7 = .ok (.iconst 0, 1) := by decide +kernel
theorem d8 : decode yB 8 = .ok (.istore_n 2, 1) := by decide +kernel
theorem d9 : decode yB 9 = .ok (.iload_n 2, 1) := by decide +kernel
theorem d10 : decode yB 10 = .ok (.aload_n 0, 1) := by decide +kernel
theorem d11 : decode yB 11 = .ok (.arraylength, 1) := by decide +kernel
theorem d12 : decode yB 12 = .ok (.if_icmp (.ge) 20, 3) := by decide +kernel
theorem d15 : decode yB 15 = .ok (.aload_n 0, 1) := by decide +kernel
theorem d16 : decode yB 16 = .ok (.iload_n 2, 1) := by decide +kernel
theorem d17 : decode yB 17 = .ok (.baload, 1) := by decide +kernel
theorem d18 : decode yB 18 = .ok (.aload_n 1, 1) := by decide +kernel
theorem d19 : decode yB 19 = .ok (.iload_n 2, 1) := by decide +kernel
theorem d20 : decode yB 20 = .ok (.baload, 1) := by decide +kernel
theorem d21 : decode yB 21 = .ok (.if_icmp (.eq) 5, 3) := by decide +kernel
theorem d24 : decode yB 24 = .ok (.iconst 0, 1) := by decide +kernel
theorem d25 : decode yB 25 = .ok (.ireturn, 1) := by decide +kernel
theorem d26 : decode yB 26 = .ok (.iinc 2 1, 3) := by decide +kernel
theorem d29 : decode yB 29 = .ok (.goto (-20), 3) := by decide +kernel
theorem d32 : decode yB 32 = .ok (.iconst 1, 1) := by decide +kernel
theorem d33 : decode yB 33 = .ok (.ireturn, 1) := by decide +kernel
theorem d34 : decode yB 34 = .ok (.iconst 0, 1) := by decide +kernel
theorem d35 : decode yB 35 = .ok (.ireturn, 1) := by decide +kernel
def site : List Cond := []
def tab : Cond := tabOf yN yB 3 (some .boolean) site
def P (a : Addr) (A : Cell) (b : Addr) (B : Cell) (args : Array Value) (s : State) : Prop := args = #[.ref a, .ref b] ∧ XT.Arr .byte a A s ∧ Typed .byte A ∧ XT.Arr .byte b B s ∧ Typed .byte B
/-- whether two byte[] are equal, place for place -/
theorem law (l : Launch) (a : Addr) (A : Cell) (b : Addr) (B : Cell) : Law l yN 2 2 0 0 yB 3 (some .boolean) site (P a A b B) (Says01 (EqC A B)) [] 0 0 := by
  refine Law.of_walk (plainFor_of_name (by decide +kernel)) (by decide +kernel) (by decide +kernel) (by decide) (fun _ _ h => by rw [h.1]; rfl) (fun _ U U' hal hh h => ⟨h.1, h.2.1.mv hal hh, h.2.2.1, h.2.2.2.1.mv hal hh, h.2.2.2.2⟩) (fun r U U' V V' h1 hal h2 h => Says01.mv r U U' V V' h1 hal h2 h) ?_
  intro p e s m args below meth c s₁ X0 hexec hbytes hml hret hlk hnm hown hh0 W hP
  obtain ⟨rfl, hA, tA, hB, tB⟩ := hP
  have a31 := hA.2.2.2
  have b31 := hB.2.2.2
  have hA0 := hA.mv X0.warmed.alike hh0
  have hB0 := hB.mv X0.warmed.alike hh0
  have c1 : Steps p.tables e below (s₁.setTop (entryFrame m #[.ref a, .ref b] 3)) (s₁.setTop (mkF m 0 #[.val (.ref a), .val (.ref b), .unset] [])) := entry rfl
  have c2 : Steps p.tables e below (s₁.setTop (entryFrame m #[.ref a, .ref b] 3)) (s₁.setTop (mkF m 4 #[.val (.ref a), .val (.ref b), .unset] [.int (Int32.ofNat B.slots.size), .int (Int32.ofNat A.slots.size)])) := c1.trans (by
    refine XS.aloadN X0.here hexec rfl (hb hbytes d0) rfl rfl ?_
    refine X0.alen hexec hA0 rfl rfl (hb hbytes d1) ?_
    refine XS.aloadN X0.here hexec rfl (hb hbytes d2) rfl rfl ?_
    refine X0.alen hexec hB0 rfl rfl (hb hbytes d3) ?_
    exact Steps.refl _)
  by_cases hs : A.slots.size = B.slots.size
  · have c3 : Steps p.tables e below (s₁.setTop (entryFrame m #[.ref a, .ref b] 3)) (s₁.setTop (mkF m 9 #[.val (.ref a), .val (.ref b), .val (.int 0)] [])) := c2.trans (by
      refine XS.icmpNo X0.here hexec rfl (hb hbytes d4) rfl (ii_ne_f (by rw [hs])) ?_
      refine iconstV X0.here hexec rfl 0 (hb hbytes d7) (by decide) ?_
      refine XS.istoreN X0.here hexec rfl (hb hbytes d8) rfl rfl ?_
      exact Steps.refl _)
    have loop : ∀ (r i : Nat), i + r = A.slots.size → (∀ j, j < i → yv A j = yv B j) → Steps p.tables e below (s₁.setTop (entryFrame m #[.ref a, .ref b] 3)) (s₁.setTop (mkF m 9 #[.val (.ref a), .val (.ref b), .val (.int (Int32.ofNat i))] [])) → ∃ (pc : Nat) (Ls : Array Slot) (v : Int32), (pc = 25 ∨ pc = 33) ∧ ((v = 1 ∧ EqC A B) ∨ (v = 0 ∧ ¬ EqC A B)) ∧ Steps p.tables e below (s₁.setTop (entryFrame m #[.ref a, .ref b] 3)) (s₁.setTop (mkF m pc Ls [.int v])) := by
      intro r
      induction r with
      | zero =>
        intro i hi he cl
        exact ⟨33, _, 1, Or.inr rfl, Or.inl ⟨rfl, hs, fun j hj => he j (by omega)⟩, cl.trans (by
          refine XS.iloadN X0.here hexec rfl (hb hbytes d9) rfl ?_
          refine XS.aloadN X0.here hexec rfl (hb hbytes d10) rfl rfl ?_
          refine X0.alen hexec hA0 rfl rfl (hb hbytes d11) ?_
          refine XS.icmpYes X0.here hexec rfl (pc0 := 12) rfl (hb hbytes d12) rfl (ii_ge_t (nlt32 (by omega) (by omega))) (by decide) rfl ?_
          refine iconstV X0.here hexec rfl 1 (hb hbytes d32) (by decide) ?_
          exact Steps.refl _)⟩
      | succ r ih =>
        intro i hi he cl
        have c4 : Steps p.tables e below (s₁.setTop (entryFrame m #[.ref a, .ref b] 3)) (s₁.setTop (mkF m 21 #[.val (.ref a), .val (.ref b), .val (.int (Int32.ofNat i))] [.int (yv B i), .int (yv A i)])) := cl.trans (by
          refine XS.iloadN X0.here hexec rfl (hb hbytes d9) rfl ?_
          refine XS.aloadN X0.here hexec rfl (hb hbytes d10) rfl rfl ?_
          refine X0.alen hexec hA0 rfl rfl (hb hbytes d11) ?_
          refine XS.icmpNo X0.here hexec rfl (hb hbytes d12) rfl (ii_ge_f (lt32 (by omega) (by omega))) ?_
          refine XS.aloadN X0.here hexec rfl (hb hbytes d15) rfl rfl ?_
          refine XS.iloadN X0.here hexec rfl (hb hbytes d16) rfl ?_
          refine X0.aget hexec hA0 rfl (yv_get hA tA (i := i) (by omega)) rfl rfl (hb hbytes d17) ?_
          refine XS.aloadN X0.here hexec rfl (hb hbytes d18) rfl rfl ?_
          refine XS.iloadN X0.here hexec rfl (hb hbytes d19) rfl ?_
          refine X0.aget hexec hB0 rfl (yv_get hB tB (i := i) (by omega)) rfl rfl (hb hbytes d20) ?_
          exact Steps.refl _)
        by_cases hv : yv A i = yv B i
        · have c5 : Steps p.tables e below (s₁.setTop (entryFrame m #[.ref a, .ref b] 3)) (s₁.setTop (mkF m 9 #[.val (.ref a), .val (.ref b), .val (.int (Int32.ofNat i + 1))] [])) := c4.trans (by
            refine XS.icmpYes X0.here hexec rfl (pc0 := 21) rfl (hb hbytes d21) rfl (ii_eq_t hv) (by decide) rfl ?_
            refine iincV X0.here hexec rfl 1 (hb hbytes d26) (by decide) rfl rfl ?_
            refine XS.goto X0.here hexec rfl (pc0 := 29) rfl (hb hbytes d29) (by decide) rfl ?_
            exact Steps.refl _)
          rw [succ32] at c5
          exact ih (i + 1) (by omega) (fun j hj => by
            by_cases e : j = i
            · rw [e]; exact hv
            · exact he j (by omega)) c5
        · exact ⟨25, _, 0, Or.inl rfl, Or.inr ⟨rfl, fun q => hv (q.2 i (by omega))⟩, c4.trans (by
            refine XS.icmpNo X0.here hexec rfl (hb hbytes d21) rfl (ii_eq_f hv) ?_
            refine iconstV X0.here hexec rfl 0 (hb hbytes d24) (by decide) ?_
            exact Steps.refl _)⟩
    obtain ⟨pc, Ls, v, hpc, hv, cz⟩ := loop A.slots.size 0 (by omega) (fun j hj => absurd hj (Nat.not_lt_zero j)) c3
    have nv : narrow .boolean (.int v) = .int v := by rcases hv with ⟨rfl, -⟩ | ⟨rfl, -⟩ <;> rfl
    rcases hpc with rfl | rfl
    · exact ⟨s₁, some (.int v), _, _, _, X0, rfl, rfl, rfl, (fun h => by cases h), ⟨v, rfl, hh0, hv⟩, fun fs hl => cz.trans (X0.ireturnOut hexec hret nv (Or.inr (Or.inl rfl)) (hb hbytes d25) hl)⟩
    · exact ⟨s₁, some (.int v), _, _, _, X0, rfl, rfl, rfl, (fun h => by cases h), ⟨v, rfl, hh0, hv⟩, fun fs hl => cz.trans (X0.ireturnOut hexec hret nv (Or.inr (Or.inl rfl)) (hb hbytes d33) hl)⟩
  · have c3 : Steps p.tables e below (s₁.setTop (entryFrame m #[.ref a, .ref b] 3)) (s₁.setTop (mkF m 35 #[.val (.ref a), .val (.ref b), .unset] [.int 0])) := c2.trans (by
      refine XS.icmpYes X0.here hexec rfl (pc0 := 4) rfl (hb hbytes d4) rfl (ii_ne_t (ne32 a31 b31 hs)) (by decide) rfl ?_
      refine iconstV X0.here hexec rfl 0 (hb hbytes d34) (by decide) ?_
      exact Steps.refl _)
    exact ⟨s₁, some (.int 0), _, _, _, X0, rfl, rfl, rfl, (fun h => by cases h), ⟨0, rfl, hh0, Or.inr ⟨rfl, fun q => hs q.1⟩⟩, fun fs hl => c3.trans (X0.ireturnOut hexec hret rfl (Or.inr (Or.inl rfl)) (hb hbytes d35) hl)⟩
end LEq
theorem Cod.ty {cd : Int32} {n : Nat} {f : Nat → Int32} {V : Cell} (h : Cod cd n f V) : Typed .byte V := fun i v hv => by
  have hi : i < V.slots.size := (Array.getElem?_eq_some_iff.mp hv).1
  rcases h with ⟨-, k1, k2⟩ | ⟨-, k1, k2, -⟩
  · rw [(k2 i (by omega)).1] at hv; cases hv; exact fits_lo8 _
  · rcases Nat.mod_two_eq_zero_or_one i with e | e
    · obtain ⟨j, rfl⟩ : ∃ j, i = 2 * j := ⟨i / 2, by omega⟩
      rw [(k2 j (by omega)).1] at hv; cases hv; exact fits_lo8 _
    · obtain ⟨j, rfl⟩ : ∃ j, i = 2 * j + 1 := ⟨i / 2, by omega⟩
      rw [(k2 j (by omega)).2] at hv; cases hv; exact fits_lo8 _
/-- the same text -/
def SameT (n : Nat) (f : Nat → Int32) (k : Nat) (g : Nat → Int32) : Prop := n = k ∧ ∀ j, j < n → f j = g j
theorem lo8_inj {x y : Int32} (h0 : ¬ x < 0) (h1 : ¬ 255 < x) (k0 : ¬ y < 0) (k1 : ¬ 255 < y) (h : lo8 x = lo8 y) : x = y := by
  rw [← lo8_mask h0 h1, ← lo8_mask k0 k1, h]
/-- arrays coded by one coder are equal just where the texts are -/
theorem Cod.eqv {cd : Int32} {n k : Nat} {f g : Nat → Int32} {V V' : Cell} (h : Cod cd n f V) (h' : Cod cd k g V') (hf : ∀ j, j < n → ¬ f j < 0 ∧ ¬ 65535 < f j) (hg : ∀ j, j < k → ¬ g j < 0 ∧ ¬ 65535 < g j) : EqC V V' ↔ SameT n f k g := by
  have yvv : ∀ {W : Cell} {i : Nat} {x : Int32}, W.slots[i]? = some (.int x) → yv W i = x := fun q => by unfold yv; rw [q]
  rcases h with ⟨rfl, k1, k2⟩ | ⟨rfl, k1, k2, -⟩
  · rcases h' with ⟨-, m1, m2⟩ | ⟨e, -⟩
    · constructor
      · rintro ⟨e1, e2⟩
        refine ⟨by omega, fun j hj => ?_⟩
        have q := e2 j (by omega)
        rw [yvv (k2 j hj).1, yvv (m2 j (by omega)).1] at q
        exact lo8_inj (hf j hj).1 (k2 j hj).2 (hg j (by omega)).1 (m2 j (by omega)).2 q
      · rintro ⟨rfl, e2⟩
        refine ⟨by omega, fun j hj => ?_⟩
        rw [yvv (k2 j (by omega)).1, yvv (m2 j (by omega)).1, e2 j (by omega)]
    · exact absurd e (by decide)
  · rcases h' with ⟨e, -⟩ | ⟨-, m1, m2, -⟩
    · exact absurd e (by decide)
    · constructor
      · rintro ⟨e1, e2⟩
        refine ⟨by omega, fun j hj => ?_⟩
        have q1 := e2 (2 * j) (by omega)
        have q2 := e2 (2 * j + 1) (by omega)
        rw [yvv (k2 j hj).1, yvv (m2 j (by omega)).1] at q1
        rw [yvv (k2 j hj).2, yvv (m2 j (by omega)).2] at q2
        rw [← pair_says (hf j hj).1 (hf j hj).2, ← pair_says (hg j (by omega)).1 (hg j (by omega)).2, q1, q2]
      · rintro ⟨rfl, e2⟩
        refine ⟨by omega, fun i hi => ?_⟩
        rcases Nat.mod_two_eq_zero_or_one i with e | e
        · obtain ⟨j, rfl⟩ : ∃ j, i = 2 * j := ⟨i / 2, by omega⟩
          rw [yvv (k2 j (by omega)).1, yvv (m2 j (by omega)).1, e2 j (by omega)]
        · obtain ⟨j, rfl⟩ : ∃ j, i = 2 * j + 1 := ⟨i / 2, by omega⟩
          rw [yvv (k2 j (by omega)).2, yvv (m2 j (by omega)).2, e2 j (by omega)]
/-- two codings differ: so do the texts -/
theorem Cod.dif {cd cd' : Int32} {n k : Nat} {f g : Nat → Int32} {V V' : Cell} (h : Cod cd n f V) (h' : Cod cd' k g V') (hne : ¬ cd = cd') : ¬ SameT n f k g := by
  rintro ⟨rfl, e⟩
  rcases h with ⟨rfl, -, k2⟩ | ⟨rfl, -, -, j, hj, hw⟩
  · rcases h' with ⟨rfl, -⟩ | ⟨-, -, -, j, hj, hw⟩
    · exact hne rfl
    · exact (k2 j hj).2 (by rw [e j hj]; exact hw)
  · rcases h' with ⟨-, -, m2⟩ | ⟨rfl, -⟩
    · exact (m2 j hj).2 (by rw [← e j hj]; exact hw)
    · exact hne rfl
/-- an object of exactly C is an instance of C -/
theorem cinst {p : Program} {l : Launch} {e : Env} {R : Room} {s : State} {m : MethodId} {args : Array Value} {below : List Frame} {meth : Method} {c : Code} {T : State} {locs : List Loc} {cells slots : Nat} (X : Stand p l e R s m args below meth c T locs cells slots) (hexec : p.tables.exec = Jvm.exec) {own C : String} {index : Nat} (hown : s.vm.findClass own = some m.cls) (hlink : (Cond.classLink own index C).before args s = true) {a : Addr} (hE : Exact C a T)
    {g : JFrame} (hg : g.method = m) {rest : List Value} (hstack : g.stack = .ref a :: rest) (hdg : decode c.code g.pc = .ok (.instanceof index, 3)) :
    ∃ T', Stand p l e R s m args below meth c T' locs cells slots ∧ T'.heap = T.heap ∧ ∀ target, Steps p.tables e below (T'.setTop { g with pc := g.pc + 3, stack := .int 1 :: rest }) target → Steps p.tables e below (T.setTop g) target := by
  obtain ⟨cB, h1, D, h2, h3, h4⟩ := hE
  have h1' : s.vm.findClass C = some cB := by rw [← X.warmed.alike.findClass]; exact h1
  obtain ⟨vm', X', st⟩ := X.instanceofYes hexec hown hlink h2 h4 h1' (by rw [h3]; exact Jvm.Free.SB.assignable_self _ _) hg hstack hdg
  exact ⟨_, X', rfl, st⟩
theorem cself {p : Program} {l : Launch} {e : Env} {R : Room} {s : State} {m : MethodId} {args : Array Value} {below : List Frame} {meth : Method} {c : Code} {T : State} {locs : List Loc} {cells slots : Nat} (X : Stand p l e R s m args below meth c T locs cells slots) (hexec : p.tables.exec = Jvm.exec) {own C : String} {index : Nat} (hown : s.vm.findClass own = some m.cls) (hlink : (Cond.classLink own index C).before args s = true) {a : Addr} (hE : Exact C a T)
    {g : JFrame} (hg : g.method = m) {rest : List Value} (hstack : g.stack = .ref a :: rest) (hdg : decode c.code g.pc = .ok (.checkcast index, 3)) :
    ∃ T', Stand p l e R s m args below meth c T' locs cells slots ∧ T'.heap = T.heap ∧ ∀ target, Steps p.tables e below (T'.setTop { g with pc := g.pc + 3, stack := .ref a :: rest }) target → Steps p.tables e below (T.setTop g) target := by
  obtain ⟨cB, h1, D, h2, h3, h4⟩ := hE
  have h1' : s.vm.findClass C = some cB := by rw [← X.warmed.alike.findClass]; exact h1
  obtain ⟨vm', X', st⟩ := X.checkcastYes hexec hown hlink h2 h4 h1' (by rw [h3]; exact Jvm.Free.SB.assignable_self _ _) hg hstack hdg
  exact ⟨_, X', rfl, fun t h => st t (by rw [← hstack] at h; exact h)⟩
namespace SEq
def yN : MethodName := ⟨"java/lang/String", "equals", "(Ljava/lang/Object;)Z"⟩
abbrev yB : ByteArray := jdk_42_method_66_code
theorem d0 : decode yB 0 = .ok (.aload_n 0, 1) := by decide +kernel
theorem d1 : decode yB 1 = .ok (.aload_n 1, 1) := by decide +kernel
theorem d2 : decode yB 2 = .ok (.if_acmp (.ne) 5, 3) := by decide +kernel
theorem d5 : decode yB 5 = .ok (.iconst 1, 1) := by decide +kernel
theorem d6 : decode yB 6 = .ok (.ireturn, 1) := by decide +kernel
theorem d7 : decode yB 7 = .ok (.aload_n 1, 1) := by decide +kernel
theorem d8 : decode yB 8 = .ok (.instanceof 10, 3) := by decide +kernel
theorem d11 : decode yB 11 = .ok (.ifCond (.eq) 43, 3) := by decide +kernel
theorem d14 : decode yB 14 = .ok (.aload_n 1, 1) := by decide +kernel
theorem d15 : decode yB 15 = .ok (.checkcast 10, 3) := by decide +kernel
theorem d18 : decode yB 18 = .ok (.astore_n 2, 1) := by decide +kernel
theorem d19 : decode yB 19 = .ok (.getstatic 38, 3) := by decide +kernel
theorem d22 : decode yB 22 = .ok (.ifCond (.eq) 14, 3) := by decide +kernel
theorem d25 : decode yB 25 = .ok (.aload_n 0, 1) := by decide +kernel
theorem d26 : decode yB 26 = .ok (.getfield 15, 3) := by decide +kernel
theorem d29 : decode yB 29 = .ok (.aload_n 2, 1) := by decide +kernel
theorem d30 : decode yB 30 = .ok (.getfield 15, 3) := by decide +kernel
theorem d33 : decode yB 33 = .ok (.if_icmp (.ne) 21, 3) := by decide +kernel
theorem d36 : decode yB 36 = .ok (.aload_n 0, 1) := by decide +kernel
theorem d37 : decode yB 37 = .ok (.getfield 9, 3) := by decide +kernel
theorem d40 : decode yB 40 = .ok (.aload_n 2, 1) := by decide +kernel
theorem d41 : decode yB 41 = .ok (.getfield 9, 3) := by decide +kernel
theorem d44 : decode yB 44 = .ok (.invokestatic 541, 3) := by decide +kernel
theorem d47 : decode yB 47 = .ok (.ifCond (.eq) 7, 3) := by decide +kernel
theorem d50 : decode yB 50 = .ok (.iconst 1, 1) := by decide +kernel
theorem d51 : decode yB 51 = .ok (.goto 4, 3) := by decide +kernel
theorem d54 : decode yB 54 = .ok (.iconst 0, 1) := by decide +kernel
theorem d55 : decode yB 55 = .ok (.ireturn, 1) := by decide +kernel
def site : List Cond := [.classLink "java/lang/String" 10 "java/lang/String", .fieldLink "java/lang/String" 38 "java/lang/String" "COMPACT_STRINGS" "Z", .fieldLink "java/lang/String" 15 "java/lang/String" "coder" "B", .fieldLink "java/lang/String" 9 "java/lang/String" "value" "[B", LEq.tab] ++ staticW "java/lang/String" 541 LEq.yN
def tab : Cond := tabOf yN yB 3 (some .boolean) site
def P (x t : Addr) (V : Cell) (cd : Int32) (n : Nat) (f : Nat → Int32) (y t' : Addr) (V' : Cell) (cd' : Int32) (k : Nat) (g : Nat → Int32) (z : Int32) (args : Array Value) (s : State) : Prop := args = #[.ref x, .ref y] ∧ Txt x t V cd n f s ∧ Txt y t' V' cd' k g s ∧ StaticIs s "java/lang/String" "COMPACT_STRINGS" "Z" (.int z) ∧ ¬ z = 0
/-- equals(Object) of two Strings: whether the texts are the same -/
theorem law (l : Launch) (x t : Addr) (V : Cell) (cd : Int32) (n : Nat) (f : Nat → Int32) (y t' : Addr) (V' : Cell) (cd' : Int32) (k : Nat) (g : Nat → Int32) (z : Int32) : Law l yN 2 1 1 14 yB 3 (some .boolean) site (P x t V cd n f y t' V' cd' k g z) (Says01 (SameT n f k g)) [] 0 0 := by
  refine Law.of_walk (plainFor_of_name (by decide +kernel)) (by decide +kernel) (by decide +kernel) (by decide) (fun _ _ h => by rw [h.1]; rfl) (fun _ U U' hal hh h => ⟨h.1, h.2.1.mv hal hh, h.2.2.1.mv hal hh, h.2.2.2.1.there hal hh, h.2.2.2.2⟩) (fun r U U' V V' h1 hal h2 h => Says01.mv r U U' V V' h1 hal h2 h) ?_
  intro p e s m args below meth c s₁ X0 hexec hbytes hml hret hlk hnm hown hh0 W hP
  obtain ⟨rfl, hx, hy, s1, hz⟩ := hP
  have c1 : Steps p.tables e below (s₁.setTop (entryFrame m #[.ref x, .ref y] 3)) (s₁.setTop (mkF m 2 #[.val (.ref x), .val (.ref y), .unset] [.ref y, .ref x])) := Steps.trans (entry rfl) (by
    show Steps p.tables e below (s₁.setTop (mkF m 0 #[.val (.ref x), .val (.ref y), .unset] [])) _
    refine XS.aloadN X0.here hexec rfl (hb hbytes d0) rfl rfl ?_
    refine XS.aloadN X0.here hexec rfl (hb hbytes d1) rfl rfl ?_
    exact Steps.refl _)
  by_cases hxy : x = y
  · have c2 : Steps p.tables e below (s₁.setTop (entryFrame m #[.ref x, .ref y] 3)) (s₁.setTop (mkF m 6 #[.val (.ref x), .val (.ref y), .unset] [.int 1])) := c1.trans (by
      refine acmpNo X0.here hexec rfl (hb hbytes d2) rfl rfl rfl (by simp [acmp, hxy]) ?_
      refine iconstV X0.here hexec rfl 1 (hb hbytes d5) (by decide) ?_
      exact Steps.refl _)
    subst hxy
    have ec : cd = cd' := by
      obtain ⟨D, fd, a1, a2, a3⟩ := hx.2.2.1
      obtain ⟨D', fd', b1, b2, b3⟩ := hy.2.2.1
      cases a1.symm.trans b1
      obtain ⟨q1, q2, q3, q4⟩ := a2.1
      obtain ⟨r1, r2, r3, r4⟩ := b2.1
      cases q4.symm.trans r4
      cases a3.symm.trans b3; rfl
    have et : t = t' := by
      obtain ⟨D, fd, a1, a2, a3⟩ := hx.2.1
      obtain ⟨D', fd', b1, b2, b3⟩ := hy.2.1
      cases a1.symm.trans b1
      obtain ⟨q1, q2, q3, q4⟩ := a2.1
      obtain ⟨r1, r2, r3, r4⟩ := b2.1
      cases q4.symm.trans r4
      cases a3.symm.trans b3; rfl
    subst ec et
    have ev : V = V' := by cases hx.2.2.2.1.1.symm.trans hy.2.2.2.1.1; rfl
    subst ev
    have hs : SameT n f k g := (Cod.eqv hx.2.2.2.2.1 hy.2.2.2.2.1 hx.2.2.2.2.2 hy.2.2.2.2.2).mp ⟨rfl, fun _ _ => rfl⟩
    exact ⟨s₁, some (.int 1), _, _, _, X0, rfl, rfl, rfl, (fun h => by cases h), ⟨1, rfl, hh0, Or.inl ⟨rfl, hs⟩⟩, fun fs hl => c2.trans (X0.ireturnOut hexec hret rfl (Or.inr (Or.inl rfl)) (hb hbytes d6) hl)⟩
  · have c2 : Steps p.tables e below (s₁.setTop (entryFrame m #[.ref x, .ref y] 3)) (s₁.setTop (mkF m 8 #[.val (.ref x), .val (.ref y), .unset] [.ref y])) := c1.trans (by
      refine acmpYes X0.here hexec rfl (pc0 := 2) rfl (hb hbytes d2) rfl rfl rfl (by simp [acmp, hxy]) (by decide) rfl ?_
      refine XS.aloadN X0.here hexec rfl (hb hbytes d7) rfl rfl ?_
      exact Steps.refl _)
    obtain ⟨T3, X3, q3, st3⟩ := cinst X0 hexec hown (wk W (.classLink "java/lang/String" 10 "java/lang/String")) (hy.mv X0.warmed.alike hh0).1 (g := (mkF m 8 #[.val (.ref x), .val (.ref y), .unset] [.ref y])) rfl (rest := []) rfl (hb hbytes d8)
    have hh3 := q3.trans hh0
    have c4 : Steps p.tables e below (s₁.setTop (entryFrame m #[.ref x, .ref y] 3)) (T3.setTop (mkF m 15 #[.val (.ref x), .val (.ref y), .unset] [.ref y])) := (c2.trans (st3 _ (Steps.refl _))).trans (by
      refine XS.ifNo X3.here hexec rfl (hb hbytes d11) rfl (i0_eq_f (by decide)) ?_
      refine XS.aloadN X3.here hexec rfl (hb hbytes d14) rfl rfl ?_
      exact Steps.refl _)
    obtain ⟨T5, X5, q5, st5⟩ := cself X3 hexec hown (wk W (.classLink "java/lang/String" 10 "java/lang/String")) (hy.mv X3.warmed.alike hh3).1 (g := (mkF m 15 #[.val (.ref x), .val (.ref y), .unset] [.ref y])) rfl (rest := []) rfl (hb hbytes d15)
    have hh5 := q5.trans hh3
    have c6 : Steps p.tables e below (s₁.setTop (entryFrame m #[.ref x, .ref y] 3)) (T5.setTop (mkF m 19 #[.val (.ref x), .val (.ref y), .val (.ref y)] [])) := (c4.trans (st5 _ (Steps.refl _))).trans (by
      refine XS.astoreN X5.here hexec rfl (hb hbytes d18) rfl rfl rfl ?_
      exact Steps.refl _)
    obtain ⟨T7, X7, q7, st7⟩ := X5.sget hexec hown (wk W (.fieldLink "java/lang/String" 38 "java/lang/String" "COMPACT_STRINGS" "Z")) s1 (fun _ _ h => by rw [hh5]; exact h) (g := (mkF m 19 #[.val (.ref x), .val (.ref y), .val (.ref y)] [])) rfl (hb hbytes d19)
    have hh7 := q7.trans hh5
    have c8 : Steps p.tables e below (s₁.setTop (entryFrame m #[.ref x, .ref y] 3)) (T7.setTop (mkF m 26 #[.val (.ref x), .val (.ref y), .val (.ref y)] [.ref x])) := (c6.trans (st7 _ (Steps.refl _))).trans (by
      refine XS.ifNo X7.here hexec rfl (hb hbytes d22) rfl (i0_eq_f hz) ?_
      refine XS.aloadN X7.here hexec rfl (hb hbytes d25) rfl rfl ?_
      exact Steps.refl _)
    obtain ⟨T9, X9, q9, st9⟩ := X7.hget hexec hown (wk W (.fieldLink "java/lang/String" 15 "java/lang/String" "coder" "B")) (hx.mv X7.warmed.alike hh7).2.2.1 (g := (mkF m 26 #[.val (.ref x), .val (.ref y), .val (.ref y)] [.ref x])) rfl (rest := []) rfl (hb hbytes d26)
    have hh9 := q9.trans hh7
    have c10 : Steps p.tables e below (s₁.setTop (entryFrame m #[.ref x, .ref y] 3)) (T9.setTop (mkF m 30 #[.val (.ref x), .val (.ref y), .val (.ref y)] [.ref y, .int cd])) := (c8.trans (st9 _ (Steps.refl _))).trans (by
      refine XS.aloadN X9.here hexec rfl (hb hbytes d29) rfl rfl ?_
      exact Steps.refl _)
    obtain ⟨T11, X11, q11, st11⟩ := X9.hget hexec hown (wk W (.fieldLink "java/lang/String" 15 "java/lang/String" "coder" "B")) (hy.mv X9.warmed.alike hh9).2.2.1 (g := (mkF m 30 #[.val (.ref x), .val (.ref y), .val (.ref y)] [.ref y, .int cd])) rfl (rest := [.int cd]) rfl (hb hbytes d30)
    have hh11 := q11.trans hh9
    have c12 : Steps p.tables e below (s₁.setTop (entryFrame m #[.ref x, .ref y] 3)) (T11.setTop (mkF m 33 #[.val (.ref x), .val (.ref y), .val (.ref y)] [.int cd', .int cd])) := c10.trans (st11 _ (Steps.refl _))
    by_cases hcd : cd = cd'
    · subst hcd
      have c13 : Steps p.tables e below (s₁.setTop (entryFrame m #[.ref x, .ref y] 3)) (T11.setTop (mkF m 37 #[.val (.ref x), .val (.ref y), .val (.ref y)] [.ref x])) := c12.trans (by
        refine XS.icmpNo X11.here hexec rfl (hb hbytes d33) rfl (ii_ne_f rfl) ?_
        refine XS.aloadN X11.here hexec rfl (hb hbytes d36) rfl rfl ?_
        exact Steps.refl _)
      obtain ⟨T14, X14, q14, st14⟩ := X11.hget hexec hown (wk W (.fieldLink "java/lang/String" 9 "java/lang/String" "value" "[B")) (hx.mv X11.warmed.alike hh11).2.1 (g := (mkF m 37 #[.val (.ref x), .val (.ref y), .val (.ref y)] [.ref x])) rfl (rest := []) rfl (hb hbytes d37)
      have hh14 := q14.trans hh11
      have c15 : Steps p.tables e below (s₁.setTop (entryFrame m #[.ref x, .ref y] 3)) (T14.setTop (mkF m 41 #[.val (.ref x), .val (.ref y), .val (.ref y)] [.ref y, .ref t])) := (c13.trans (st14 _ (Steps.refl _))).trans (by
        refine XS.aloadN X14.here hexec rfl (hb hbytes d40) rfl rfl ?_
        exact Steps.refl _)
      obtain ⟨T16, X16, q16, st16⟩ := X14.hget hexec hown (wk W (.fieldLink "java/lang/String" 9 "java/lang/String" "value" "[B")) (hy.mv X14.warmed.alike hh14).2.1 (g := (mkF m 41 #[.val (.ref x), .val (.ref y), .val (.ref y)] [.ref y, .ref t])) rfl (rest := [.ref t]) rfl (hb hbytes d41)
      have hh16 := q16.trans hh14
      have c17 : Steps p.tables e below (s₁.setTop (entryFrame m #[.ref x, .ref y] 3)) (T16.setTop (mkF m 44 #[.val (.ref x), .val (.ref y), .val (.ref y)] [.ref t', .ref t])) := c15.trans (st16 _ (Steps.refl _))
      obtain ⟨v18, T18, X18, E18, g18⟩ := X16.callS hexec (LEq.law l t V t' V') hown (wks W (staticW "java/lang/String" 541 LEq.yN)) (wk W LEq.tab) (W := 0) (Nat.le_of_ble_eq_true rfl) (Nat.le_of_ble_eq_true rfl) (Nat.le_refl _) (Nat.le_refl _) (g := (mkF m 44 #[.val (.ref x), .val (.ref y), .val (.ref y)] [.ref t', .ref t])) rfl (by rw [hml]; rfl) c17 (argsL := [.ref t, .ref t']) (rest := []) rfl rfl (by show 2 * 0 + 0 ≤ _; decide) (hb hbytes d44) (⟨rfl, hx.2.2.2.1.mv X16.warmed.alike hh16, hx.2.2.2.2.1.ty, hy.2.2.2.1.mv X16.warmed.alike hh16, hy.2.2.2.2.1.ty⟩)
      obtain ⟨v, rfl, q18, hv⟩ := E18
      have iff := Cod.eqv hx.2.2.2.2.1 hy.2.2.2.2.1 hx.2.2.2.2.2 hy.2.2.2.2.2
      rcases hv with ⟨rfl, he⟩ | ⟨rfl, he⟩
      · have c19 : Steps p.tables e below (s₁.setTop (entryFrame m #[.ref x, .ref y] 3)) (T18.setTop (mkF m 55 #[.val (.ref x), .val (.ref y), .val (.ref y)] [.int 1])) := Steps.trans g18 (by
          refine XS.ifNo X18.here hexec rfl (hb hbytes d47) rfl (i0_eq_f (by decide)) ?_
          refine iconstV X18.here hexec rfl 1 (hb hbytes d50) (by decide) ?_
          refine XS.goto X18.here hexec rfl (pc0 := 51) rfl (hb hbytes d51) (by decide) rfl ?_
          exact Steps.refl _)
        exact ⟨T18, some (.int 1), _, _, _, X18, rfl, rfl, rfl, (fun h => by cases h), ⟨1, rfl, q18.trans hh16, Or.inl ⟨rfl, iff.mp he⟩⟩, fun fs hl => c19.trans (X18.ireturnOut hexec hret rfl (Or.inr (Or.inl rfl)) (hb hbytes d55) hl)⟩
      · have c19 : Steps p.tables e below (s₁.setTop (entryFrame m #[.ref x, .ref y] 3)) (T18.setTop (mkF m 55 #[.val (.ref x), .val (.ref y), .val (.ref y)] [.int 0])) := Steps.trans g18 (by
          refine XS.ifYes X18.here hexec rfl (pc0 := 47) rfl (hb hbytes d47) rfl (i0_eq_t rfl) (by decide) rfl ?_
          refine iconstV X18.here hexec rfl 0 (hb hbytes d54) (by decide) ?_
          exact Steps.refl _)
        exact ⟨T18, some (.int 0), _, _, _, X18, rfl, rfl, rfl, (fun h => by cases h), ⟨0, rfl, q18.trans hh16, Or.inr ⟨rfl, fun q => he (iff.mpr q)⟩⟩, fun fs hl => c19.trans (X18.ireturnOut hexec hret rfl (Or.inr (Or.inl rfl)) (hb hbytes d55) hl)⟩
    · have c13 : Steps p.tables e below (s₁.setTop (entryFrame m #[.ref x, .ref y] 3)) (T11.setTop (mkF m 55 #[.val (.ref x), .val (.ref y), .val (.ref y)] [.int 0])) := c12.trans (by
        refine XS.icmpYes X11.here hexec rfl (pc0 := 33) rfl (hb hbytes d33) rfl (ii_ne_t hcd) (by decide) rfl ?_
        refine iconstV X11.here hexec rfl 0 (hb hbytes d54) (by decide) ?_
        exact Steps.refl _)
      exact ⟨T11, some (.int 0), _, _, _, X11, rfl, rfl, rfl, (fun h => by cases h), ⟨0, rfl, hh11, Or.inr ⟨rfl, Cod.dif hx.2.2.2.2.1 hy.2.2.2.2.1 hcd⟩⟩, fun fs hl => c13.trans (X11.ireturnOut hexec hret rfl (Or.inr (Or.inl rfl)) (hb hbytes d55) hl)⟩
theorem pays {l : Launch} {R : Room} {p : Program} {e : Env} {below : List Frame} {s : State} {sargs : Array Value} {len W : Nat} (x t : Addr) (V : Cell) (cd : Int32) (n : Nat) (f : Nat → Int32) (y t' : Addr) (V' : Cell) (cd' : Int32) (k : Nat) (g : Nat → Int32) (z : Int32) (htab : tab.before sargs s = true) (hfr : 2 ≤ R.frames) (hlo : W + 28 ≤ R.locals) :
    Back l R p e below s sargs yN len W (fun A₁ a₁ => A₁.cells + 0 ≤ R.cells ∧ A₁.slots + 0 ≤ R.slots ∧ P x t V cd n f y t' V' cd' k g z a₁ A₁.U) (fun A₁ _ v₁ B₁ => Says01 (SameT n f k g) v₁ A₁.U B₁.U ∧ B₁.locs = A₁.locs ++ [] ∧ B₁.cells = A₁.cells + 0 ∧ B₁.slots = A₁.slots + 0) :=
  (law l x t V cd n f y t' V' cd' k g z).pays htab hfr (by omega)
end SEq
end StrChars
namespace StrChars.Road
open Jvm Sem ClassFile Op Lib Jvm.Stand Jvm.Free Jvm.Free.XT
open Jvm.Lib.Cold (StaticIs)
/-- the words of String.equals(Object) -/
abbrev wordsEq : List Jvm.Cond := [.code SEq.yN SEq.yB 3 (some .boolean), .initialized ST, .classLink ST 10 ST, .fieldLink ST 38 ST "COMPACT_STRINGS" "Z", .fieldLink ST 15 ST "coder" "B", .fieldLink ST 9 ST "value" "[B", .methodLink ST 541 LEq.yN, .static LEq.yN, .code LEq.yN LEq.yB 3 (some .boolean), .initialized "java/lang/StringLatin1"]
theorem tabEq_of {a : Array Value} {s : State} (h : ∀ w ∈ wordsEq, w.before a s = true) : SEq.tab.before a s = true := by
  have hl : LEq.tab.before a s = true := unparts (wk h (.code LEq.yN LEq.yB 3 (some .boolean))) (wks h (.initialized LEq.yN.cls :: LEq.site))
  have q := consq hl h
  exact unparts (wk q (.code SEq.yN SEq.yB 3 (some .boolean))) (wks q (.initialized SEq.yN.cls :: SEq.site))
theorem movedEq {Z s : State} {a0 args : Array Value} (hZ : Z.Warmed39 s.vm) (hw : ∀ d ∈ wordsEq, d.before a0 Z = true) : ∀ d ∈ wordsEq, d.before args s = true := fun d hd => by
  have t : ∀ d ∈ wordsEq, (d.onTables && d.keepsFace) = true := by decide +kernel
  exact RoadKit.mv hZ (hw d hd) (t d hd)
/-- the road's facts of a String, as the laws ask it -/
theorem txt_of {Z U : State} {a0 : Array Value} {kI : Nat} (wi : (Jvm.Cond.instantiable ST kI).before a0 Z = true) (al : Z.vm.Alike U.vm) {x t : Addr} {kb : ClassId} {cs : List Int32} {cd N2 : Int32} {vs : List Value} (E : RoadKit.Exa Z U.heap x ST) (V : RoadKit.Fld Z U.heap x ST "value" "[B" (.ref t)) (C : RoadKit.Fld Z U.heap x ST "coder" "B" (.int cd)) (K : RoadKit.Arv Z U.heap t kb .byte N2 vs (.int 0)) (hc : CodA cs cd N2 vs) (hb : ∀ c ∈ cs, ¬ c < 0 ∧ ¬ (65535 : Int32) < c) (l2 : cs.length ≤ 4000) :
    ∃ A, Txt x t A cd cs.length (fun j => cs.getD j 0) U := by
  obtain ⟨A, K1, K2, K3, K4, K5, K6⟩ := K
  have hcod := hc.cod (by omega) K3 K5
  obtain ⟨D, fV, fC, hB, F1, F2, g1, g2, -, -⟩ := strObj wi al E V C
  exact ⟨A, ⟨_, hB.2.2.1, D, hB.1, rfl, by cases q : D.vm <;> first | rfl | exact absurd q (hB.2.1.2 _)⟩, Has.of hB F1 g1, Has.of hB F2 g2, ⟨K1.1, State.isArrayOf_alike al K1.2.1, K1.2.2, by rcases hcod with ⟨-, q, -⟩ | ⟨-, q, -⟩ <;> omega⟩, hcod, fun j hj => by
    have e : cs.getD j 0 = cs[j] := by simp [List.getD_eq_getElem?_getD, hj]
    show ¬ cs.getD j 0 < 0 ∧ ¬ 65535 < cs.getD j 0
    rw [e]; exact hb _ (List.getElem_mem _)⟩
theorem same_list (cs ds : List Int32) : SameT cs.length (fun j => cs.getD j 0) ds.length (fun j => ds.getD j 0) ↔ cs = ds := by
  constructor
  · rintro ⟨e, q⟩
    refine List.ext_getElem e fun j h1 h2 => ?_
    have := q j h1
    simpa [List.getD_eq_getElem?_getD, h1, h2] using this
  · rintro rfl
    exact ⟨rfl, fun _ _ => rfl⟩
/-- **equals(Object) OF TWO SUCH STRINGS**: 1 just where the chars are the same -/
theorem eqW {p : Program} {l : Launch} {e : Env} {R : Room} {s : State} {args : Array Value} {below : List Frame} {len W : Nat} {Z : State} {a0 : Array Value} {h : Heap} (hZ : Z.Warmed39 s.vm) (hw : ∀ d ∈ wordsEq, d.before a0 Z = true) {kI : Nat} (wi : (Jvm.Cond.instantiable ST kI).before a0 Z = true)
    {x t : Addr} {kb : ClassId} {cs : List Int32} {cd N2 : Int32} {vs : List Value} (E : RoadKit.Exa Z h x ST) (V : RoadKit.Fld Z h x ST "value" "[B" (.ref t)) (C : RoadKit.Fld Z h x ST "coder" "B" (.int cd)) (K : RoadKit.Arv Z h t kb .byte N2 vs (.int 0)) (hc : CodA cs cd N2 vs) (hb : ∀ c ∈ cs, ¬ c < 0 ∧ ¬ (65535 : Int32) < c) (l2 : cs.length ≤ 4000)
    {y t' : Addr} {kb' : ClassId} {ds : List Int32} {cd' N2' : Int32} {vs' : List Value} (E' : RoadKit.Exa Z h y ST) (V' : RoadKit.Fld Z h y ST "value" "[B" (.ref t')) (C' : RoadKit.Fld Z h y ST "coder" "B" (.int cd')) (K' : RoadKit.Arv Z h t' kb' .byte N2' vs' (.int 0)) (hc' : CodA ds cd' N2' vs') (hb' : ∀ c ∈ ds, ¬ c < 0 ∧ ¬ (65535 : Int32) < c) (l2' : ds.length ≤ 4000)
    {z : Int32} (S : RoadKit.Sta Z h ST "COMPACT_STRINGS" "Z" (.int z)) (hz : ¬ z = 0) (hfr : 2 ≤ R.frames) (hlo : W + 28 ≤ R.locals) :
    Back l R p e below s args (⟨"java/lang/String", "equals", "(Ljava/lang/Object;)Z"⟩ : MethodName) len W (fun P a => a = #[.ref x, .ref y] ∧ P.U.heap = h ∧ P.cells + 0 ≤ R.cells ∧ P.slots + 0 ≤ R.slots)
      (fun P _ v B => ∃ L, (((v = some (.int 1) ∧ cs = ds) ∨ (v = some (.int 0) ∧ ¬ cs = ds)) ∧ L = [] ∧ B.U.heap = h) ∧ B.locs = P.locs ++ L ∧ B.cells = P.cells + 0 ∧ B.slots = P.slots + 0) := by
  intro m meth c P g ig mk a X hg hsize hdg hW hn hp'
  obtain ⟨rfl, rfl, r1, r2⟩ := hp'
  have al : Z.vm.Alike P.U.vm := hZ.alike.trans X.warmed.alike
  obtain ⟨A, hx⟩ := txt_of wi al E V C K hc hb l2
  obtain ⟨A', hy⟩ := txt_of wi al E' V' C' K' hc' hb' l2'
  obtain ⟨v, B, X', ⟨⟨w, hv, hh, hq⟩, hl, hk, hs⟩, st⟩ := SEq.pays x t A cd cs.length (fun j => cs.getD j 0) y t' A' cd' ds.length (fun j => ds.getD j 0) z (tabEq_of (movedEq hZ hw)) hfr hlo m meth c P g ig mk _ X hg hsize hdg hW hn ⟨r1, r2, rfl, hx, hy, sta_is al S, hz⟩
  refine ⟨v, B, X', ⟨[], ⟨?_, rfl, hh⟩, hl, hk, hs⟩, st⟩
  rcases hq with ⟨rfl, q⟩ | ⟨rfl, q⟩
  · exact Or.inl ⟨hv, (same_list cs ds).mp q⟩
  · exact Or.inr ⟨hv, fun e => q ((same_list cs ds).mpr e)⟩
end StrChars.Road
namespace StrChars
open Jvm Sem ClassFile Op Lib Jvm.Stand Jvm.Free.XT Jvm.Free.ALB Jvm.Free.JM Jvm.Free
open Jvm.Lib.Cold (StaticIs)
namespace ChN
def yN : MethodName := ⟨"java/lang/String", "charAt", "(I)C"⟩
abbrev yB : ByteArray := jdk_42_method_56_code
theorem d0 : decode yB 0 = .ok (.aload_n 0, 1) := by decide +kernel
theorem d1 : decode yB 1 = .ok (.invokevirtual 492, 3) := by decide +kernel
theorem d4 : decode yB 4 = .ok (.ifCond (.eq) 12, 3) := by decide +kernel
theorem d7 : decode yB 7 = .ok (.aload_n 0, 1) := by decide +kernel
theorem d8 : decode yB 8 = .ok (.getfield 9, 3) := by decide +kernel
theorem d11 : decode yB 11 = .ok (.iload_n 1, 1) := by decide +kernel
theorem d12 : decode yB 12 = .ok (.invokestatic 495, 3) := by decide +kernel
theorem d15 : decode yB 15 = .ok (.ireturn, 1) := by decide +kernel
def site : List Cond := [.fieldLink "java/lang/String" 9 "java/lang/String" "value" "[B", IsL.tab, LChA.tab] ++ virtW "java/lang/String" 492 "java/lang/String" IsL.yN IsL.yN ++ staticW "java/lang/String" 495 LChA.yN
def tab : Cond := tabOf yN yB 2 (some .char) site
def P (x t : Addr) (V : Cell) (n : Nat) (f : Nat → Int32) (z : Int32) (fm : Value) (i : Nat) (args : Array Value) (s : State) : Prop := args = #[.ref x, .int (Int32.ofNat i)] ∧ Txt x t V 0 n f s ∧ i < n ∧ StaticIs s "java/lang/String" "COMPACT_STRINGS" "Z" (.int z) ∧ ¬ z = 0 ∧ StaticIs s "jdk/internal/util/Preconditions" "SIOOBE_FORMATTER" "Ljava/util/function/BiFunction;" fm ∧ fm.isRef = true
def E (f : Nat → Int32) (i : Nat) (r : Option Value) (s u : State) : Prop := XT.PureE (some (.int (f i))) r s u
/-- charAt(i) of a Latin-1 String of n chars, i < n: f i -/
theorem law (l : Launch) (x t : Addr) (V : Cell) (n : Nat) (f : Nat → Int32) (z : Int32) (fm : Value) (i : Nat) : Law l yN 2 1 3 40 yB 2 (some .char) site (P x t V n f z fm i) (E f i) [] 0 0 := by
  refine Law.of_walk (plainFor_of_name (by decide +kernel)) (by decide +kernel) (by decide +kernel) (by decide) (fun _ _ h => by rw [h.1]; rfl) (fun _ U U' hal hh h => ⟨h.1, h.2.1.mv hal hh, h.2.2.1, h.2.2.2.1.there hal hh, h.2.2.2.2.1, h.2.2.2.2.2.1.there hal hh, h.2.2.2.2.2.2⟩) (fun r U U' V V' h1 hal h2 h => XT.PureE.mv r U U' V V' h1 hal h2 h) ?_
  intro p e s m args below meth c s₁ X0 hexec hbytes hml hret hlk hnm hown hh0 W hP
  obtain ⟨rfl, hx, hi, s1, hz, s3, rf⟩ := hP
  have v31 := hx.2.2.2.1.2.2.2
  have hr := hx.2.2.2.2.2 i hi
  have hx0 := hx.mv X0.warmed.alike hh0
  have c1 : Steps p.tables e below (s₁.setTop (entryFrame m #[.ref x, .int (Int32.ofNat i)] 2)) (s₁.setTop (mkF m 1 #[.val (.ref x), .val (.int (Int32.ofNat i))] [.ref x])) := Steps.trans (entry rfl) (by
    show Steps p.tables e below (s₁.setTop (mkF m 0 #[.val (.ref x), .val (.int (Int32.ofNat i))] [])) _
    refine XS.aloadN X0.here hexec rfl (hb hbytes d0) rfl rfl ?_
    exact Steps.refl _)
  obtain ⟨v2, T2, X2, E2, g2⟩ := X0.callV hexec (IsL.law l x 0 z) hown (wks W (virtW "java/lang/String" 492 "java/lang/String" IsL.yN IsL.yN)) rfl (by decide) (wk W IsL.tab) (W := 0) (Nat.le_of_ble_eq_true rfl) (Nat.le_of_ble_eq_true rfl) (Nat.le_refl _) (Nat.le_refl _) (hx0.1.fc X0.warmed.alike) hx0.1.is (g := (mkF m 1 #[.val (.ref x), .val (.int (Int32.ofNat i))] [.ref x])) rfl (by rw [hml]; rfl) c1 (argsL := []) (rest := []) rfl rfl (by show 2 * 0 + 0 ≤ _; decide) (hb hbytes d1) (⟨rfl, hx0.2.2.1, hx.2.2.2.2.1.cd, s1.there X0.warmed.alike hh0, hz⟩)
  obtain ⟨rfl, q2⟩ := E2
  have hh2 := q2.trans hh0
  have hx2 := hx.mv X2.warmed.alike hh2
  obtain ⟨-, k1, k2⟩ | ⟨k0, -⟩ := hx.2.2.2.2.1
  · have c3 : Steps p.tables e below (s₁.setTop (entryFrame m #[.ref x, .int (Int32.ofNat i)] 2)) (T2.setTop (mkF m 8 #[.val (.ref x), .val (.int (Int32.ofNat i))] [.ref x])) := Steps.trans g2 (by
      refine XS.ifNo X2.here hexec rfl (hb hbytes d4) rfl (i0_eq_f (by decide)) ?_
      refine XS.aloadN X2.here hexec rfl (hb hbytes d7) rfl rfl ?_
      exact Steps.refl _)
    obtain ⟨T4, X4, q4, st4⟩ := X2.hget hexec hown (wk W (.fieldLink "java/lang/String" 9 "java/lang/String" "value" "[B")) hx2.2.1 (g := (mkF m 8 #[.val (.ref x), .val (.int (Int32.ofNat i))] [.ref x])) rfl (rest := []) rfl (hb hbytes d8)
    have hh4 := q4.trans hh2
    have c5 : Steps p.tables e below (s₁.setTop (entryFrame m #[.ref x, .int (Int32.ofNat i)] 2)) (T4.setTop (mkF m 12 #[.val (.ref x), .val (.int (Int32.ofNat i))] [.int (Int32.ofNat i), .ref t])) := (c3.trans (st4 _ (Steps.refl _))).trans (by
      refine XS.iloadN X4.here hexec rfl (hb hbytes d11) rfl ?_
      exact Steps.refl _)
    obtain ⟨v6, T6, X6, E6, g6⟩ := X4.callS hexec (LChA.law l t V i (lo8 (f i)) fm) hown (wks W (staticW "java/lang/String" 495 LChA.yN)) (wk W LChA.tab) (W := 0) (Nat.le_of_ble_eq_true rfl) (Nat.le_of_ble_eq_true rfl) (Nat.le_refl _) (Nat.le_refl _) (g := (mkF m 12 #[.val (.ref x), .val (.int (Int32.ofNat i))] [.int (Int32.ofNat i), .ref t])) rfl (by rw [hml]; rfl) c5 (argsL := [.ref t, .int (Int32.ofNat i)]) (rest := []) rfl rfl (by show 2 * 0 + 0 ≤ _; decide) (hb hbytes d12) (⟨rfl, hx.2.2.2.1.mv X4.warmed.alike hh4, (k2 i hi).1, s3.there X4.warmed.alike hh4, rf⟩)
    obtain ⟨rfl, q6⟩ := E6
    rw [chr8_lo8 hr.1 (k2 i hi).2] at g6
    exact ⟨T6, some (.int (f i)), _, _, _, X6, rfl, rfl, rfl, (fun h => by cases h), ⟨rfl, q6.trans hh4⟩, fun fs hl => Steps.trans g6 (X6.ireturnOut hexec hret (narrow_ch hr.1 hr.2) (Or.inr (Or.inr (Or.inr (Or.inl rfl)))) (hb hbytes d15) hl)⟩
  · exact absurd k0 (by decide)
theorem pays {l : Launch} {R : Room} {p : Program} {e : Env} {below : List Frame} {s : State} {sargs : Array Value} {len W : Nat} (x t : Addr) (V : Cell) (n : Nat) (f : Nat → Int32) (z : Int32) (fm : Value) (i : Nat) (htab : tab.before sargs s = true) (hfr : 4 ≤ R.frames) (hlo : W + 53 ≤ R.locals) :
    Back l R p e below s sargs yN len W (fun A₁ a₁ => A₁.cells + 0 ≤ R.cells ∧ A₁.slots + 0 ≤ R.slots ∧ P x t V n f z fm i a₁ A₁.U) (fun A₁ _ v₁ B₁ => E f i v₁ A₁.U B₁.U ∧ B₁.locs = A₁.locs ++ [] ∧ B₁.cells = A₁.cells + 0 ∧ B₁.slots = A₁.slots + 0) :=
  (law l x t V n f z fm i).pays htab hfr (by omega)
end ChN
end StrChars
namespace StrChars.Road
open Jvm Sem ClassFile Op Lib Jvm.Stand Jvm.Free Jvm.Free.XT
open Jvm.Lib.Cold (StaticIs)
/-- the words of String.charAt(int), the Latin-1 road alone -/
abbrev wordsChN : List Jvm.Cond := [.code ChN.yN ChN.yB 2 (some .char), .initialized ST, .fieldLink ST 9 ST "value" "[B", .fieldLink ST 38 ST "COMPACT_STRINGS" "Z", .fieldLink ST 15 ST "coder" "B", .code IsL.yN IsL.yB 1 (some .boolean), .methodLink ST 492 IsL.yN, .declares IsL.yN, .selects ST IsL.yN IsL.yN, .instanceMethod IsL.yN,
  .methodLink ST 495 LChA.yN, .static LChA.yN, .code LChA.yN LChA.yB 2 (some .char), .initialized "java/lang/StringLatin1", .methodLink "java/lang/StringLatin1" 9 JO.Str_checkIndex.yN, .static JO.Str_checkIndex.yN, .code JO.Str_checkIndex.yN JO.Str_checkIndex.yB 2 none,
  .fieldLink ST 1053 "jdk/internal/util/Preconditions" "SIOOBE_FORMATTER" "Ljava/util/function/BiFunction;", .methodLink ST 1059 JC.PreCheck.yN, .static JC.PreCheck.yN, .code JC.PreCheck.yN JC.PreCheck.yB 3 (some .int), .initialized "jdk/internal/util/Preconditions"]
theorem tabChN_of {a : Array Value} {s : State} (h : ∀ w ∈ wordsChN, w.before a s = true) : ChN.tab.before a s = true := by
  have hp : JC.PreCheck.tab.before a s = true := unparts (wk h (.code JC.PreCheck.yN JC.PreCheck.yB 3 (some .int))) (wks h (.initialized JC.PreCheck.yN.cls :: JC.PreCheck.site))
  have qk := consq hp h
  have hk : JO.Str_checkIndex.tab.before a s = true := unparts (wk qk (.code JO.Str_checkIndex.yN JO.Str_checkIndex.yB 2 none)) (wks qk (.initialized JO.Str_checkIndex.yN.cls :: JO.Str_checkIndex.site))
  have ql := consq hk h
  have hl : LChA.tab.before a s = true := unparts (wk ql (.code LChA.yN LChA.yB 2 (some .char))) (wks ql (.initialized LChA.yN.cls :: LChA.site))
  have hi : IsL.tab.before a s = true := unparts (wk h (.code IsL.yN IsL.yB 1 (some .boolean))) (wks h (.initialized IsL.yN.cls :: IsL.site))
  have q := consq hi (consq hl h)
  exact unparts (wk q (.code ChN.yN ChN.yB 2 (some .char))) (wks q (.initialized ChN.yN.cls :: ChN.site))
theorem movedChN {Z s : State} {a0 args : Array Value} (hZ : Z.Warmed39 s.vm) (hw : ∀ d ∈ wordsChN, d.before a0 Z = true) : ∀ d ∈ wordsChN, d.before args s = true := fun d hd => by
  have t : ∀ d ∈ wordsChN, (d.onTables && d.keepsFace) = true := by decide +kernel
  exact RoadKit.mv hZ (hw d hd) (t d hd)
/-- **charAt(i) OF A LATIN-1 STRING**, i < n: the char -/
theorem chN {p : Program} {l : Launch} {e : Env} {R : Room} {s : State} {args : Array Value} {below : List Frame} {len W : Nat} {Z : State} {a0 : Array Value} {h : Heap} (hZ : Z.Warmed39 s.vm) (hw : ∀ d ∈ wordsChN, d.before a0 Z = true) {kI : Nat} (wi : (Jvm.Cond.instantiable ST kI).before a0 Z = true)
    {x t : Addr} {kb : ClassId} {cs : List Int32} {N2 z : Int32} {vs : List Value} {fm : Value} {i : Nat} {j : Int32} (E : RoadKit.Exa Z h x ST) (V : RoadKit.Fld Z h x ST "value" "[B" (.ref t)) (C : RoadKit.Fld Z h x ST "coder" "B" (.int 0)) (K : RoadKit.Arv Z h t kb .byte N2 vs (.int 0)) (hc : CodA cs 0 N2 vs) (hb : ∀ c ∈ cs, ¬ c < 0 ∧ ¬ (65535 : Int32) < c)
    (S : RoadKit.Sta Z h ST "COMPACT_STRINGS" "Z" (.int z)) (hz : ¬ z = 0) (F : RoadKit.Sta Z h "jdk/internal/util/Preconditions" "SIOOBE_FORMATTER" "Ljava/util/function/BiFunction;" fm) (rf : fm.isRef = true) (l2 : cs.length ≤ 4000) (hi : i < cs.length) (hj : j = Int32.ofNat i) (hfr : 4 ≤ R.frames) (hlo : W + 53 ≤ R.locals) :
    Back l R p e below s args (⟨"java/lang/String", "charAt", "(I)C"⟩ : MethodName) len W (fun P a => a = #[.ref x, .int j] ∧ P.U.heap = h ∧ P.cells + 0 ≤ R.cells ∧ P.slots + 0 ≤ R.slots)
      (fun P _ v B => ∃ L, (v = some (.int (cs.getD i 0)) ∧ L = [] ∧ B.U.heap = h) ∧ B.locs = P.locs ++ L ∧ B.cells = P.cells + 0 ∧ B.slots = P.slots + 0) := by
  subst hj
  intro m meth c P g ig mk a X hg hsize hdg hW hn hp'
  obtain ⟨rfl, rfl, r1, r2⟩ := hp'
  have al : Z.vm.Alike P.U.vm := hZ.alike.trans X.warmed.alike
  obtain ⟨A, hx⟩ := txt_of wi al E V C K hc hb l2
  obtain ⟨v, B, X', ⟨⟨hv, hh⟩, hl, hk, hs⟩, st⟩ := ChN.pays x t A cs.length (fun j => cs.getD j 0) z fm i (tabChN_of (movedChN hZ hw)) hfr hlo m meth c P g ig mk _ X hg hsize hdg hW hn ⟨r1, r2, rfl, hx, hi, sta_is al S, hz, sta_is al F, rf⟩
  exact ⟨v, B, X', ⟨[], ⟨hv, rfl, hh⟩, hl, hk, hs⟩, st⟩
/-- what backV says of its String, as the contracts of this text ask it: cs's low bytes, coder 0 -/
theorem codOf {cs : List Int32} {n : Nat} (hn : cs.length = n) (hb : ∀ c ∈ cs, ¬ 255 < c) : CodA cs 0 (Int32.ofNat n) ((cs.map lo8).map Value.int) := Or.inl ⟨rfl, by rw [hn], by simp [List.map_map, Function.comp_def], hb⟩
end StrChars.Road
end Jvm.Pilot.@@N@@
/- own kit 1: goal-directed walks -/
namespace Jvm.Pilot.@@N@@
open Jvm Jvm.ClassFile Sem Op Lib Jvm.Free Jvm.Stand Jvm.LawKit Jvm.RoadKit Bundle Jvm.Pilot.@@N@@.Jvm.D
section OwnKit
variable {p : Program} {l : Launch} {e : Env} {R : Room} {s : State} {m : MethodId} {args : Array Value} {below : List Frame} {meth : Method} {c : Code} {T : State} {locs : List Loc} {cells slots : Nat} {Z : State} {a0 : Array Value} {h : Heap}
/-- a method's contract: what it leaves, asked at the heap h with these arguments -/
abbrev own_C (l : Launch) (Z : State) (y : MethodName) (bytes : ByteArray) (maxL : Nat) (ret : Option FieldType) (ws : List Jvm.Cond) (rm : Room) (as : Array Value) (h : Heap) (Q : Option Value → Heap → List Loc → Prop) : Prop :=
  MetFree l y (head1 (Jvm.Cond.code y bytes maxL ret :: ws) rm) (fun a U => a = as ∧ Z.Warmed39 U.vm ∧ U.heap = h) (fun _ _ _ _ _ => True) (fun _ U o U' => ∃ v L, o = .returned v ∧ Q v U'.heap L ∧ FrameEnd U o U' L rm.cells rm.slots)
/-- the same at a call -/
abbrev own_Bk (l : Launch) (R : Room) (p : Program) (e : Env) (below : List Frame) (s : State) (args : Array Value) (y : MethodName) (len W : Nat) (as : Array Value) (h : Heap) (kc ks : Nat) (Q : Option Value → Heap → List Loc → Prop) : Prop :=
  Back l R p e below s args y len W (fun A a => a = as ∧ A.U.heap = h ∧ A.cells + kc ≤ R.cells ∧ A.slots + ks ≤ R.slots) (fun A _ v B => ∃ L, Q v B.U.heap L ∧ B.locs = A.locs ++ L ∧ B.cells = A.cells + kc ∧ B.slots = A.slots + ks)
/-- from the state A the body comes to its end as Q says -/
def own_Go (p : Program) (e : Env) (below : List Frame) (s : State) (Q : Option Value → Heap → List Loc → Prop) (C S : Nat) (A : State) : Prop :=
  ∃ t v L, Steps p.tables e below A t ∧ t.status = .running ∧ Ended t below (.returned v) ∧ Q v t.heap L ∧ FrameEnd s (.returned v) t L C S
theorem own_st {Q : Option Value → Heap → List Loc → Prop} {C S : Nat} {A B : State} (k : ∀ t, Steps p.tables e below B t → Steps p.tables e below A t) (G : own_Go p e below s Q C S B) : own_Go p e below s Q C S A := by
  obtain ⟨t, v, L, h1, h2⟩ := G
  exact ⟨t, v, L, k t h1, h2⟩
theorem own_body {y : MethodName} {bytes : ByteArray} {maxL : Nat} {ret : Option FieldType} {ws : List Jvm.Cond} {rm : Room} {as : Array Value} {Q : Option Value → Heap → List Loc → Prop} (hp : plainFor y = true)
    (body : ∀ (p : Program) (e : Env) (s : State) (m : MethodId) (below : List Frame) (meth : Method) (c : Code) (T : State), Stand p l e rm s m as below meth c T [] 0 0 → p.tables.exec = Jvm.exec → c.code = bytes → c.maxLocals = maxL → Z.Warmed39 s.vm → s.vm.findClass y.cls = some m.cls → meth.name = y.name → meth.sig.returnType = ret → meth.locks = false → T.heap = h →
      own_Go p e below s Q rm.cells rm.slots (T.setTop (entryFrame m as maxL))) : own_C l Z y bytes maxL ret ws rm as h Q := by
  refine MetFree.of_bodySF hp hisR ?_
  intro p e s m args below meth c s₁ Bd hml hP hK
  obtain ⟨rfl, hZ, hh⟩ := hP
  obtain ⟨t, v, L, h1, h2, h3, h4, h5⟩ := body p e s m below meth c s₁ (Stand.of_body Bd) Bd.exec Bd.bytes hml hZ (findClass_of_methodNamed Bd.named) (name_of_methodNamed Bd.named Bd.method).1 Bd.returns Bd.notSynchronized (by rw [← hh, Bd.state]; rfl)
  exact ⟨t, _, h1, h2, h3, v, L, rfl, h4, h5⟩
theorem own_ret {Q : Option Value → Heap → List Loc → Prop} {C S : Nat} (X : Stand p l e R s m args below meth c T locs cells slots) (hx : p.tables.exec = Jvm.exec) (hk : meth.locks = false) (eT : T.heap = h) {pc : Nat} {Ls : Array Slot} {w : Value} {t : FieldType} {i : Instr} {rest : List Value} (hret : meth.sig.returnType = some t) (hn : narrow t w = w)
    (hi : (i = .ireturn ∧ (t = .int ∨ t = .boolean ∨ t = .byte ∨ t = .char ∨ t = .short) ∧ ∃ z, w = .int z) ∨ (i = .lreturn ∧ t = .long ∧ ∃ z, w = .long z) ∨ (i = .dreturn ∧ t = .double ∧ ∃ z, w = .double z) ∨ (i = .freturn ∧ t = .float ∧ ∃ z, w = .float z) ∨ (i = .areturn ∧ t.isReference = true ∧ w.isRef = true))
    (hd : decode c.code pc = .ok (i, 1)) (hc : cells ≤ C) (hs : slots ≤ S) (hq : Q (some w) h locs) : own_Go p e below s Q C S (T.setTop (mkF m pc Ls (w :: rest))) := by
  obtain ⟨fs, hr, hrun, hended, hW, hsame⟩ := X.leave (v := some w) (fun h => by rw [hret] at h; cases h) hk
  exact ⟨_, some w, locs, retOut X hx hret hn hi hd hr, hrun, hended, by subst eT; exact hq, ⟨_, rfl⟩, hW, hsame.mono hc hs⟩
theorem own_retV {Q : Option Value → Heap → List Loc → Prop} {C S : Nat} (X : Stand p l e R s m args below meth c T locs cells slots) (hx : p.tables.exec = Jvm.exec) (hk : meth.locks = false) (eT : T.heap = h) {pc : Nat} {Ls : Array Slot} (hret : meth.sig.returnType = none)
    (hd : decode c.code pc = .ok (.return_, 1)) (hc : cells ≤ C) (hs : slots ≤ S) (hq : Q none h locs) : own_Go p e below s Q C S (T.setTop (mkF m pc Ls [])) := by
  obtain ⟨fs, hr, hrun, hended, hW, hsame⟩ := X.leave (v := none) (fun _ => rfl) hk
  exact ⟨_, none, locs, X.returnOut hx hret hd hr, hrun, hended, by subst eT; exact hq, ⟨_, rfl⟩, hW, hsame.mono hc hs⟩
theorem own_bk {y : MethodName} {bytes : ByteArray} {maxL : Nat} {ret : Option FieldType} {rm : Room} {len W : Nat} {as : Array Value} {Q : Option Value → Heap → List Loc → Prop} (hM : own_C l Z y bytes maxL ret [] rm as h Q) (hZ : Z.Warmed39 s.vm) (wc : (Jvm.Cond.code y bytes maxL ret).before a0 Z = true) (wz : (Jvm.Cond.initialized y.cls).before a0 Z = true) (hf : rm.frames + 1 ≤ R.frames) (hl : W + (maxL + 11) + rm.locals ≤ R.locals) :
    own_Bk l R p e below s args y len W as h rm.cells rm.slots Q := backOf hM hZ wc wz hf hl
theorem own_callS (X : Stand p l e R s m args below meth c T locs cells slots) (hx : p.tables.exec = Jvm.exec) (hZ : Z.Warmed39 s.vm) {own : String} {index : Nat} {y : MethodName} {bytes : ByteArray} {maxL : Nat} {ret : Option FieldType}
    (hown : s.vm.findClass own = some m.cls) (w1 : (Jvm.Cond.methodLink own index y).before a0 Z = true) (w2 : (Jvm.Cond.static y).before a0 Z = true) (w3 : (Jvm.Cond.initialized y.cls).before a0 Z = true) (w4 : (Jvm.Cond.code y bytes maxL ret).before a0 Z = true) (hy : y.cls ≠ "java/lang/invoke/MethodHandle" ∧ y.cls ≠ "java/lang/invoke/VarHandle")
    {W kc ks : Nat} {as : Array Value} {Q : Option Value → Heap → List Loc → Prop} (hK : own_Bk l R p e below s args y 3 W as h kc ks Q) (eT : T.heap = h) (hc : cells + kc ≤ R.cells) (hs : slots + ks ≤ R.slots)
    {g : JFrame} (hg : g.method = m) (hsize : g.locals.size = c.maxLocals) {argsL rest : List Value} (hlen : ∀ sig, parseMethodDescriptor y.desc = some sig → argsL.length = sig.parameters.length) (hstack : g.stack = argsL.reverse ++ rest) (has : argsL.toArray = as) (hW : 2 * g.monitorRoom + (rest.map fun v => v.category).sum ≤ W) (hdg : decode c.code g.pc = .ok (.invokestatic index, 3)) :
    ∃ (T' : State) (v : Option Value) (L : List Loc) (h' : Heap), Stand p l e R s m args below meth c T' (locs ++ L) (cells + kc) (slots + ks) ∧ T'.heap = h' ∧ Q v h' L ∧ ∀ t, Steps p.tables e below (T'.setTop { g with pc := g.pc + 3, stack := v.toList ++ rest }) t → Steps p.tables e below (T.setTop g) t := by
  obtain ⟨v, _, ⟨T', L', k', n'⟩, -, X', ⟨L, hQ, l1, y1, z1⟩, st⟩ := Jvm.LawKit.callS X hx hown (mvT hZ w1) (mvT hZ w2) (mvT hZ w3) (mvT hZ w4) hy hK hg hsize hlen hstack hW hdg (fun _ _ => ⟨has, eT, hc, hs⟩)
  dsimp only [Pt.U, Pt.locs, Pt.cells, Pt.slots] at X' hQ l1 y1 z1 st
  subst l1 y1 z1
  exact ⟨T', v, L, _, X', rfl, hQ, st⟩
theorem own_callI (X : Stand p l e R s m args below meth c T locs cells slots) (hx : p.tables.exec = Jvm.exec) (hZ : Z.Warmed39 s.vm) {own : String} {index : Nat} {y : MethodName} (hy1 : y.name = "<init>") {bytes : ByteArray} {maxL : Nat}
    (hown : s.vm.findClass own = some m.cls) (w1 : (Jvm.Cond.methodLink own index y).before a0 Z = true) (w2 : (Jvm.Cond.instanceMethod y).before a0 Z = true) (w3 : (Jvm.Cond.code y bytes maxL none).before a0 Z = true) (hy : y.cls ≠ "java/lang/invoke/MethodHandle" ∧ y.cls ≠ "java/lang/invoke/VarHandle")
    {W kc ks : Nat} {as : Array Value} {Q : Option Value → Heap → List Loc → Prop} (hK : own_Bk l R p e below s args y 3 W as h kc ks Q) (eT : T.heap = h) (hc : cells + kc ≤ R.cells) (hs : slots + ks ≤ R.slots)
    {g : JFrame} (hg : g.method = m) (hsize : g.locals.size = c.maxLocals) {a : Addr} {argsL rest : List Value} (hlen : ∀ sig, parseMethodDescriptor y.desc = some sig → argsL.length = sig.parameters.length) (hstack : g.stack = argsL.reverse ++ .ref a :: rest) (has : (.ref a :: argsL).toArray = as) (hW : 2 * g.monitorRoom + (rest.map fun v => v.category).sum ≤ W) (hdg : decode c.code g.pc = .ok (.invokespecial index, 3)) :
    ∃ (T' : State) (v : Option Value) (L : List Loc) (h' : Heap), Stand p l e R s m args below meth c T' (locs ++ L) (cells + kc) (slots + ks) ∧ T'.heap = h' ∧ Q v h' L ∧ ∀ t, Steps p.tables e below (T'.setTop { g with pc := g.pc + 3, stack := v.toList ++ rest }) t → Steps p.tables e below (T.setTop g) t := by
  obtain ⟨v, _, ⟨T', L', k', n'⟩, -, X', ⟨L, hQ, l1, y1, z1⟩, st⟩ := X.specialBack hx hy1 hown (mvT hZ w1) (mvT hZ w2) (mvT hZ w3) hy hK hg hsize (Steps.refl _) hlen hstack hW hdg (fun _ _ => ⟨has, eT, hc, hs⟩)
  dsimp only [Pt.U, Pt.locs, Pt.cells, Pt.slots] at X' hQ l1 y1 z1 st
  subst l1 y1 z1
  exact ⟨T', v, L, _, X', rfl, hQ, fun t k => st.trans k⟩
theorem own_callV (X : Stand p l e R s m args below meth c T locs cells slots) (hx : p.tables.exec = Jvm.exec) (hZ : Z.Warmed39 s.vm) {own C : String} {index : Nat} {y z : MethodName}
    (hown : s.vm.findClass own = some m.cls) (w1 : (Jvm.Cond.methodLink own index y).before a0 Z = true) (w2 : (Jvm.Cond.declares y).before a0 Z = true) (nf : NotFace s y) (w3 : (Jvm.Cond.selects C y z).before a0 Z = true) (w4 : (Jvm.Cond.instanceMethod z).before a0 Z = true) (hy : y.cls ≠ "java/lang/invoke/MethodHandle" ∧ y.cls ≠ "java/lang/invoke/VarHandle")
    {W kc ks : Nat} {as : Array Value} {Q : Option Value → Heap → List Loc → Prop} (hK : own_Bk l R p e below s args z 3 W as h kc ks Q) (eT : T.heap = h) {b : Addr} (E : Exa Z h b C) (hc : cells + kc ≤ R.cells) (hs : slots + ks ≤ R.slots)
    {g : JFrame} (hg : g.method = m) (hsize : g.locals.size = c.maxLocals) {argsL rest : List Value} (hlen : ∀ sig, parseMethodDescriptor y.desc = some sig → argsL.length = sig.parameters.length) (hstack : g.stack = argsL.reverse ++ .ref b :: rest) (has : (.ref b :: argsL).toArray = as) (hW : 2 * g.monitorRoom + (rest.map fun v => v.category).sum ≤ W) (hdg : decode c.code g.pc = .ok (.invokevirtual index, 3)) :
    ∃ (T' : State) (v : Option Value) (L : List Loc) (h' : Heap), Stand p l e R s m args below meth c T' (locs ++ L) (cells + kc) (slots + ks) ∧ T'.heap = h' ∧ Q v h' L ∧ ∀ t, Steps p.tables e below (T'.setTop { g with pc := g.pc + 3, stack := v.toList ++ rest }) t → Steps p.tables e below (T.setTop g) t := by
  obtain ⟨cq, kq, qa, qb, qc⟩ := isOf hZ eT E
  obtain ⟨v, _, ⟨T', L', k', n'⟩, -, X', ⟨L, hQ, l1, y1, z1⟩, st⟩ := X.virtualBack hx hown (mvT hZ w1) (mvT hZ w2) nf (mvT hZ w3) (mvT hZ w4) hy hK qa qc hg hsize (Steps.refl _) hlen hstack hW hdg (fun _ _ => ⟨has, eT, hc, hs⟩)
  dsimp only [Pt.U, Pt.locs, Pt.cells, Pt.slots] at X' hQ l1 y1 z1 st
  subst l1 y1 z1
  exact ⟨T', v, L, _, X', rfl, hQ, fun t k => st.trans k⟩
theorem own_callF (X : Stand p l e R s m args below meth c T locs cells slots) (hx : p.tables.exec = Jvm.exec) (hZ : Z.Warmed39 s.vm) {own C : String} {index count : Nat} {y z : MethodName}
    (hown : s.vm.findClass own = some m.cls) (w1 : (Jvm.Cond.methodLink own index y).before a0 Z = true) (w2 : (Jvm.Cond.declares y).before a0 Z = true) (w3 : (Jvm.Cond.interfaceMethod y.cls y.cls y.name y.desc).before args s = true) (w4 : (Jvm.Cond.selects C y z).before a0 Z = true) (w5 : (Jvm.Cond.instanceMethod z).before a0 Z = true) (w6 : (Jvm.Cond.publicMethod z).before a0 Z = true) (w7 : (Jvm.Cond.unhidden C y.name y.desc).before a0 Z = true) (w8 : (Jvm.Cond.castable C y.cls).before a0 Z = true) (hy : y.cls ≠ "java/lang/invoke/MethodHandle" ∧ y.cls ≠ "java/lang/invoke/VarHandle")
    {W kc ks : Nat} {as : Array Value} {Q : Option Value → Heap → List Loc → Prop} (hK : own_Bk l R p e below s args z 5 W as h kc ks Q) (eT : T.heap = h) {b : Addr} (E : Exa Z h b C) (hc : cells + kc ≤ R.cells) (hs : slots + ks ≤ R.slots)
    {g : JFrame} (hg : g.method = m) (hsize : g.locals.size = c.maxLocals) {argsL rest : List Value} (hlen : ∀ sig, parseMethodDescriptor y.desc = some sig → argsL.length = sig.parameters.length) (hstack : g.stack = argsL.reverse ++ .ref b :: rest) (has : (.ref b :: argsL).toArray = as) (hW : 2 * g.monitorRoom + (rest.map fun v => v.category).sum ≤ W) (hdg : decode c.code g.pc = .ok (.invokeinterface index count, 5)) :
    ∃ (T' : State) (v : Option Value) (L : List Loc) (h' : Heap), Stand p l e R s m args below meth c T' (locs ++ L) (cells + kc) (slots + ks) ∧ T'.heap = h' ∧ Q v h' L ∧ ∀ t, Steps p.tables e below (T'.setTop { g with pc := g.pc + 5, stack := v.toList ++ rest }) t → Steps p.tables e below (T.setTop g) t := by
  obtain ⟨cq, kq, qa, qb, qc⟩ := isOf hZ eT E
  obtain ⟨v, _, ⟨T', L', k', n'⟩, -, X', ⟨L, hQ, l1, y1, z1⟩, st⟩ := X.interfaceBack hx hown (mvT hZ w1) (mvT hZ w2) w3 (mvT hZ w4) (mvT hZ w5) (mvT hZ w6) (mvT hZ w7) (mvT hZ w8) hy hK qa qb qc hg hsize (Steps.refl _) hlen hstack hW hdg (fun _ _ => ⟨has, eT, hc, hs⟩)
  dsimp only [Pt.U, Pt.locs, Pt.cells, Pt.slots] at X' hQ l1 y1 z1 st
  subst l1 y1 z1
  exact ⟨T', v, L, _, X', rfl, hQ, fun t k => st.trans k⟩
theorem own_ninS {x y : Nat} {L : List Nat} (q : x ≠ y) (r : x ∉ L) : x ∉ y :: L := ninS q r
theorem own_old {n0 : Nat} (O : Old Z n0 h) : n0 ≤ h.size := O.1 ▸ O.2.1
end OwnKit
end Jvm.Pilot.@@N@@
/- own kit 2: Strings of known chars -/
namespace Jvm.Pilot.@@N@@
open Jvm Jvm.ClassFile Sem Op Lib Jvm.Free Jvm.Stand Jvm.LawKit Jvm.RoadKit Bundle Jvm.Pilot.@@N@@.Jvm.D
section OwnStr
variable {p : Program} {l : Launch} {e : Env} {R : Room} {s : State} {args : Array Value} {below : List Frame} {Z : State} {a0 : Array Value} {h h' : Heap} {len W n0 : Nat}
def own_CS (Z : State) : Prop := ∃ z : Int32, Sta Z Z.heap "java/lang/String" "COMPACT_STRINGS" "Z" (.int z) ∧ ¬ z = 0
def own_Str (Z : State) (h : Heap) (x : Addr) (cs : List Int32) : Prop := Exa Z h x "java/lang/String" ∧ ∃ (t : Addr) (kb : ClassId) (cd N2 : Int32) (vs : List Value), Fld Z h x "java/lang/String" "value" "[B" (.ref t) ∧ Fld Z h x "java/lang/String" "coder" "B" (.int cd) ∧ Arv Z h t kb .byte N2 vs (.int 0) ∧ StrChars.Road.CodA cs cd N2 vs ∧ (∀ c ∈ cs, ¬ c < 0 ∧ ¬ (65535 : Int32) < c) ∧ cs.length ≤ 4000
theorem own_Str.keep {x : Addr} {cs : List Int32} (S : own_Str Z h x cs) (K : Keep h h' []) (_ : x ∉ ([] : List Addr)) : own_Str Z h' x cs := by
  obtain ⟨E, t, kb, cd, N2, vs, F1, F2, A, r⟩ := S
  exact ⟨E.keep K, t, kb, cd, N2, vs, F1.keep K nin0, F2.keep K nin0, A.keep K nin0, r⟩
theorem own_Str.lt {x : Addr} {cs : List Int32} (S : own_Str Z h x cs) : x < h.size := S.1.lt
theorem own_wNew (hw : ∀ d ∈ tables_1, d.before a0 Z = true) : ∀ d ∈ StrChars.Road.words, d.before a0 Z = true := fun d hd => hw d ((by decide +kernel : ∀ d ∈ StrChars.Road.words, d ∈ tables_1) d hd)
theorem own_up (cs : List Int32) (h : ∀ c ∈ cs, ¬ c < 0 ∧ ¬ (255 : Int32) < c) : ∀ c ∈ cs, ¬ c < 0 ∧ ¬ (65535 : Int32) < c := fun c hc => ⟨(h c hc).1, fun q => (h c hc).2 (by rw [Int32.lt_iff_toInt_lt] at q ⊢; have e1 : (65535 : Int32).toInt = 65535 := rfl; have e2 : (255 : Int32).toInt = 255 := rfl; omega)⟩
/-- new String(char[]) of known chars, each 0 to 255 -/
theorem own_nsB (hZ : Z.Warmed39 s.vm) (hw : ∀ d ∈ StrChars.Road.words, d.before a0 Z = true) {kI : Nat} (wi : (Jvm.Cond.instantiable "java/lang/String" kI).before a0 Z = true) {x b : Addr} {kC : ClassId} {cs : List Int32} {d v0 c0 : Value} {N : Int32} {n : Nat} (hx0 : n0 ≤ x) (O : Old Z n0 h) (CS : own_CS Z) (E : Exa Z h x "java/lang/String") (V : Fld Z h x "java/lang/String" "value" "[B" v0) (C : Fld Z h x "java/lang/String" "coder" "B" c0) (K : Arv Z h b kC .char N (cs.map Value.int) d)
    (hn : cs.length = n) (hN : N = Int32.ofNat n) (l0 : 0 < n) (l2 : n ≤ 4000) (hp : ∀ c ∈ cs, ¬ c < 0 ∧ ¬ (255 : Int32) < c) (hfr : 4 ≤ R.frames) (hlo : W + 65 ≤ R.locals) :
    own_Bk l R p e below s args (⟨"java/lang/String", "<init>", "([C)V"⟩ : MethodName) len W #[.ref x, .ref b] h 1 n (fun v h' L => v = none ∧ Fr n0 L ∧ Keep h h' [x] ∧ own_Str Z h' x cs) := by
  obtain ⟨z, S, hz⟩ := CS
  refine Back.mono (StrChars.Road.backV hZ hw wi hx0 (own_old O) E V C K (S.ext O.2) hz hn hN l0 l2 hp rfl hfr hlo) (fun _ _ hp => hp) (fun A a v B _ hq => ?_)
  obtain ⟨L, ⟨q1, q2, q3, q4, q5, t, kb, q6, q7, q8, q9, q10⟩, hl, hc, hs⟩ := hq
  exact ⟨L, ⟨q1, q2, q3, q4, t, kb, 0, N, _, q9, q5, q10, hN ▸ StrChars.Road.codOf hn (fun c hc => (hp c hc).2), own_up _ hp, hn ▸ l2⟩, hl, hc, hs⟩
theorem own_nar255 (x : Int32) : ¬ nar .char ((x &&& (255 : Int32)).toUInt32.toUInt16.toUInt32.toInt32) < 0 ∧ ¬ (255 : Int32) < nar .char ((x &&& (255 : Int32)).toUInt32.toUInt16.toUInt32.toInt32) := by
  have t : ∀ k : Fin 256, ¬ nar .char ((Int32.ofNat k.val).toUInt32.toUInt16.toUInt32.toInt32) < 0 ∧ ¬ (255 : Int32) < nar .char ((Int32.ofNat k.val).toUInt32.toUInt16.toUInt32.toInt32) := by decide +kernel
  have h : (x &&& 255).toBitVec.toNat < 256 := by
    simp only [Int32.toBitVec_and, BitVec.toNat_and]
    exact Nat.lt_succ_of_le Nat.and_le_right
  have e : (x &&& 255) = Int32.ofNat (x &&& 255).toBitVec.toNat := by
    apply Int32.toBitVec_inj.mp
    show _ = BitVec.ofNat 32 _
    rw [BitVec.ofNat_toNat]; simp
  rw [e]
  exact t ⟨_, h⟩
theorem own_lt {x y : Int32} : x < y ↔ x.toInt < y.toInt := Int32.lt_iff_toInt_lt
theorem own_narC {c : Int32} (h : ¬ c < 0 ∧ ¬ (65535 : Int32) < c) : nar .char c = c := by
  have q := c_i2c c
  rw [own_lt, own_lt] at h
  have e1 : (65535 : Int32).toInt = 65535 := rfl
  have e2 : (0 : Int32).toInt = 0 := rfl
  apply Int32.toInt_inj.mp
  show c.toUInt32.toUInt16.toUInt32.toInt32.toInt = c.toInt
  omega
theorem own_up1 {c : Int32} (h : ¬ c < 0 ∧ ¬ (255 : Int32) < c) : ¬ c < 0 ∧ ¬ (65535 : Int32) < c := by
  rw [own_lt, own_lt] at h ⊢
  have e1 : (65535 : Int32).toInt = 65535 := rfl
  have e2 : (255 : Int32).toInt = 255 := rfl
  omega
theorem own_narL {c : Int32} (h : ¬ c < 0 ∧ ¬ (255 : Int32) < c) : nar .char c = c := own_narC (own_up1 h)
theorem own_m255 (x : Int32) : ¬ (x &&& (255 : Int32)) < 0 ∧ ¬ (255 : Int32) < (x &&& (255 : Int32)) := by
  have q := c_and x 255 (by decide)
  rw [own_lt, own_lt]
  have e1 : (255 : Int32).toInt = 255 := rfl
  have e2 : (0 : Int32).toInt = 0 := rfl
  omega
theorem own_i2cm (x : Int32) : (x &&& (255 : Int32)).toUInt32.toUInt16.toUInt32.toInt32 = (x &&& (255 : Int32)) := own_narL (own_m255 x)
theorem own_narm (x : Int32) : nar .char ((x &&& (255 : Int32)).toUInt32.toUInt16.toUInt32.toInt32) = (x &&& (255 : Int32)) := by rw [own_i2cm]; exact own_narL (own_m255 x)
theorem own_all1 {P : Int32 → Prop} {a : Int32} (h : P a) : ∀ c ∈ [a], P c := fun c hc => by rw [List.mem_singleton.mp hc]; exact h
theorem own_allC {P : Int32 → Prop} {a : Int32} {L : List Int32} (h : P a) (r : ∀ c ∈ L, P c) : ∀ c ∈ a :: L, P c := fun c hc => by
  rcases List.mem_cons.mp hc with e | e
  · rw [e]; exact h
  · exact r c e
end OwnStr
end Jvm.Pilot.@@N@@
/- own kit 3: small naturals as ints -/
namespace Jvm.Pilot.@@N@@
open Jvm Jvm.ClassFile Sem Op Lib Jvm.Free Jvm.Stand Jvm.LawKit Jvm.RoadKit Bundle Jvm.Pilot.@@N@@.Jvm.D
section OwnNum
theorem own_ti {n : Nat} (h : n < 2147483648) : (Int32.ofNat n).toInt = n := Int32.toInt_ofNat_small h
theorem own_nlt {a b : Nat} (ha : a < 2147483648) (hb : b < 2147483648) : Int32.ofNat a < Int32.ofNat b ↔ a < b := by
  rw [Int32.lt_iff_toInt_lt, own_ti ha, own_ti hb]; omega
theorem own_nin {a b : Nat} (ha : a < 2147483648) (hb : b < 2147483648) : Int32.ofNat a = Int32.ofNat b ↔ a = b := by
  rw [← Int32.toInt_inj, own_ti ha, own_ti hb]; omega
theorem own_nsub {a b : Nat} (h : a ≤ b) (hb : b < 2147483648) : Int32.ofNat b - Int32.ofNat a = Int32.ofNat (b - a) := by
  have q := c_isub (Int32.ofNat b) (Int32.ofNat a)
  have r := rng32 (Int32.ofNat b - Int32.ofNat a)
  rw [own_ti hb, own_ti (by omega)] at q
  rw [← Int32.toInt_inj, own_ti (by omega)]; omega
theorem own_nadd {a b : Nat} (h : a + b < 2147483648) : Int32.ofNat a + Int32.ofNat b = Int32.ofNat (a + b) := by
  have q := c_iadd (Int32.ofNat a) (Int32.ofNat b)
  have r := rng32 (Int32.ofNat a + Int32.ofNat b)
  rw [own_ti (by omega), own_ti (by omega)] at q
  rw [← Int32.toInt_inj, own_ti h]; omega
theorem own_nn {a : Nat} (h : a < 2147483648) : ¬ Int32.ofNat a < 0 := by
  rw [Int32.lt_iff_toInt_lt, own_ti h]; have : (0 : Int32).toInt = 0 := rfl; omega
theorem own_tcn {a : Nat} (h : a < 2147483648) : (Int32.ofNat a).toNatClampNeg = a := by
  have q := nat_of (own_nn h)
  rw [own_ti h] at q; omega
theorem own_exN {x : Int32} (h : 0 ≤ x.toInt) : ∃ n : Nat, x = Int32.ofNat n ∧ (n : Int) = x.toInt := by
  have r := rng32 x
  refine ⟨x.toInt.toNat, ?_, by omega⟩
  rw [← Int32.toInt_inj, own_ti (by omega)]; omega
end OwnNum
end Jvm.Pilot.@@N@@
namespace Jvm.Pilot.@@N@@
open Jvm Jvm.ClassFile Sem Op Lib Jvm.Free Jvm.Stand Jvm.LawKit Jvm.RoadKit Bundle Jvm.Pilot.@@N@@.Jvm.D
section OwnStrLen
variable {p : Program} {l : Launch} {e : Env} {R : Room} {s : State} {args : Array Value} {below : List Frame} {Z : State} {a0 : Array Value} {h h' : Heap} {len W n0 : Nat}
theorem own_wLen (hw : ∀ d ∈ tables_1, d.before a0 Z = true) : ∀ d ∈ StrChars.Road.wordsLen, d.before a0 Z = true := fun d hd => hw d ((by decide +kernel : ∀ d ∈ StrChars.Road.wordsLen, d ∈ tables_1) d hd)
theorem own_lenB (hZ : Z.Warmed39 s.vm) (hw : ∀ d ∈ StrChars.Road.wordsLen, d.before a0 Z = true) {kI : Nat} (wi : (Jvm.Cond.instantiable "java/lang/String" kI).before a0 Z = true) {x : Addr} {cs : List Int32} (O : Old Z n0 h) (CS : own_CS Z) (S1 : own_Str Z h x cs) (hfr : 2 ≤ R.frames) (hlo : W + 25 ≤ R.locals) :
    own_Bk l R p e below s args (⟨"java/lang/String", "length", "()I"⟩ : MethodName) len W #[.ref x] h 0 0 (fun v h' L => v = some (.int (Int32.ofNat cs.length)) ∧ Fr n0 L ∧ h' = h) := by
  obtain ⟨z, S, hz⟩ := CS
  obtain ⟨E1, t, kb, cd, N2, vs, F1, F2, A, r1, r2, r3⟩ := S1
  refine Back.mono (StrChars.Road.lenW hZ hw wi E1 F1 F2 A r1 r2 (S.ext O.2) hz r3 hfr hlo) (fun _ _ hp => hp) (fun A a v B _ hq => ?_)
  obtain ⟨L, ⟨hc, rfl, e1⟩, hl, hk, hs⟩ := hq
  exact ⟨[], ⟨hc, Fr.nil _, e1⟩, hl, hk, hs⟩
end OwnStrLen
end Jvm.Pilot.@@N@@
namespace Jvm.Pilot.@@N@@
open Jvm Jvm.ClassFile Sem Op Lib Jvm.Free Jvm.Stand Jvm.LawKit Jvm.RoadKit Bundle Jvm.Pilot.@@N@@.Jvm.D
section OwnStrEq
variable {p : Program} {l : Launch} {e : Env} {R : Room} {s : State} {args : Array Value} {below : List Frame} {Z : State} {a0 : Array Value} {h h' : Heap} {len W n0 : Nat}
theorem own_wEq (hw : ∀ d ∈ tables_1, d.before a0 Z = true) : ∀ d ∈ StrChars.Road.wordsEq, d.before a0 Z = true := fun d hd => hw d ((by decide +kernel : ∀ d ∈ StrChars.Road.wordsEq, d ∈ tables_1) d hd)
theorem own_eqB (hZ : Z.Warmed39 s.vm) (hw : ∀ d ∈ StrChars.Road.wordsEq, d.before a0 Z = true) {kI : Nat} (wi : (Jvm.Cond.instantiable "java/lang/String" kI).before a0 Z = true) {x y : Addr} {cs ds : List Int32} (O : Old Z n0 h) (CS : own_CS Z) (S1 : own_Str Z h x cs) (S2 : own_Str Z h y ds) (hfr : 2 ≤ R.frames) (hlo : W + 28 ≤ R.locals) :
    own_Bk l R p e below s args (⟨"java/lang/String", "equals", "(Ljava/lang/Object;)Z"⟩ : MethodName) len W #[.ref x, .ref y] h 0 0 (fun v h' L => v = some (.int (if cs = ds then 1 else 0)) ∧ Fr n0 L ∧ h' = h) := by
  obtain ⟨z, S, hz⟩ := CS
  obtain ⟨E1, t, kb, cd, N2, vs, F1, F2, A, r1, r2, r3⟩ := S1
  obtain ⟨E1', t', kb', cd', N2', vs', F1', F2', A', r1', r2', r3'⟩ := S2
  refine Back.mono (StrChars.Road.eqW hZ hw wi E1 F1 F2 A r1 r2 r3 E1' F1' F2' A' r1' r2' r3' (S.ext O.2) hz hfr hlo) (fun _ _ hp => hp) (fun A a v B _ hq => ?_)
  obtain ⟨L, ⟨hc, rfl, e1⟩, hl, hk, hs⟩ := hq
  refine ⟨[], ⟨?_, Fr.nil _, e1⟩, hl, hk, hs⟩
  rcases hc with ⟨rfl, q⟩ | ⟨rfl, q⟩
  · rw [if_pos q]
  · rw [if_neg q]
end OwnStrEq
end Jvm.Pilot.@@N@@
namespace Jvm.Pilot.@@N@@
open Jvm Jvm.ClassFile Sem Op Lib Jvm.Free Jvm.Stand Jvm.LawKit Jvm.RoadKit Bundle Jvm.Pilot.@@N@@.Jvm.D
section OwnStrCh
variable {p : Program} {l : Launch} {e : Env} {R : Room} {s : State} {args : Array Value} {below : List Frame} {Z : State} {a0 : Array Value} {h h' : Heap} {len W n0 : Nat}
theorem own_wCh (hw : ∀ d ∈ tables_1, d.before a0 Z = true) : ∀ d ∈ StrChars.Road.wordsChN, d.before a0 Z = true := fun d hd => hw d ((by decide +kernel : ∀ d ∈ StrChars.Road.wordsChN, d ∈ tables_1) d hd)
def own_FM (Z : State) : Prop := ∃ G : Value, Sta Z Z.heap "jdk/internal/util/Preconditions" "SIOOBE_FORMATTER" "Ljava/util/function/BiFunction;" G ∧ G.isRef = true
theorem own_chB (hZ : Z.Warmed39 s.vm) (hw : ∀ d ∈ StrChars.Road.wordsChN, d.before a0 Z = true) {kI : Nat} (wi : (Jvm.Cond.instantiable "java/lang/String" kI).before a0 Z = true) {x : Addr} {cs : List Int32} {i : Nat} {j : Int32} (O : Old Z n0 h) (CS : own_CS Z) (FM : own_FM Z) (S1 : own_Str Z h x cs) (hlat : ∀ c ∈ cs, ¬ (255 : Int32) < c) (hi : i < cs.length) (hj : j = Int32.ofNat i) (hfr : 4 ≤ R.frames) (hlo : W + 53 ≤ R.locals) :
    own_Bk l R p e below s args (⟨"java/lang/String", "charAt", "(I)C"⟩ : MethodName) len W #[.ref x, .int j] h 0 0 (fun v h' L => v = some (.int (cs.getD i 0)) ∧ Fr n0 L ∧ h' = h) := by
  obtain ⟨z, S, hz⟩ := CS
  obtain ⟨G, F, rf⟩ := FM
  obtain ⟨E1, t, kb, cd, N2, vs, F1, F2, A, r1, r2, r3⟩ := S1
  have hcd : cd = 0 := by
    rcases r1 with ⟨q, -⟩ | ⟨-, -, -, c, hc, q⟩
    · exact q
    · exact absurd q (hlat c hc)
  subst hcd
  refine Back.mono (StrChars.Road.chN hZ hw wi E1 F1 F2 A r1 r2 (S.ext O.2) hz (F.ext O.2) rf r3 hi hj hfr hlo) (fun _ _ hp => hp) (fun A a v B _ hq => ?_)
  obtain ⟨L, ⟨hc, rfl, e1⟩, hl, hk, hs⟩ := hq
  exact ⟨[], ⟨hc, Fr.nil _, e1⟩, hl, hk, hs⟩
end OwnStrCh
end Jvm.Pilot.@@N@@
namespace Jvm.Pilot.@@N@@
open Jvm Jvm.ClassFile Sem Op Lib Jvm.Free Jvm.Stand Jvm.LawKit Jvm.RoadKit Bundle Jvm.Pilot.@@N@@.Jvm.D
abbrev own_EL : List (String × Nat) := [("com/example/kaname/kaname/config/ActionDeclaration", 42), ("com/example/kaname/kaname/config/ActionDeclaration", 50), ("java/lang/String", 7)]
theorem own_hEL {Z : State} {a0 : Array Value} (hw : ∀ d ∈ tables_1, d.before a0 Z = true) : EW Z a0 own_EL := (EW.cons (hw _ (List.mem_of_getElem? (i := 30) rfl)) (by decide) (EW.cons (hw _ (List.mem_of_getElem? (i := 53) rfl)) (by decide) (EW.cons (hw _ (List.mem_of_getElem? (i := 18) rfl)) (by decide) EW.nil)))
end Jvm.Pilot.@@N@@
/- own kit W: walks that may intern String constants (base s.setVm vm0) -/
namespace Jvm.Pilot.@@N@@
open Jvm Jvm.ClassFile Sem Op Lib Jvm.Free Jvm.Stand Jvm.LawKit Jvm.RoadKit Bundle Jvm.Pilot.@@N@@.Jvm.D
section OwnWide
variable {p : Program} {l : Launch} {e : Env} {R : Room} {s : State} {m : MethodId} {args : Array Value} {below : List Frame} {meth : Method} {c : Code} {T : State} {locs : List Loc} {cells slots : Nat} {Z : State} {a0 : Array Value} {h h0 : Heap} {vm0 : Vm} {k0 : Nat}
abbrev own_CW (l : Launch) (Z : State) (y : MethodName) (bytes : ByteArray) (maxL : Nat) (ret : Option FieldType) (ws : List Jvm.Cond) (rm : Room) (as : Array Value) (h : Heap) (Q : Option Value → Heap → List Loc → Prop) : Prop :=
  MetFree l y (head1 (Jvm.Cond.code y bytes maxL ret :: ws) rm) (fun a U => a = as ∧ Z.Warmed39 U.vm ∧ U.heap = h ∧ CHv Z own_EL U.vm h) (fun _ _ _ _ _ => True) (fun _ U o U' => ∃ v L, o = .returned v ∧ Q v U'.heap L ∧ CHr Z own_EL U.vm U.heap U'.vm U'.heap ∧ ReturnedEndW U o U' L rm.cells rm.slots)
abbrev own_BkS (l : Launch) (R : Room) (p : Program) (e : Env) (below : List Frame) (s : State) (vm0 : Vm) (Z : State) (args : Array Value) (y : MethodName) (len W : Nat) (as : Array Value) (h : Heap) (kc ks : Nat) (Q : Option Value → Heap → List Loc → Prop) : Prop :=
  BackS l R p e below (s.setVm vm0) args y len W (fun A a => a = as ∧ A.U.heap = h ∧ A.cells + kc ≤ R.cells ∧ A.slots + ks ≤ R.slots) (fun A _ v B => ∃ L, Q v B.U.heap L ∧ B.locs = A.locs ++ L ∧ B.cells = A.cells + kc ∧ B.slots = A.slots + ks ∧ CHr Z own_EL vm0 h B.U.vm B.U.heap)
def own_GoW (p : Program) (e : Env) (below : List Frame) (s : State) (Z : State) (h0 : Heap) (Q : Option Value → Heap → List Loc → Prop) (C S : Nat) (A : State) : Prop :=
  ∃ t v L, Steps p.tables e below A t ∧ t.status = .running ∧ Ended t below (.returned v) ∧ Q v t.heap L ∧ CHr Z own_EL s.vm h0 t.vm t.heap ∧ ReturnedEndW s (.returned v) t L C S
theorem own_stW {Q : Option Value → Heap → List Loc → Prop} {C S : Nat} {A B : State} (k : ∀ t, Steps p.tables e below B t → Steps p.tables e below A t) (G : own_GoW p e below s Z h0 Q C S B) : own_GoW p e below s Z h0 Q C S A := by
  obtain ⟨t, v, L, h1, h2⟩ := G
  exact ⟨t, v, L, k t h1, h2⟩
theorem own_bodyW {y : MethodName} {bytes : ByteArray} {maxL : Nat} {ret : Option FieldType} {ws : List Jvm.Cond} {rm : Room} {as : Array Value} {Q : Option Value → Heap → List Loc → Prop} (hp : plainFor y = true)
    (body : ∀ (p : Program) (e : Env) (s : State) (m : MethodId) (below : List Frame) (meth : Method) (c : Code) (T : State), Stand p l e rm (s.setVm s.vm) m as below meth c T [] 0 0 → p.tables.exec = Jvm.exec → c.code = bytes → c.maxLocals = maxL → Z.Warmed39 (s.setVm s.vm).vm → (s.setVm s.vm).vm.findClass y.cls = some m.cls → meth.name = y.name → meth.sig.returnType = ret → meth.locks = false → T.heap = h → s.Since s.vm 0 → CHr Z own_EL s.vm h s.vm h →
      own_GoW p e below s Z h Q rm.cells rm.slots (T.setTop (entryFrame m as maxL))) : own_CW l Z y bytes maxL ret ws rm as h Q := by
  refine MetFree.of_bodySF hp hisR ?_
  intro p e s m args below meth c s₁ Bd hml hP hK
  obtain ⟨rfl, hZ, hh, hC⟩ := hP
  obtain ⟨t, v, L, h1, h2, h3, h4, h5, h6⟩ := body p e s m below meth c s₁ (Stand.of_body Bd) Bd.exec Bd.bytes hml hZ (findClass_of_methodNamed Bd.named) (name_of_methodNamed Bd.named Bd.method).1 Bd.returns Bd.notSynchronized (by rw [← hh, Bd.state]; rfl) ((State.WarmedH.refl s).since 0) (CHr.refl hC)
  exact ⟨t, _, h1, h2, h3, v, L, rfl, h4, hh.symm ▸ h5, h6⟩
theorem own_endW {fs : List Frame} {v : Option Value} {C S : Nat} (hS : s.Since vm0 k0) (hk : k0 ≤ h.size) (eT : T.heap = h) (hW : (s.setVm vm0).WarmedH (T.setFrames fs).vm) (hsame : (s.setVm vm0).sameButNew ({ T.setFrames fs with vm := (s.setVm vm0).vm } : State) locs cells slots) (hc : cells ≤ C) (hs : slots ≤ S) : ReturnedEndW s (.returned v) (T.setFrames fs) locs C S := by
  have q : s.Since (T.setFrames fs).vm h.size := hS.trans (hW.since h.size) hk
  subst eT
  exact ⟨⟨_, rfl⟩, q.1, q.2, ((hsame.mono hc hs).setVm s.vm)⟩
theorem own_retW {Q : Option Value → Heap → List Loc → Prop} {C S : Nat} (X : Stand p l e R (s.setVm vm0) m args below meth c T locs cells slots) (hx : p.tables.exec = Jvm.exec) (hk : meth.locks = false) (eT : T.heap = h) (hZ : Z.Warmed39 vm0) (hEL : EW Z a0 own_EL) (hS : s.Since vm0 k0) (hk0 : k0 ≤ h.size) (CR : CHr Z own_EL s.vm h0 vm0 h) {pc : Nat} {Ls : Array Slot} {w : Value} {t : FieldType} {i : Instr} {rest : List Value} (hret : meth.sig.returnType = some t) (hn : narrow t w = w)
    (hi : (i = .ireturn ∧ (t = .int ∨ t = .boolean ∨ t = .byte ∨ t = .char ∨ t = .short) ∧ ∃ z, w = .int z) ∨ (i = .lreturn ∧ t = .long ∧ ∃ z, w = .long z) ∨ (i = .dreturn ∧ t = .double ∧ ∃ z, w = .double z) ∨ (i = .freturn ∧ t = .float ∧ ∃ z, w = .float z) ∨ (i = .areturn ∧ t.isReference = true ∧ w.isRef = true))
    (hd : decode c.code pc = .ok (i, 1)) (hc : cells ≤ C) (hs : slots ≤ S) (hq : Q (some w) h locs) : own_GoW p e below s Z h0 Q C S (T.setTop (mkF m pc Ls (w :: rest))) := by
  obtain ⟨fs, hr, hrun, hended, hW, hsame⟩ := X.leave (v := some w) (fun h => by rw [hret] at h; cases h) hk
  have D := CR.trans (CHv.at X hZ hEL CR.1)
  exact ⟨_, some w, locs, retOut X hx hret hn hi hd hr, hrun, hended, by subst eT; exact hq, by subst eT; exact D, own_endW hS hk0 eT hW hsame hc hs⟩
theorem own_retVW {Q : Option Value → Heap → List Loc → Prop} {C S : Nat} (X : Stand p l e R (s.setVm vm0) m args below meth c T locs cells slots) (hx : p.tables.exec = Jvm.exec) (hk : meth.locks = false) (eT : T.heap = h) (hZ : Z.Warmed39 vm0) (hEL : EW Z a0 own_EL) (hS : s.Since vm0 k0) (hk0 : k0 ≤ h.size) (CR : CHr Z own_EL s.vm h0 vm0 h) {pc : Nat} {Ls : Array Slot} (hret : meth.sig.returnType = none)
    (hd : decode c.code pc = .ok (.return_, 1)) (hc : cells ≤ C) (hs : slots ≤ S) (hq : Q none h locs) : own_GoW p e below s Z h0 Q C S (T.setTop (mkF m pc Ls [])) := by
  obtain ⟨fs, hr, hrun, hended, hW, hsame⟩ := X.leave (v := none) (fun _ => rfl) hk
  have D := CR.trans (CHv.at X hZ hEL CR.1)
  exact ⟨_, none, locs, X.returnOut hx hret hd hr, hrun, hended, by subst eT; exact hq, by subst eT; exact D, own_endW hS hk0 eT hW hsame hc hs⟩
theorem own_bkS {y : MethodName} {bytes : ByteArray} {maxL : Nat} {ret : Option FieldType} {rm : Room} {len W : Nat} {as : Array Value} {Q : Option Value → Heap → List Loc → Prop} (hM : own_CW l Z y bytes maxL ret [] rm as h Q) (hZ : Z.Warmed39 vm0) (wc : (Jvm.Cond.code y bytes maxL ret).before a0 Z = true) (wz : (Jvm.Cond.initialized y.cls).before a0 Z = true) (hf : rm.frames + 1 ≤ R.frames) (hl : W + (maxL + 11) + rm.locals ≤ R.locals) (hEL : EW Z a0 own_EL) (H : CHv Z own_EL vm0 h) :
    own_BkS l R p e below s vm0 Z args y len W as h rm.cells rm.slots Q := backOfSH hM hZ wc wz hf hl hEL H
theorem own_callSW (X : Stand p l e R (s.setVm vm0) m args below meth c T locs cells slots) (hx : p.tables.exec = Jvm.exec) (hZ : Z.Warmed39 (s.setVm vm0).vm) {own : String} {index : Nat} {y : MethodName} {bytes : ByteArray} {maxL : Nat} {ret : Option FieldType}
    (hown : (s.setVm vm0).vm.findClass own = some m.cls) (hS : s.Since vm0 k0) (hk : k0 ≤ h.size) (w1 : (Jvm.Cond.methodLink own index y).before a0 Z = true) (w2 : (Jvm.Cond.static y).before a0 Z = true) (w3 : (Jvm.Cond.initialized y.cls).before a0 Z = true) (w4 : (Jvm.Cond.code y bytes maxL ret).before a0 Z = true) (hy : y.cls ≠ "java/lang/invoke/MethodHandle" ∧ y.cls ≠ "java/lang/invoke/VarHandle")
    {W kc ks : Nat} {as : Array Value} {Q : Option Value → Heap → List Loc → Prop} (hK : own_BkS l R p e below s vm0 Z args y 3 W as h kc ks Q) (eT : T.heap = h) (hc : cells + kc ≤ R.cells) (hs : slots + ks ≤ R.slots)
    {g : JFrame} (hg : g.method = m) (hsize : g.locals.size = c.maxLocals) {argsL rest : List Value} (hlen : ∀ sig, parseMethodDescriptor y.desc = some sig → argsL.length = sig.parameters.length) (hstack : g.stack = argsL.reverse ++ rest) (has : argsL.toArray = as) (hW : 2 * g.monitorRoom + (rest.map fun v => v.category).sum ≤ W) (hdg : decode c.code g.pc = .ok (.invokestatic index, 3)) :
    ∃ (T' : State) (v : Option Value) (L : List Loc) (h' : Heap), Stand p l e R (s.setVm T'.vm) m args below meth c T' (locs ++ L) (cells + kc) (slots + ks) ∧ T'.heap = h' ∧ Q v h' L ∧ s.Since T'.vm h'.size ∧ Z.Warmed39 (s.setVm T'.vm).vm ∧ (s.setVm T'.vm).vm.findClass own = some m.cls ∧ CHr Z own_EL vm0 h T'.vm h' ∧ ∀ t, Steps p.tables e below (T'.setTop { g with pc := g.pc + 3, stack := v.toList ++ rest }) t → Steps p.tables e below (T.setTop g) t := by
  obtain ⟨v, _, ⟨T', L', k', n'⟩, -, X', h2, hgr, ⟨L, hQ, l1, y1, z1, hC⟩, st⟩ := callSS X hx hown (mvT hZ w1) (mvT hZ w2) (mvT hZ w3) (mvT hZ w4) hy hK hg hsize hlen hstack hW hdg (fun _ _ => ⟨has, eT, hc, hs⟩)
  dsimp only [Pt.U, Pt.locs, Pt.cells, Pt.slots] at X' h2 hgr hQ l1 y1 z1 hC st
  subst l1 y1 z1
  obtain ⟨r1, r2, r3, r4⟩ := rebS hS hk X' h2 (eT ▸ hgr) hZ hown
  exact ⟨T', v, L, _, r1, rfl, hQ, r2, r3, r4, hC, fun t k => st.trans k⟩
theorem own_callIW (X : Stand p l e R (s.setVm vm0) m args below meth c T locs cells slots) (hx : p.tables.exec = Jvm.exec) (hZ : Z.Warmed39 (s.setVm vm0).vm) {own : String} {index : Nat} {y : MethodName} (hy1 : y.name = "<init>") {bytes : ByteArray} {maxL : Nat}
    (hown : (s.setVm vm0).vm.findClass own = some m.cls) (hS : s.Since vm0 k0) (hk : k0 ≤ h.size) (w1 : (Jvm.Cond.methodLink own index y).before a0 Z = true) (w2 : (Jvm.Cond.instanceMethod y).before a0 Z = true) (w3 : (Jvm.Cond.code y bytes maxL none).before a0 Z = true) (hy : y.cls ≠ "java/lang/invoke/MethodHandle" ∧ y.cls ≠ "java/lang/invoke/VarHandle")
    {W kc ks : Nat} {as : Array Value} {Q : Option Value → Heap → List Loc → Prop} (hK : own_BkS l R p e below s vm0 Z args y 3 W as h kc ks Q) (eT : T.heap = h) (hc : cells + kc ≤ R.cells) (hs : slots + ks ≤ R.slots)
    {g : JFrame} (hg : g.method = m) (hsize : g.locals.size = c.maxLocals) {a : Addr} {argsL rest : List Value} (hlen : ∀ sig, parseMethodDescriptor y.desc = some sig → argsL.length = sig.parameters.length) (hstack : g.stack = argsL.reverse ++ .ref a :: rest) (has : (.ref a :: argsL).toArray = as) (hW : 2 * g.monitorRoom + (rest.map fun v => v.category).sum ≤ W) (hdg : decode c.code g.pc = .ok (.invokespecial index, 3)) :
    ∃ (T' : State) (v : Option Value) (L : List Loc) (h' : Heap), Stand p l e R (s.setVm T'.vm) m args below meth c T' (locs ++ L) (cells + kc) (slots + ks) ∧ T'.heap = h' ∧ Q v h' L ∧ s.Since T'.vm h'.size ∧ Z.Warmed39 (s.setVm T'.vm).vm ∧ (s.setVm T'.vm).vm.findClass own = some m.cls ∧ CHr Z own_EL vm0 h T'.vm h' ∧ ∀ t, Steps p.tables e below (T'.setTop { g with pc := g.pc + 3, stack := v.toList ++ rest }) t → Steps p.tables e below (T.setTop g) t := by
  obtain ⟨v, _, ⟨T', L', k', n'⟩, -, X', h2, hgr, ⟨L, hQ, l1, y1, z1, hC⟩, st⟩ := X.specialBackS hx hy1 hown (mvT hZ w1) (mvT hZ w2) (mvT hZ w3) hy hK hg hsize (Steps.refl _) hlen hstack hW hdg (fun _ _ => ⟨has, eT, hc, hs⟩)
  dsimp only [Pt.U, Pt.locs, Pt.cells, Pt.slots] at X' h2 hgr hQ l1 y1 z1 hC st
  subst l1 y1 z1
  obtain ⟨r1, r2, r3, r4⟩ := rebS hS hk X' h2 (eT ▸ hgr) hZ hown
  exact ⟨T', v, L, _, r1, rfl, hQ, r2, r3, r4, hC, fun t k => st.trans k⟩
theorem own_callVW (X : Stand p l e R (s.setVm vm0) m args below meth c T locs cells slots) (hx : p.tables.exec = Jvm.exec) (hZ : Z.Warmed39 (s.setVm vm0).vm) {own C : String} {index : Nat} {y z : MethodName}
    (hown : (s.setVm vm0).vm.findClass own = some m.cls) (hS : s.Since vm0 k0) (hk : k0 ≤ h.size) (w1 : (Jvm.Cond.methodLink own index y).before a0 Z = true) (w2 : (Jvm.Cond.declares y).before a0 Z = true) (nf : NotFace (s.setVm vm0) y) (w3 : (Jvm.Cond.selects C y z).before a0 Z = true) (w4 : (Jvm.Cond.instanceMethod z).before a0 Z = true) (hy : y.cls ≠ "java/lang/invoke/MethodHandle" ∧ y.cls ≠ "java/lang/invoke/VarHandle")
    {W kc ks : Nat} {as : Array Value} {Q : Option Value → Heap → List Loc → Prop} (hK : own_BkS l R p e below s vm0 Z args z 3 W as h kc ks Q) (eT : T.heap = h) {b : Addr} (E : Exa Z h b C) (hc : cells + kc ≤ R.cells) (hs : slots + ks ≤ R.slots)
    {g : JFrame} (hg : g.method = m) (hsize : g.locals.size = c.maxLocals) {argsL rest : List Value} (hlen : ∀ sig, parseMethodDescriptor y.desc = some sig → argsL.length = sig.parameters.length) (hstack : g.stack = argsL.reverse ++ .ref b :: rest) (has : (.ref b :: argsL).toArray = as) (hW : 2 * g.monitorRoom + (rest.map fun v => v.category).sum ≤ W) (hdg : decode c.code g.pc = .ok (.invokevirtual index, 3)) :
    ∃ (T' : State) (v : Option Value) (L : List Loc) (h' : Heap), Stand p l e R (s.setVm T'.vm) m args below meth c T' (locs ++ L) (cells + kc) (slots + ks) ∧ T'.heap = h' ∧ Q v h' L ∧ s.Since T'.vm h'.size ∧ Z.Warmed39 (s.setVm T'.vm).vm ∧ (s.setVm T'.vm).vm.findClass own = some m.cls ∧ CHr Z own_EL vm0 h T'.vm h' ∧ ∀ t, Steps p.tables e below (T'.setTop { g with pc := g.pc + 3, stack := v.toList ++ rest }) t → Steps p.tables e below (T.setTop g) t := by
  obtain ⟨cq, kq, qa, qb, qc⟩ := isOf hZ eT E
  obtain ⟨v, _, ⟨T', L', k', n'⟩, -, X', h2, hgr, ⟨L, hQ, l1, y1, z1, hC⟩, st⟩ := X.virtualBackS hx hown (mvT hZ w1) (mvT hZ w2) nf (mvT hZ w3) (mvT hZ w4) hy hK qa qc hg hsize (Steps.refl _) hlen hstack hW hdg (fun _ _ => ⟨has, eT, hc, hs⟩)
  dsimp only [Pt.U, Pt.locs, Pt.cells, Pt.slots] at X' h2 hgr hQ l1 y1 z1 hC st
  subst l1 y1 z1
  obtain ⟨r1, r2, r3, r4⟩ := rebS hS hk X' h2 (eT ▸ hgr) hZ hown
  exact ⟨T', v, L, _, r1, rfl, hQ, r2, r3, r4, hC, fun t k => st.trans k⟩
theorem own_wStr (hw : ∀ d ∈ tables_1, d.before a0 Z = true) : ∀ d ∈ Bundle.stringAtoms, d.before a0 Z = true := fun d hd => hw d ((by decide +kernel : ∀ d ∈ Bundle.stringAtoms, d ∈ tables_1) d hd)
end OwnWide
end Jvm.Pilot.@@N@@
/- own kit W2: String constants read; a String under construction is no booked one -/
namespace Jvm.Pilot.@@N@@
open Jvm Jvm.ClassFile Sem Op Lib Jvm.Free Jvm.Stand Jvm.LawKit Jvm.RoadKit Bundle Jvm.Pilot.@@N@@.Jvm.D
section OwnWide2
variable {Z : State} {h : Heap} {vm : Vm} {EL : List (String × Nat)}
theorem own_safeNull {x : Addr} (hal : Z.vm.Alike vm) (E : Exa Z h x "java/lang/String") (V : Fld Z h x "java/lang/String" "value" "[B" .null) : Safe Z EL vm h x := fun B => by
  obtain ⟨p, -, u, a, -, q, rfl, F, rfl | rfl⟩ := B
  · obtain ⟨cS, ⟨⟨s1, s2, s3, ⟨cv, kv, iv, s4, s4'⟩, -, s6, s7, s8, -⟩, -⟩, -⟩ := F
    obtain ⟨cell, cf, k, i, f, h1, h2, h3, h4, h5, h6, h7⟩ := V
    obtain ⟨kv', z4⟩ := ff_back (U := Wst Z vm h) hal s4
    cases (show Z.fieldFound? "java/lang/String" "value" "[B" = some (cv, kv', iv, q.fSV) from z4).symm.trans h2
    have e1 : q.sC = cell := Option.some.inj ((show h[q.sa]? = some q.sC from s1).symm.trans h1)
    rw [← e1, s8] at h7
    cases h7
  · have hd := F.hd
    obtain ⟨cS, -, -, hB, -⟩ := F
    obtain ⟨cell, k, e1, e2, -⟩ := E
    have hB : vm.findClass "[B" = some q.SA.cls := hB
    rw [hal.findClass] at hB
    have ec : q.SA = cell := Option.some.inj ((show h[q.sd]? = some q.SA from hd).symm.trans e1)
    rw [← ec] at e2
    exact ids_ne hB e2 (by decide) rfl
theorem own_litStr {a b : Addr} {k : ClassId} {z : Int32} {vs : List Value} {cs : List Int32} (E : Exa Z h a "java/lang/String") (C : Fld Z h a "java/lang/String" "coder" "B" (.int 0)) (V : Fld Z h a "java/lang/String" "value" "[B" (.ref b)) (A : Arv Z h b k .byte z vs (.int 0)) (hz : z = Int32.ofNat cs.length) (hv : vs = cs.map fun c => Value.int (StrChars.lo8 c)) (hc : ∀ c ∈ cs, ¬ c < 0 ∧ ¬ (255 : Int32) < c) (hl : cs.length ≤ 4000) : own_Str Z h a cs :=
  ⟨E, b, k, 0, z, vs, V, C, A, Or.inl ⟨rfl, hz, hv, fun c q => (hc c q).2⟩, own_up _ hc, hl⟩
end OwnWide2
end Jvm.Pilot.@@N@@
namespace Jvm.Pilot.@@N@@
open Jvm Jvm.ClassFile Sem Op Lib Jvm.Free Jvm.Stand Jvm.LawKit Jvm.RoadKit Bundle Jvm.Pilot.@@N@@.Jvm.D
abbrev own_mk (n c0 c1 c2 c3 c4 : Int32) : Option (List Int32) := if n = 0 then some [] else if n = 1 then some [c0] else if n = 2 then some [c0, c1] else if n = 3 then some [c0, c1, c2] else if n = 4 then some [c0, c1, c2, c3] else if n = 5 then some [c0, c1, c2, c3, c4] else none
abbrev own_HEAD : List Int32 := [(72 : Int32), (69 : Int32), (65 : Int32), (68 : Int32)]
abbrev own_GET : List Int32 := [(71 : Int32), (69 : Int32), (84 : Int32)]
theorem own_mkHead {n c0 c1 c2 c3 c4 : Int32} {cs : List Int32} (h : own_mk n c0 c1 c2 c3 c4 = some cs) : cs = own_HEAD ↔ (n = 4 ∧ c0 = 72 ∧ c1 = 69 ∧ c2 = 65 ∧ c3 = 68) := by
  unfold own_mk at h
  split at h
  · rename_i q; subst q; cases h; simp
  · split at h
    · rename_i q; subst q; cases h; simp
    · split at h
      · rename_i q; subst q; cases h; simp
      · split at h
        · rename_i q; subst q; cases h; simp
        · split at h
          · rename_i q; subst q; cases h; simp [own_HEAD]
          · split at h
            · rename_i q; subst q; cases h; simp
            · cases h
theorem d3_0 : decode jdk_42_method_149_code 0 = .ok (.aload_n 0, 1) := by decide +kernel
theorem d3_1 : decode jdk_42_method_149_code 1 = .ok (.invokespecial 1, 3) := by decide +kernel
theorem d3_4 : decode jdk_42_method_149_code 4 = .ok (.iload_n 3, 1) := by decide +kernel
theorem d3_5 : decode jdk_42_method_149_code 5 = .ok (.ifCond .ne 22, 3) := by decide +kernel
theorem d3_8 : decode jdk_42_method_149_code 8 = .ok (.aload_n 0, 1) := by decide +kernel
theorem d3_9 : decode jdk_42_method_149_code 9 = .ok (.ldc 7, 2) := by decide +kernel
theorem d3_11 : decode jdk_42_method_149_code 11 = .ok (.getfield 9, 3) := by decide +kernel
theorem d3_14 : decode jdk_42_method_149_code 14 = .ok (.putfield 9, 3) := by decide +kernel
theorem d3_17 : decode jdk_42_method_149_code 17 = .ok (.aload_n 0, 1) := by decide +kernel
theorem d3_18 : decode jdk_42_method_149_code 18 = .ok (.ldc 7, 2) := by decide +kernel
theorem d3_20 : decode jdk_42_method_149_code 20 = .ok (.getfield 15, 3) := by decide +kernel
theorem d3_23 : decode jdk_42_method_149_code 23 = .ok (.putfield 15, 3) := by decide +kernel
theorem d3_26 : decode jdk_42_method_149_code 26 = .ok (.return_, 1) := by decide +kernel
theorem pn_java_lang_String : plainName "java/lang/String" = true := by first | (simp [plainName, overriddenIn]; done) | decide +kernel
theorem ef_em4 (m : MethodId) (x0 : Addr) (x1 : Addr) (x2 : Int32) (x3 : Int32) : entryFrame m #[(.ref x0), (.ref x1), (.int x2), (.int x3), .null] 6 = mkF m 0 #[.val (.ref x0), .val (.ref x1), .val (.int x2), .val (.int x3), .val .null, .unset] [] := by (first | (simp [entryFrame, mkF, argsToLocals, Value.category]; done) | rfl)
abbrev em4R : Room := { frames := 1, cells := 2, slots := 4, locals := 12 }
set_option maxRecDepth 65536 in
set_option maxHeartbeats 40000000 in
theorem em4 (l : Launch) (Z : State) (a0 : Array Value) (hw : ∀ d ∈ tables_1, d.before a0 Z = true) (a1 a2 : Nat) (u2 : Value) (h0 : Heap) (n0 : Nat) (O0 : Old Z n0 h0) (E1 : Exa Z h0 a1 "java/lang/String") (g1 : n0 ≤ a1) (F1 : Fld Z h0 a1 "java/lang/String" "value" "[B" .null) (F2 : Fld Z h0 a1 "java/lang/String" "coder" "B" u2) (lt1 : a1 < h0.size) :
    own_CW l Z (⟨"java/lang/String", "<init>", "([CIILjava/lang/Void;)V"⟩ : MethodName) jdk_42_method_149_code 6 none [] em4R #[(.ref a1), (.ref a2), (.int (0 : Int32)), (.int (0 : Int32)), .null] h0 (fun v h L => v = none ∧ Fr n0 L ∧ Keep h0 h [a1] ∧ own_Str Z h a1 []) := by
  refine own_bodyW (plainFor_of_name pn_java_lang_String) ?_
  intro p e s m below meth c T0 X0 hx hby hml hZ hown hnm hret hlk e0 hS CR
  have hEL := own_hEL hw
  have N0 := Fr.nil n0
  have zO := own_old O0
  refine own_stW (fun _ k => castTop (ef_em4 m a1 a2 (0 : Int32) (0 : Int32)) k) ?_
  show own_GoW p e below s _ _ _ _ _ (T0.setTop (mkF m 0 #[.val (.ref a1), .val (.ref a2), .val (.int (0 : Int32)), .val (.int (0 : Int32)), .val .null, .unset] []))
  refine own_stW (fun _ k => XS.aloadN X0.here hx rfl (hb hby d3_0) rfl rfl k) ?_
  show own_GoW p e below s _ _ _ _ _ (T0.setTop (mkF m 1 #[.val (.ref a1), .val (.ref a2), .val (.int (0 : Int32)), .val (.int (0 : Int32)), .val .null, .unset] [(.ref a1)]))
  obtain ⟨T101, X101, e101, st101⟩ := initO X0 hx hZ hown (hw _ (List.mem_of_getElem? (i := 15) rfl)) (hw _ (List.mem_of_getElem? (i := 16) rfl)) (hw _ (List.mem_of_getElem? (i := 17) rfl)) e0 (g := (mkF m 1 #[.val (.ref a1), .val (.ref a2), .val (.int (0 : Int32)), .val (.int (0 : Int32)), .val .null, .unset] [(.ref a1)])) rfl (by rw [hml]; rfl) rfl (hb hby d3_1) (by decide) (W := 0) (by show 2 * 0 + _ ≤ _; exact Nat.le_of_eq rfl) (by decide)
  refine own_stW st101 ?_
  show own_GoW p e below s _ _ _ _ _ (T101.setTop (mkF m 4 #[.val (.ref a1), .val (.ref a2), .val (.int (0 : Int32)), .val (.int (0 : Int32)), .val .null, .unset] []))
  refine own_stW (fun _ k => XS.iloadN X101.here hx rfl (hb hby d3_4) rfl k) ?_
  show own_GoW p e below s _ _ _ _ _ (T101.setTop (mkF m 5 #[.val (.ref a1), .val (.ref a2), .val (.int (0 : Int32)), .val (.int (0 : Int32)), .val .null, .unset] [(.int (0 : Int32))]))
  refine own_stW (fun _ k => XS.ifNo X101.here hx rfl (hb hby d3_5) rfl ((if0 _ _).trans (teq (by decide)).2) k) ?_
  show own_GoW p e below s _ _ _ _ _ (T101.setTop (mkF m 8 #[.val (.ref a1), .val (.ref a2), .val (.int (0 : Int32)), .val (.int (0 : Int32)), .val .null, .unset] []))
  refine own_stW (fun _ k => XS.aloadN X101.here hx rfl (hb hby d3_8) rfl rfl k) ?_
  show own_GoW p e below s _ _ _ _ _ (T101.setTop (mkF m 9 #[.val (.ref a1), .val (.ref a2), .val (.int (0 : Int32)), .val (.int (0 : Int32)), .val .null, .unset] [(.ref a1)]))
  obtain ⟨a102, T102, h102, kk102, bb102, kb102, X102, e102, E102, hS102, hk102, hZ102, hown102, A102, Fc102, Fv102, V102, la102, lb102, CH102, L102, sf102, st102⟩ := ldcCH X101 hx hZ hown (hw _ (List.mem_of_getElem? (i := 18) rfl)) (own_wStr hw) e101 hS (by omega) hEL (by decide) CR.1 (vs := []) (z := 0) (by decide) (by decide) (by decide) (g := (mkF m 9 #[.val (.ref a1), .val (.ref a2), .val (.int (0 : Int32)), .val (.int (0 : Int32)), .val .null, .unset] [(.ref a1)])) rfl (hb hby d3_9) (n := 0) (by decide) (by decide) (by decide) (by decide)
  have K102 : Keep h0 h102 [] := (Keep.refl _ _).ext E102
  have hS := hS102
  have hZ := hZ102
  have hown := hown102
  refine own_stW st102 ?_
  have zK102 := K102.1
  have CR103 := CR.trans CH102
  have S102 : own_Str Z h102 a102 ([] : List Int32) := own_litStr A102 Fc102 Fv102 V102 (by decide) (by decide) (by decide) (by decide)
  show own_GoW p e below s _ _ _ _ _ (T102.setTop (mkF m 11 #[.val (.ref a1), .val (.ref a2), .val (.int (0 : Int32)), .val (.int (0 : Int32)), .val .null, .unset] [(.ref a102), (.ref a1)]))
  have f104 := (E1.keep ((Keep.refl h0 []).trans K102 all0))
  have f105 := (F1.keep ((Keep.refl h0 []).trans K102 all0) nin0)
  have ne1 : a1 ≠ a102 ∧ a1 ≠ bb102 := sf102 _ (own_safeNull hZ.alike f104 f105)
  obtain ⟨T106, X106, e106, st106⟩ := getF X102 hx hZ hown (host := "") (Or.inl (hw _ (List.mem_of_getElem? (i := 24) rfl))) Via.refl e102 Fv102 (g := (mkF m 11 #[.val (.ref a1), .val (.ref a2), .val (.int (0 : Int32)), .val (.int (0 : Int32)), .val .null, .unset] [(.ref a102), (.ref a1)])) rfl rfl (hb hby d3_11)
  refine own_stW st106 ?_
  show own_GoW p e below s _ _ _ _ _ (T106.setTop (mkF m 14 #[.val (.ref a1), .val (.ref a2), .val (.int (0 : Int32)), .val (.int (0 : Int32)), .val .null, .unset] [(.ref bb102), (.ref a1)]))
  obtain ⟨T107, h107, X107, e107, W107, st107⟩ := putF X106 hx hZ hown (host := "") (Or.inl (hw _ (List.mem_of_getElem? (i := 24) rfl))) Via.refl e106 f105 f104 (Or.inr ⟨(hw _ (List.mem_of_getElem? (i := 20) rfl)), rfl, hnm⟩) (hw _ (List.mem_of_getElem? (i := 5) rfl)) (ty := (.array .byte)) (by decide) rfl rfl (g := (mkF m 14 #[.val (.ref a1), .val (.ref a2), .val (.int (0 : Int32)), .val (.int (0 : Int32)), .val .null, .unset] [(.ref bb102), (.ref a1)])) rfl rfl (hb hby d3_14)
  have F107 := f105.same W107
  have K107 := Keep.of_wr W107
  have N107 := Fr.snoc X107 N0 (by omega : n0 ≤ a1)
  refine own_stW st107 ?_
  have zK107 := K107.1
  show own_GoW p e below s _ _ _ _ _ (T107.setTop (mkF m 17 #[.val (.ref a1), .val (.ref a2), .val (.int (0 : Int32)), .val (.int (0 : Int32)), .val .null, .unset] []))
  refine own_stW (fun _ k => XS.aloadN X107.here hx rfl (hb hby d3_17) rfl rfl k) ?_
  show own_GoW p e below s _ _ _ _ _ (T107.setTop (mkF m 18 #[.val (.ref a1), .val (.ref a2), .val (.int (0 : Int32)), .val (.int (0 : Int32)), .val .null, .unset] [(.ref a1)]))
  refine own_stW (ldcAgain X107 hx hZ hown (hw _ (List.mem_of_getElem? (i := 18) rfl)) L102 (g := (mkF m 18 #[.val (.ref a1), .val (.ref a2), .val (.int (0 : Int32)), .val (.int (0 : Int32)), .val .null, .unset] [(.ref a1)])) rfl (hb hby d3_18)) ?_
  show own_GoW p e below s _ _ _ _ _ (T107.setTop (mkF m 20 #[.val (.ref a1), .val (.ref a2), .val (.int (0 : Int32)), .val (.int (0 : Int32)), .val .null, .unset] [(.ref a102), (.ref a1)]))
  have f108 := (Fc102.keep ((Keep.refl h102 [a1]).trans K107 (allS (Or.inl (by simp)) all0)) (own_ninS (by omega) nin0))
  obtain ⟨T109, X109, e109, st109⟩ := getF X107 hx hZ hown (host := "") (Or.inl (hw _ (List.mem_of_getElem? (i := 25) rfl))) Via.refl e107 f108 (g := (mkF m 20 #[.val (.ref a1), .val (.ref a2), .val (.int (0 : Int32)), .val (.int (0 : Int32)), .val .null, .unset] [(.ref a102), (.ref a1)])) rfl rfl (hb hby d3_20)
  refine own_stW st109 ?_
  show own_GoW p e below s _ _ _ _ _ (T109.setTop (mkF m 23 #[.val (.ref a1), .val (.ref a2), .val (.int (0 : Int32)), .val (.int (0 : Int32)), .val .null, .unset] [(.int (0 : Int32)), (.ref a1)]))
  have f110 := ((F2.keep K102 nin0).other W107 (Or.inr (slot_ne (Or.inr (hw _ (List.mem_of_getElem? (i := 21) rfl))) (Or.inr (hw _ (List.mem_of_getElem? (i := 20) rfl))) (by decide) (t := .byte) (t' := (.array .byte)) (by decide) (by decide))))
  have f111 := (f104.keep ((Keep.refl h102 [a1]).trans K107 (allS (Or.inl (by simp)) all0)))
  obtain ⟨T112, h112, X112, e112, W112, st112⟩ := putFN X109 hx hZ hown (hw _ (List.mem_of_getElem? (i := 25) rfl)) Via.refl e109 f110 f111 (Or.inr ⟨(hw _ (List.mem_of_getElem? (i := 21) rfl)), rfl, hnm⟩) (hw _ (List.mem_of_getElem? (i := 5) rfl)) (ty := .byte) (v' := (.int (0 : Int32))) (by decide) (by decide) (by decide) (g := (mkF m 23 #[.val (.ref a1), .val (.ref a2), .val (.int (0 : Int32)), .val (.int (0 : Int32)), .val .null, .unset] [(.int (0 : Int32)), (.ref a1)])) rfl rfl (hb hby d3_23)
  have F112 := f110.same W112
  have K112 := Keep.of_wr W112
  have N112 := Fr.snoc X112 N107 (by omega : n0 ≤ a1)
  refine own_stW st112 ?_
  have zK112 := K112.1
  show own_GoW p e below s _ _ _ _ _ (T112.setTop (mkF m 26 #[.val (.ref a1), .val (.ref a2), .val (.int (0 : Int32)), .val (.int (0 : Int32)), .val .null, .unset] []))
  have f113 := (f111.keep ((Keep.refl h107 [a1]).trans K112 (allS (Or.inl (by simp)) all0)))
  have f114 := (F107.other W112 (Or.inr (slot_ne (Or.inr (hw _ (List.mem_of_getElem? (i := 20) rfl))) (Or.inr (hw _ (List.mem_of_getElem? (i := 21) rfl))) (by decide) (t := (.array .byte)) (t' := .byte) (by decide) (by decide))))
  have f115 := (V102.keep (((Keep.refl h102 [a1]).trans K107 (allS (Or.inl (by simp)) all0)).trans K112 (allS (Or.inl (by simp)) all0)) (own_ninS (by omega) nin0))
  have CR116 := CR103.trans (CHr.keep (((Keep.refl h102 [a1]).trans K107 (allS (Or.inl (by simp)) all0)).trans K112 (allS (Or.inl (by simp)) all0)) (allS (own_safeNull hZ.alike f104 f105) all0) CR103.1)
  exact own_retVW X112 hx hlk e112 hZ hEL hS (by omega) CR116 hret (hb hby d3_26) (by decide) (by decide) ⟨rfl, N112, ((((Keep.refl h0 [a1]).trans K102 all0).trans K107 (allS (Or.inl (by simp)) all0)).trans K112 (allS (Or.inl (by simp)) all0)), own_litStr f113 F112 f114 f115 (by decide) (by decide) (by decide) (by decide)⟩
theorem d2_0 : decode jdk_42_method_3_code 0 = .ok (.aload_n 0, 1) := by decide +kernel
theorem d2_1 : decode jdk_42_method_3_code 1 = .ok (.aload_n 1, 1) := by decide +kernel
theorem d2_2 : decode jdk_42_method_3_code 2 = .ok (.iconst 0, 1) := by decide +kernel
theorem d2_3 : decode jdk_42_method_3_code 3 = .ok (.aload_n 1, 1) := by decide +kernel
theorem d2_4 : decode jdk_42_method_3_code 4 = .ok (.arraylength, 1) := by decide +kernel
theorem d2_5 : decode jdk_42_method_3_code 5 = .ok (.aconst_null, 1) := by decide +kernel
theorem pd__28_5bCIILjava_2flang_2fVoid_3b_29V : parseMethodDescriptor "([CIILjava/lang/Void;)V" = some ⟨[(.array .char), .int, .int, (.object "java/lang/Void")], none⟩ := by decide +kernel
theorem d2_6 : decode jdk_42_method_3_code 6 = .ok (.invokespecial 27, 3) := by decide +kernel
theorem d2_9 : decode jdk_42_method_3_code 9 = .ok (.return_, 1) := by decide +kernel
theorem ef_em1 (m : MethodId) (x0 : Addr) (x1 : Addr) : entryFrame m #[(.ref x0), (.ref x1)] 2 = mkF m 0 #[.val (.ref x0), .val (.ref x1)] [] := by (first | (simp [entryFrame, mkF, argsToLocals, Value.category]; done) | rfl)
abbrev em1R : Room := { frames := 2, cells := 2, slots := 4, locals := 29 }
set_option maxRecDepth 65536 in
set_option maxHeartbeats 40000000 in
theorem em1 (l : Launch) (Z : State) (a0 : Array Value) (hw : ∀ d ∈ tables_1, d.before a0 Z = true) (a1 a2 : Nat) (k2 : ClassId) (u2 : Value) (h0 : Heap) (n0 : Nat) (O0 : Old Z n0 h0) (E1 : Exa Z h0 a1 "java/lang/String") (g1 : n0 ≤ a1) (F1 : Fld Z h0 a1 "java/lang/String" "value" "[B" .null) (F2 : Fld Z h0 a1 "java/lang/String" "coder" "B" u2) (lt1 : a1 < h0.size) (V2 : Arv Z h0 a2 k2 .char 0 [] (.int 0)) :
    own_CW l Z (⟨"java/lang/String", "<init>", "([C)V"⟩ : MethodName) jdk_42_method_3_code 2 none [] em1R #[(.ref a1), (.ref a2)] h0 (fun v h L => v = none ∧ Fr n0 L ∧ Keep h0 h [a1] ∧ own_Str Z h a1 []) := by
  refine own_bodyW (plainFor_of_name pn_java_lang_String) ?_
  intro p e s m below meth c T0 X0 hx hby hml hZ hown hnm hret hlk e0 hS CR
  have hEL := own_hEL hw
  have N0 := Fr.nil n0
  have zO := own_old O0
  refine own_stW (fun _ k => castTop (ef_em1 m a1 a2) k) ?_
  show own_GoW p e below s _ _ _ _ _ (T0.setTop (mkF m 0 #[.val (.ref a1), .val (.ref a2)] []))
  refine own_stW (fun _ k => XS.aloadN X0.here hx rfl (hb hby d2_0) rfl rfl k) ?_
  show own_GoW p e below s _ _ _ _ _ (T0.setTop (mkF m 1 #[.val (.ref a1), .val (.ref a2)] [(.ref a1)]))
  refine own_stW (fun _ k => XS.aloadN X0.here hx rfl (hb hby d2_1) rfl rfl k) ?_
  show own_GoW p e below s _ _ _ _ _ (T0.setTop (mkF m 2 #[.val (.ref a1), .val (.ref a2)] [(.ref a2), (.ref a1)]))
  refine own_stW (fun _ k => XS.iconst X0.here hx rfl (hb hby d2_2) k) ?_
  show own_GoW p e below s _ _ _ _ _ (T0.setTop (mkF m 3 #[.val (.ref a1), .val (.ref a2)] [(.int (0 : Int32)), (.ref a2), (.ref a1)]))
  refine own_stW (fun _ k => XS.aloadN X0.here hx rfl (hb hby d2_3) rfl rfl k) ?_
  show own_GoW p e below s _ _ _ _ _ (T0.setTop (mkF m 4 #[.val (.ref a1), .val (.ref a2)] [(.ref a2), (.int (0 : Int32)), (.ref a2), (.ref a1)]))
  obtain ⟨c101, Ar101, q101, S101, M101, H101, U101⟩ := id V2
  refine own_stW (X0.arraylength hx (by rw [e0]; exact Ar101.1) (State.isArrayOf_alike hZ.alike Ar101.2.1) (g := (mkF m 4 #[.val (.ref a1), .val (.ref a2)] [(.ref a2), (.int (0 : Int32)), (.ref a2), (.ref a1)])) rfl rfl (hb hby d2_4)) ?_
  rw [len_of S101 M101]
  show own_GoW p e below s _ _ _ _ _ (T0.setTop (mkF m 5 #[.val (.ref a1), .val (.ref a2)] [(.int (0 : Int32)), (.int (0 : Int32)), (.ref a2), (.ref a1)]))
  refine own_stW (fun _ k => XS.aconstNull X0.here hx rfl (hb hby d2_5) k) ?_
  show own_GoW p e below s _ _ _ _ _ (T0.setTop (mkF m 6 #[.val (.ref a1), .val (.ref a2)] [.null, (.int (0 : Int32)), (.int (0 : Int32)), (.ref a2), (.ref a1)]))
  obtain ⟨T102, v102, L102, h102, X102, e102, q102, hS102, hZ102, hown102, CH102, st102⟩ := own_callIW X0 hx hZ (y := (⟨"java/lang/String", "<init>", "([CIILjava/lang/Void;)V"⟩ : MethodName)) rfl hown hS (by omega) (hw _ (List.mem_of_getElem? (i := 11) rfl)) (hw _ (List.mem_of_getElem? (i := 12) rfl)) (hw _ (List.mem_of_getElem? (i := 14) rfl)) (by decide) (own_bkS (W := 0) (em4 l Z a0 hw a1 a2 _ h0 n0 O0 E1 (by omega) F1 F2 (by omega)) hZ (hw _ (List.mem_of_getElem? (i := 14) rfl)) (hw _ (List.mem_of_getElem? (i := 6) rfl)) (by decide) (by decide) hEL CR.1) e0 (by decide) (by decide) (g := (mkF m 6 #[.val (.ref a1), .val (.ref a2)] [.null, (.int (0 : Int32)), (.int (0 : Int32)), (.ref a2), (.ref a1)])) rfl (by rw [hml]; rfl) (a := a1) (argsL := [(.ref a2), (.int (0 : Int32)), (.int (0 : Int32)), .null]) (rest := []) (lenOf pd__28_5bCIILjava_2flang_2fVoid_3b_29V rfl) rfl rfl (by show 2 * 0 + _ ≤ _; exact Nat.le_of_eq rfl) (hb hby d2_6)
  obtain ⟨rfl, N102q, K102, S102⟩ := q102
  have hS := hS102
  have hZ := hZ102
  have hown := hown102
  refine own_stW st102 ?_
  have zK102 := K102.1
  have CR103 := CR.trans CH102
  have N102 := Fr.app N0 N102q
  have A102 := S102.1
  show own_GoW p e below s _ _ _ _ _ (T102.setTop (mkF m 9 #[.val (.ref a1), .val (.ref a2)] []))
  exact own_retVW X102 hx hlk e102 hZ hEL hS (by omega) CR103 hret (hb hby d2_9) (by decide) (by decide) ⟨rfl, N102, ((Keep.refl h0 [a1]).trans K102 (allS (Or.inl (by simp)) all0)), S102⟩
theorem d6_0 : decode jdk_42_method_66_code 0 = .ok (.aload_n 0, 1) := by decide +kernel
theorem d6_1 : decode jdk_42_method_66_code 1 = .ok (.aload_n 1, 1) := by decide +kernel
theorem d6_2 : decode jdk_42_method_66_code 2 = .ok (.if_acmp .ne 5, 3) := by decide +kernel
theorem d6_7 : decode jdk_42_method_66_code 7 = .ok (.aload_n 1, 1) := by decide +kernel
theorem d6_8 : decode jdk_42_method_66_code 8 = .ok (.instanceof 10, 3) := by decide +kernel
theorem d6_11 : decode jdk_42_method_66_code 11 = .ok (.ifCond .eq 43, 3) := by decide +kernel
theorem d6_54 : decode jdk_42_method_66_code 54 = .ok (.iconst 0, 1) := by decide +kernel
theorem d6_55 : decode jdk_42_method_66_code 55 = .ok (.ireturn, 1) := by decide +kernel
theorem ef_seN (m : MethodId) (x0 : Addr) : entryFrame m #[(.ref x0), .null] 3 = mkF m 0 #[.val (.ref x0), .val .null, .unset] [] := by (first | (simp [entryFrame, mkF, argsToLocals, Value.category]; done) | rfl)
abbrev seNR : Room := { frames := 0, cells := 0, slots := 0, locals := 0 }
set_option maxRecDepth 65536 in
set_option maxHeartbeats 40000000 in
theorem seN (l : Launch) (Z : State) (a0 : Array Value) (hw : ∀ d ∈ tables_1, d.before a0 Z = true) (a1 : Nat) (h0 : Heap) (n0 : Nat) (O0 : Old Z n0 h0)  :
    own_C l Z (⟨"java/lang/String", "equals", "(Ljava/lang/Object;)Z"⟩ : MethodName) jdk_42_method_66_code 3 (some .boolean) [] seNR #[(.ref a1), .null] h0 (fun v h L => v = some (.int 0) ∧ Fr n0 L ∧ h = h0) := by
  refine own_body (plainFor_of_name pn_java_lang_String) ?_
  intro p e s m below meth c T0 X0 hx hby hml hZ hown hnm hret hlk e0
  have N0 := Fr.nil n0
  have zO := own_old O0
  refine own_st (fun _ k => castTop (ef_seN m a1) k) ?_
  show own_Go p e below s _ _ _ (T0.setTop (mkF m 0 #[.val (.ref a1), .val .null, .unset] []))
  refine own_st (fun _ k => XS.aloadN X0.here hx rfl (hb hby d6_0) rfl rfl k) ?_
  show own_Go p e below s _ _ _ (T0.setTop (mkF m 1 #[.val (.ref a1), .val .null, .unset] [(.ref a1)]))
  refine own_st (fun _ k => XS.aloadN X0.here hx rfl (hb hby d6_1) rfl rfl k) ?_
  show own_Go p e below s _ _ _ (T0.setTop (mkF m 2 #[.val (.ref a1), .val .null, .unset] [.null, (.ref a1)]))
  refine own_st (fun _ k => Jvm.RoadKit.acmp (g := (mkF m 2 #[.val (.ref a1), .val .null, .unset] [.null, (.ref a1)])) X0 hx rfl rfl rfl (pc0 := 2) (pc' := 7) (same := false) rfl (hb hby d6_2) rfl (decide_eq_false nofun) (by decide) (by decide) k) ?_
  show own_Go p e below s _ _ _ (T0.setTop (mkF m 7 #[.val (.ref a1), .val .null, .unset] []))
  refine own_st (fun _ k => XS.aloadN X0.here hx rfl (hb hby d6_7) rfl rfl k) ?_
  show own_Go p e below s _ _ _ (T0.setTop (mkF m 8 #[.val (.ref a1), .val .null, .unset] [.null]))
  refine own_st (X0.instanceofNull hx (g := (mkF m 8 #[.val (.ref a1), .val .null, .unset] [.null])) rfl rfl (hb hby d6_8)) ?_
  show own_Go p e below s _ _ _ (T0.setTop (mkF m 11 #[.val (.ref a1), .val .null, .unset] [(.int (0 : Int32))]))
  refine own_st (fun _ k => XS.ifYes X0.here hx rfl (pc0 := 11) (pc' := 54) rfl (hb hby d6_11) rfl ((if0 _ _).trans (teq (by decide)).1) (by decide) (by decide) k) ?_
  show own_Go p e below s _ _ _ (T0.setTop (mkF m 54 #[.val (.ref a1), .val .null, .unset] []))
  refine own_st (fun _ k => XS.iconst X0.here hx rfl (hb hby d6_54) k) ?_
  show own_Go p e below s _ _ _ (T0.setTop (mkF m 55 #[.val (.ref a1), .val .null, .unset] [(.int (0 : Int32))]))
  exact own_ret X0 hx hlk e0 hret (by decide) (Or.inl ⟨rfl, Or.inr (Or.inl rfl), _, rfl⟩) (hb hby d6_55) (by decide) (by decide) ⟨rfl, N0, rfl⟩
theorem d1_0 : decode method_2_code 0 = .ok (.iload_n 0, 1) := by decide +kernel
theorem d1_1 : decode method_2_code 1 = .ok (.ifCond .ne 14, 3) := by decide +kernel
theorem d1_4 : decode method_2_code 4 = .ok (.new 7, 3) := by decide +kernel
theorem d1_7 : decode method_2_code 7 = .ok (.dup, 1) := by decide +kernel
theorem d1_8 : decode method_2_code 8 = .ok (.iconst 0, 1) := by decide +kernel
theorem d1_9 : decode method_2_code 9 = .ok (.newarray .char, 2) := by decide +kernel
theorem pd__28_5bC_29V : parseMethodDescriptor "([C)V" = some ⟨[(.array .char)], none⟩ := by decide +kernel
theorem d1_11 : decode method_2_code 11 = .ok (.invokespecial 9, 3) := by decide +kernel
theorem d1_14 : decode method_2_code 14 = .ok (.areturn, 1) := by decide +kernel
theorem d1_15 : decode method_2_code 15 = .ok (.iload_n 0, 1) := by decide +kernel
theorem d1_16 : decode method_2_code 16 = .ok (.iconst 1, 1) := by decide +kernel
theorem d1_17 : decode method_2_code 17 = .ok (.if_icmp .ne 18, 3) := by decide +kernel
theorem d1_20 : decode method_2_code 20 = .ok (.new 7, 3) := by decide +kernel
theorem d1_23 : decode method_2_code 23 = .ok (.dup, 1) := by decide +kernel
theorem d1_24 : decode method_2_code 24 = .ok (.iconst 1, 1) := by decide +kernel
theorem d1_25 : decode method_2_code 25 = .ok (.newarray .char, 2) := by decide +kernel
theorem d1_27 : decode method_2_code 27 = .ok (.dup, 1) := by decide +kernel
theorem d1_28 : decode method_2_code 28 = .ok (.iconst 0, 1) := by decide +kernel
theorem d1_29 : decode method_2_code 29 = .ok (.iload_n 1, 1) := by decide +kernel
theorem d1_30 : decode method_2_code 30 = .ok (.castore, 1) := by decide +kernel
theorem d1_31 : decode method_2_code 31 = .ok (.invokespecial 9, 3) := by decide +kernel
theorem d1_34 : decode method_2_code 34 = .ok (.areturn, 1) := by decide +kernel
theorem d1_35 : decode method_2_code 35 = .ok (.iload_n 0, 1) := by decide +kernel
theorem d1_36 : decode method_2_code 36 = .ok (.iconst 2, 1) := by decide +kernel
theorem d1_37 : decode method_2_code 37 = .ok (.if_icmp .ne 22, 3) := by decide +kernel
theorem d1_40 : decode method_2_code 40 = .ok (.new 7, 3) := by decide +kernel
theorem d1_43 : decode method_2_code 43 = .ok (.dup, 1) := by decide +kernel
theorem d1_44 : decode method_2_code 44 = .ok (.iconst 2, 1) := by decide +kernel
theorem d1_45 : decode method_2_code 45 = .ok (.newarray .char, 2) := by decide +kernel
theorem d1_47 : decode method_2_code 47 = .ok (.dup, 1) := by decide +kernel
theorem d1_48 : decode method_2_code 48 = .ok (.iconst 0, 1) := by decide +kernel
theorem d1_49 : decode method_2_code 49 = .ok (.iload_n 1, 1) := by decide +kernel
theorem d1_50 : decode method_2_code 50 = .ok (.castore, 1) := by decide +kernel
theorem d1_51 : decode method_2_code 51 = .ok (.dup, 1) := by decide +kernel
theorem d1_52 : decode method_2_code 52 = .ok (.iconst 1, 1) := by decide +kernel
theorem d1_53 : decode method_2_code 53 = .ok (.iload_n 2, 1) := by decide +kernel
theorem d1_54 : decode method_2_code 54 = .ok (.castore, 1) := by decide +kernel
theorem d1_55 : decode method_2_code 55 = .ok (.invokespecial 9, 3) := by decide +kernel
theorem d1_58 : decode method_2_code 58 = .ok (.areturn, 1) := by decide +kernel
theorem d1_59 : decode method_2_code 59 = .ok (.iload_n 0, 1) := by decide +kernel
theorem d1_60 : decode method_2_code 60 = .ok (.iconst 3, 1) := by decide +kernel
theorem d1_61 : decode method_2_code 61 = .ok (.if_icmp .ne 26, 3) := by decide +kernel
theorem d1_64 : decode method_2_code 64 = .ok (.new 7, 3) := by decide +kernel
theorem d1_67 : decode method_2_code 67 = .ok (.dup, 1) := by decide +kernel
theorem d1_68 : decode method_2_code 68 = .ok (.iconst 3, 1) := by decide +kernel
theorem d1_69 : decode method_2_code 69 = .ok (.newarray .char, 2) := by decide +kernel
theorem d1_71 : decode method_2_code 71 = .ok (.dup, 1) := by decide +kernel
theorem d1_72 : decode method_2_code 72 = .ok (.iconst 0, 1) := by decide +kernel
theorem d1_73 : decode method_2_code 73 = .ok (.iload_n 1, 1) := by decide +kernel
theorem d1_74 : decode method_2_code 74 = .ok (.castore, 1) := by decide +kernel
theorem d1_75 : decode method_2_code 75 = .ok (.dup, 1) := by decide +kernel
theorem d1_76 : decode method_2_code 76 = .ok (.iconst 1, 1) := by decide +kernel
theorem d1_77 : decode method_2_code 77 = .ok (.iload_n 2, 1) := by decide +kernel
theorem d1_78 : decode method_2_code 78 = .ok (.castore, 1) := by decide +kernel
theorem d1_79 : decode method_2_code 79 = .ok (.dup, 1) := by decide +kernel
theorem d1_80 : decode method_2_code 80 = .ok (.iconst 2, 1) := by decide +kernel
theorem d1_81 : decode method_2_code 81 = .ok (.iload_n 3, 1) := by decide +kernel
theorem d1_82 : decode method_2_code 82 = .ok (.castore, 1) := by decide +kernel
theorem d1_83 : decode method_2_code 83 = .ok (.invokespecial 9, 3) := by decide +kernel
theorem d1_86 : decode method_2_code 86 = .ok (.areturn, 1) := by decide +kernel
theorem d1_87 : decode method_2_code 87 = .ok (.iload_n 0, 1) := by decide +kernel
theorem d1_88 : decode method_2_code 88 = .ok (.iconst 4, 1) := by decide +kernel
theorem d1_89 : decode method_2_code 89 = .ok (.if_icmp .ne 31, 3) := by decide +kernel
theorem d1_92 : decode method_2_code 92 = .ok (.new 7, 3) := by decide +kernel
theorem d1_95 : decode method_2_code 95 = .ok (.dup, 1) := by decide +kernel
theorem d1_96 : decode method_2_code 96 = .ok (.iconst 4, 1) := by decide +kernel
theorem d1_97 : decode method_2_code 97 = .ok (.newarray .char, 2) := by decide +kernel
theorem d1_99 : decode method_2_code 99 = .ok (.dup, 1) := by decide +kernel
theorem d1_100 : decode method_2_code 100 = .ok (.iconst 0, 1) := by decide +kernel
theorem d1_101 : decode method_2_code 101 = .ok (.iload_n 1, 1) := by decide +kernel
theorem d1_102 : decode method_2_code 102 = .ok (.castore, 1) := by decide +kernel
theorem d1_103 : decode method_2_code 103 = .ok (.dup, 1) := by decide +kernel
theorem d1_104 : decode method_2_code 104 = .ok (.iconst 1, 1) := by decide +kernel
theorem d1_105 : decode method_2_code 105 = .ok (.iload_n 2, 1) := by decide +kernel
theorem d1_106 : decode method_2_code 106 = .ok (.castore, 1) := by decide +kernel
theorem d1_107 : decode method_2_code 107 = .ok (.dup, 1) := by decide +kernel
theorem d1_108 : decode method_2_code 108 = .ok (.iconst 2, 1) := by decide +kernel
theorem d1_109 : decode method_2_code 109 = .ok (.iload_n 3, 1) := by decide +kernel
theorem d1_110 : decode method_2_code 110 = .ok (.castore, 1) := by decide +kernel
theorem d1_111 : decode method_2_code 111 = .ok (.dup, 1) := by decide +kernel
theorem d1_112 : decode method_2_code 112 = .ok (.iconst 3, 1) := by decide +kernel
theorem d1_113 : decode method_2_code 113 = .ok (.iload 4, 2) := by decide +kernel
theorem d1_115 : decode method_2_code 115 = .ok (.castore, 1) := by decide +kernel
theorem d1_116 : decode method_2_code 116 = .ok (.invokespecial 9, 3) := by decide +kernel
theorem d1_119 : decode method_2_code 119 = .ok (.areturn, 1) := by decide +kernel
theorem d1_120 : decode method_2_code 120 = .ok (.iload_n 0, 1) := by decide +kernel
theorem d1_121 : decode method_2_code 121 = .ok (.iconst 5, 1) := by decide +kernel
theorem d1_122 : decode method_2_code 122 = .ok (.if_icmp .ne 36, 3) := by decide +kernel
theorem d1_125 : decode method_2_code 125 = .ok (.new 7, 3) := by decide +kernel
theorem d1_128 : decode method_2_code 128 = .ok (.dup, 1) := by decide +kernel
theorem d1_129 : decode method_2_code 129 = .ok (.iconst 5, 1) := by decide +kernel
theorem d1_130 : decode method_2_code 130 = .ok (.newarray .char, 2) := by decide +kernel
theorem d1_132 : decode method_2_code 132 = .ok (.dup, 1) := by decide +kernel
theorem d1_133 : decode method_2_code 133 = .ok (.iconst 0, 1) := by decide +kernel
theorem d1_134 : decode method_2_code 134 = .ok (.iload_n 1, 1) := by decide +kernel
theorem d1_135 : decode method_2_code 135 = .ok (.castore, 1) := by decide +kernel
theorem d1_136 : decode method_2_code 136 = .ok (.dup, 1) := by decide +kernel
theorem d1_137 : decode method_2_code 137 = .ok (.iconst 1, 1) := by decide +kernel
theorem d1_138 : decode method_2_code 138 = .ok (.iload_n 2, 1) := by decide +kernel
theorem d1_139 : decode method_2_code 139 = .ok (.castore, 1) := by decide +kernel
theorem d1_140 : decode method_2_code 140 = .ok (.dup, 1) := by decide +kernel
theorem d1_141 : decode method_2_code 141 = .ok (.iconst 2, 1) := by decide +kernel
theorem d1_142 : decode method_2_code 142 = .ok (.iload_n 3, 1) := by decide +kernel
theorem d1_143 : decode method_2_code 143 = .ok (.castore, 1) := by decide +kernel
theorem d1_144 : decode method_2_code 144 = .ok (.dup, 1) := by decide +kernel
theorem d1_145 : decode method_2_code 145 = .ok (.iconst 3, 1) := by decide +kernel
theorem d1_146 : decode method_2_code 146 = .ok (.iload 4, 2) := by decide +kernel
theorem d1_148 : decode method_2_code 148 = .ok (.castore, 1) := by decide +kernel
theorem d1_149 : decode method_2_code 149 = .ok (.dup, 1) := by decide +kernel
theorem d1_150 : decode method_2_code 150 = .ok (.iconst 4, 1) := by decide +kernel
theorem d1_151 : decode method_2_code 151 = .ok (.iload 5, 2) := by decide +kernel
theorem d1_153 : decode method_2_code 153 = .ok (.castore, 1) := by decide +kernel
theorem d1_154 : decode method_2_code 154 = .ok (.invokespecial 9, 3) := by decide +kernel
theorem d1_157 : decode method_2_code 157 = .ok (.areturn, 1) := by decide +kernel
theorem d1_158 : decode method_2_code 158 = .ok (.aconst_null, 1) := by decide +kernel
theorem d1_159 : decode method_2_code 159 = .ok (.areturn, 1) := by decide +kernel
theorem pn_com_example_kaname_kaname_config_ActionDeclarationRouteMethodPinLaw : plainName "com/example/kaname/kaname/config/ActionDeclarationRouteMethodPinLaw" = true := by first | (simp [plainName, overriddenIn]; done) | decide +kernel
theorem ef_mkW (m : MethodId) (x0 : Int32) (x1 : Int32) (x2 : Int32) (x3 : Int32) (x4 : Int32) (x5 : Int32) : entryFrame m #[(.int x0), (.int x1), (.int x2), (.int x3), (.int x4), (.int x5)] 6 = mkF m 0 #[.val (.int x0), .val (.int x1), .val (.int x2), .val (.int x3), .val (.int x4), .val (.int x5)] [] := by (first | (simp [entryFrame, mkF, argsToLocals, Value.category]; done) | rfl)
abbrev mkWR : Room := { frames := 4, cells := 4, slots := 14, locals := 66 }
set_option maxRecDepth 65536 in
set_option maxHeartbeats 40000000 in
theorem mkW (l : Launch) (Z : State) (a0 : Array Value) (hw : ∀ d ∈ tables_1, d.before a0 Z = true) (n c0 c1 c2 c3 c4 : Int32) (h0 : Heap) (n0 : Nat) (O0 : Old Z n0 h0) (CS : own_CS Z) (hc0 : ¬ c0 < 0 ∧ ¬ (255 : Int32) < c0) (hc1 : ¬ c1 < 0 ∧ ¬ (255 : Int32) < c1) (hc2 : ¬ c2 < 0 ∧ ¬ (255 : Int32) < c2) (hc3 : ¬ c3 < 0 ∧ ¬ (255 : Int32) < c3) (hc4 : ¬ c4 < 0 ∧ ¬ (255 : Int32) < c4) :
    own_CW l Z (⟨"com/example/kaname/kaname/config/ActionDeclarationRouteMethodPinLaw", "make", "(ICCCCC)Ljava/lang/String;"⟩ : MethodName) method_2_code 6 (some (.object "java/lang/String")) [] mkWR #[(.int n), (.int c0), (.int c1), (.int c2), (.int c3), (.int c4)] h0 (fun v h L => Fr n0 L ∧ ∃ r : Value, v = some r ∧ Keep h0 h [] ∧ ((r = .null ∧ own_mk n c0 c1 c2 c3 c4 = none) ∨ ∃ (b : Nat) (cs : List Int32), r = .ref b ∧ own_mk n c0 c1 c2 c3 c4 = some cs ∧ own_Str Z h b cs ∧ ∀ c ∈ cs, ¬ (255 : Int32) < c)) := by
  refine own_bodyW (plainFor_of_name pn_com_example_kaname_kaname_config_ActionDeclarationRouteMethodPinLaw) ?_
  intro p e s m below meth c T0 X0 hx hby hml hZ hown hnm hret hlk e0 hS CR
  have hEL := own_hEL hw
  have N0 := Fr.nil n0
  have zO := own_old O0
  refine own_stW (fun _ k => castTop (ef_mkW m n c0 c1 c2 c3 c4) k) ?_
  show own_GoW p e below s _ _ _ _ _ (T0.setTop (mkF m 0 #[.val (.int n), .val (.int c0), .val (.int c1), .val (.int c2), .val (.int c3), .val (.int c4)] []))
  refine own_stW (fun _ k => XS.iloadN X0.here hx rfl (hb hby d1_0) rfl k) ?_
  show own_GoW p e below s _ _ _ _ _ (T0.setTop (mkF m 1 #[.val (.int n), .val (.int c0), .val (.int c1), .val (.int c2), .val (.int c3), .val (.int c4)] [(.int n)]))
  by_cases c101 : n = (0 : Int32)
  · refine own_stW (fun _ k => XS.ifNo X0.here hx rfl (hb hby d1_1) rfl ((if0 _ _).trans (teq c101).2) k) ?_
    show own_GoW p e below s _ _ _ _ _ (T0.setTop (mkF m 4 #[.val (.int n), .val (.int c0), .val (.int c1), .val (.int c2), .val (.int c3), .val (.int c4)] []))
    obtain ⟨T102, h102, X102, e102, E102, A102, D102, -, st102⟩ := newO X0 hx hZ hown (hw _ (List.mem_of_getElem? (i := 4) rfl)) (hw _ (List.mem_of_getElem? (i := 5) rfl)) (hw _ (List.mem_of_getElem? (i := 6) rfl)) e0 (g := (mkF m 4 #[.val (.int n), .val (.int c0), .val (.int c1), .val (.int c2), .val (.int c3), .val (.int c4)] [])) rfl (hb hby d1_4) (by decide) (by decide)
    obtain ⟨b102, g102⟩ : ∃ z, z = h0.size := ⟨_, rfl⟩
    rw [← g102] at A102 D102 st102
    have K102 : Keep h0 h102 [] := (Keep.refl _ _).ext E102
    have l102 : b102 < h102.size := A102.lt
    refine own_stW st102 ?_
    have zK102 := K102.1
    show own_GoW p e below s _ _ _ _ _ (T102.setTop (mkF m 7 #[.val (.int n), .val (.int c0), .val (.int c1), .val (.int c2), .val (.int c3), .val (.int c4)] [(.ref b102)]))
    refine own_stW (fun _ k => XS.dup X102.here hx rfl (hb hby d1_7) rfl rfl k) ?_
    show own_GoW p e below s _ _ _ _ _ (T102.setTop (mkF m 8 #[.val (.int n), .val (.int c0), .val (.int c1), .val (.int c2), .val (.int c3), .val (.int c4)] [(.ref b102), (.ref b102)]))
    refine own_stW (fun _ k => XS.iconst X102.here hx rfl (hb hby d1_8) k) ?_
    show own_GoW p e below s _ _ _ _ _ (T102.setTop (mkF m 9 #[.val (.int n), .val (.int c0), .val (.int c1), .val (.int c2), .val (.int c3), .val (.int c4)] [(.int (0 : Int32)), (.ref b102), (.ref b102)]))
    obtain ⟨T103, h103, k103, X103, e103, E103, A103, st103⟩ := newP X102 hx hZ (hw _ (List.mem_of_getElem? (i := 7) rfl)) e102 (g := (mkF m 9 #[.val (.int n), .val (.int c0), .val (.int c1), .val (.int c2), .val (.int c3), .val (.int c4)] [(.int (0 : Int32)), (.ref b102), (.ref b102)])) rfl (hb hby d1_9) rfl (by decide) (cap := 0) (by decide) (by decide) (by decide) (by decide)
    obtain ⟨b103, g103⟩ : ∃ z, z = h102.size := ⟨_, rfl⟩
    rw [← g103] at A103 st103
    have K103 : Keep h102 h103 [] := (Keep.refl _ _).ext E103
    have l103 : b103 < h103.size := A103.lt
    refine own_stW st103 ?_
    have zK103 := K103.1
    have V103 : Arv Z h103 b103 k103 .char (0 : Int32) [] (.int (0 : Int32)) := (Arv.new A103 (by decide)).pad (pad_rep [] (.int (0 : Int32)) 0)
    show own_GoW p e below s _ _ _ _ _ (T103.setTop (mkF m 11 #[.val (.int n), .val (.int c0), .val (.int c1), .val (.int c2), .val (.int c3), .val (.int c4)] [(.ref b103), (.ref b102), (.ref b102)]))
    have O104 : Old Z n0 h103 := O0.keep (((Keep.refl h0 []).trans K102 all0).trans K103 all0) all0
    have F_value_b102 : Fld Z h102 b102 "java/lang/String" "value" "[B" .null := D102 (Or.inr (hw _ (List.mem_of_getElem? (i := 20) rfl))) (ty := (.array .byte)) (by decide)
    have F_coder_b102 : Fld Z h102 b102 "java/lang/String" "coder" "B" (.int (0 : Int32)) := D102 (Or.inr (hw _ (List.mem_of_getElem? (i := 21) rfl))) (ty := .byte) (by decide)
    have f105 := (A102.keep ((Keep.refl h102 []).trans K103 all0))
    have f106 := (F_value_b102.keep ((Keep.refl h102 []).trans K103 all0) nin0)
    have f107 := (F_coder_b102.keep ((Keep.refl h102 []).trans K103 all0) nin0)
    have CR109 := CR.trans (CHr.keep (((Keep.refl h0 []).trans K102 all0).trans K103 all0) all0 CR.1)
    obtain ⟨T108, v108, L108, h108, X108, e108, q108, hS108, hZ108, hown108, CH108, st108⟩ := own_callIW X103 hx hZ (y := (⟨"java/lang/String", "<init>", "([C)V"⟩ : MethodName)) rfl hown hS (by omega) (hw _ (List.mem_of_getElem? (i := 8) rfl)) (hw _ (List.mem_of_getElem? (i := 9) rfl)) (hw _ (List.mem_of_getElem? (i := 10) rfl)) (by decide) (own_bkS (W := 1) (em1 l Z a0 hw b102 b103 _ _ h103 n0 O104 f105 (by omega) f106 f107 (by omega) V103) hZ (hw _ (List.mem_of_getElem? (i := 10) rfl)) (hw _ (List.mem_of_getElem? (i := 6) rfl)) (by decide) (by decide) hEL CR109.1) e103 (by decide) (by decide) (g := (mkF m 11 #[.val (.int n), .val (.int c0), .val (.int c1), .val (.int c2), .val (.int c3), .val (.int c4)] [(.ref b103), (.ref b102), (.ref b102)])) rfl (by rw [hml]; rfl) (a := b102) (argsL := [(.ref b103)]) (rest := [(.ref b102)]) (lenOf pd__28_5bC_29V rfl) rfl rfl (by show 2 * 0 + _ ≤ _; exact Nat.le_of_eq rfl) (hb hby d1_11)
    obtain ⟨rfl, N108q, K108, S108⟩ := q108
    have hS := hS108
    have hZ := hZ108
    have hown := hown108
    refine own_stW st108 ?_
    have zK108 := K108.1
    have CR110 := CR109.trans CH108
    have N108 := Fr.app N0 N108q
    have A108 := S108.1
    show own_GoW p e below s _ _ _ _ _ (T108.setTop (mkF m 14 #[.val (.int n), .val (.int c0), .val (.int c1), .val (.int c2), .val (.int c3), .val (.int c4)] [(.ref b102)]))
    exact own_retW X108 hx hlk e108 hZ hEL hS (by omega) CR110 hret rfl (Or.inr (Or.inr (Or.inr (Or.inr ⟨rfl, rfl, rfl⟩)))) (hb hby d1_14) (by decide) (by decide) ⟨N108, _, rfl, ((((Keep.refl h0 []).trans K102 all0).trans K103 all0).trans K108 (allS (Or.inr (by omega)) all0)), Or.inr ⟨b102, ([] : List Int32), rfl, (by unfold own_mk; rw [if_pos c101]), S108, (fun c hc => nomatch hc)⟩⟩
  · refine own_stW (fun _ k => XS.ifYes X0.here hx rfl (pc0 := 1) (pc' := 15) rfl (hb hby d1_1) rfl ((if0 _ _).trans (feq c101).2) (by decide) (by decide) k) ?_
    show own_GoW p e below s _ _ _ _ _ (T0.setTop (mkF m 15 #[.val (.int n), .val (.int c0), .val (.int c1), .val (.int c2), .val (.int c3), .val (.int c4)] []))
    refine own_stW (fun _ k => XS.iloadN X0.here hx rfl (hb hby d1_15) rfl k) ?_
    show own_GoW p e below s _ _ _ _ _ (T0.setTop (mkF m 16 #[.val (.int n), .val (.int c0), .val (.int c1), .val (.int c2), .val (.int c3), .val (.int c4)] [(.int n)]))
    refine own_stW (fun _ k => XS.iconst X0.here hx rfl (hb hby d1_16) k) ?_
    show own_GoW p e below s _ _ _ _ _ (T0.setTop (mkF m 17 #[.val (.int n), .val (.int c0), .val (.int c1), .val (.int c2), .val (.int c3), .val (.int c4)] [(.int (1 : Int32)), (.int n)]))
    by_cases c111 : n = (1 : Int32)
    · refine own_stW (fun _ k => XS.icmpNo X0.here hx rfl (hb hby d1_17) rfl (teq c111).2 k) ?_
      show own_GoW p e below s _ _ _ _ _ (T0.setTop (mkF m 20 #[.val (.int n), .val (.int c0), .val (.int c1), .val (.int c2), .val (.int c3), .val (.int c4)] []))
      obtain ⟨T112, h112, X112, e112, E112, A112, D112, -, st112⟩ := newO X0 hx hZ hown (hw _ (List.mem_of_getElem? (i := 4) rfl)) (hw _ (List.mem_of_getElem? (i := 5) rfl)) (hw _ (List.mem_of_getElem? (i := 6) rfl)) e0 (g := (mkF m 20 #[.val (.int n), .val (.int c0), .val (.int c1), .val (.int c2), .val (.int c3), .val (.int c4)] [])) rfl (hb hby d1_20) (by decide) (by decide)
      obtain ⟨b112, g112⟩ : ∃ z, z = h0.size := ⟨_, rfl⟩
      rw [← g112] at A112 D112 st112
      have K112 : Keep h0 h112 [] := (Keep.refl _ _).ext E112
      have l112 : b112 < h112.size := A112.lt
      refine own_stW st112 ?_
      have zK112 := K112.1
      show own_GoW p e below s _ _ _ _ _ (T112.setTop (mkF m 23 #[.val (.int n), .val (.int c0), .val (.int c1), .val (.int c2), .val (.int c3), .val (.int c4)] [(.ref b112)]))
      refine own_stW (fun _ k => XS.dup X112.here hx rfl (hb hby d1_23) rfl rfl k) ?_
      show own_GoW p e below s _ _ _ _ _ (T112.setTop (mkF m 24 #[.val (.int n), .val (.int c0), .val (.int c1), .val (.int c2), .val (.int c3), .val (.int c4)] [(.ref b112), (.ref b112)]))
      refine own_stW (fun _ k => XS.iconst X112.here hx rfl (hb hby d1_24) k) ?_
      show own_GoW p e below s _ _ _ _ _ (T112.setTop (mkF m 25 #[.val (.int n), .val (.int c0), .val (.int c1), .val (.int c2), .val (.int c3), .val (.int c4)] [(.int (1 : Int32)), (.ref b112), (.ref b112)]))
      obtain ⟨T113, h113, k113, X113, e113, E113, A113, st113⟩ := newP X112 hx hZ (hw _ (List.mem_of_getElem? (i := 7) rfl)) e112 (g := (mkF m 25 #[.val (.int n), .val (.int c0), .val (.int c1), .val (.int c2), .val (.int c3), .val (.int c4)] [(.int (1 : Int32)), (.ref b112), (.ref b112)])) rfl (hb hby d1_25) rfl (by decide) (cap := 1) (by decide) (by decide) (by decide) (by decide)
      obtain ⟨b113, g113⟩ : ∃ z, z = h112.size := ⟨_, rfl⟩
      rw [← g113] at A113 st113
      have K113 : Keep h112 h113 [] := (Keep.refl _ _).ext E113
      have l113 : b113 < h113.size := A113.lt
      refine own_stW st113 ?_
      have zK113 := K113.1
      have V113 : Arv Z h113 b113 k113 .char (1 : Int32) [(.int (0 : Int32))] (.int (0 : Int32)) := (Arv.new A113 (by decide)).pad (pad_rep [] (.int (0 : Int32)) 1)
      show own_GoW p e below s _ _ _ _ _ (T113.setTop (mkF m 27 #[.val (.int n), .val (.int c0), .val (.int c1), .val (.int c2), .val (.int c3), .val (.int c4)] [(.ref b113), (.ref b112), (.ref b112)]))
      refine own_stW (fun _ k => XS.dup X113.here hx rfl (hb hby d1_27) rfl rfl k) ?_
      show own_GoW p e below s _ _ _ _ _ (T113.setTop (mkF m 28 #[.val (.int n), .val (.int c0), .val (.int c1), .val (.int c2), .val (.int c3), .val (.int c4)] [(.ref b113), (.ref b113), (.ref b112), (.ref b112)]))
      refine own_stW (fun _ k => XS.iconst X113.here hx rfl (hb hby d1_28) k) ?_
      show own_GoW p e below s _ _ _ _ _ (T113.setTop (mkF m 29 #[.val (.int n), .val (.int c0), .val (.int c1), .val (.int c2), .val (.int c3), .val (.int c4)] [(.int (0 : Int32)), (.ref b113), (.ref b113), (.ref b112), (.ref b112)]))
      refine own_stW (fun _ k => XS.iloadN X113.here hx rfl (hb hby d1_29) rfl k) ?_
      show own_GoW p e below s _ _ _ _ _ (T113.setTop (mkF m 30 #[.val (.int n), .val (.int c0), .val (.int c1), .val (.int c2), .val (.int c3), .val (.int c4)] [(.int c0), (.int (0 : Int32)), (.ref b113), (.ref b113), (.ref b112), (.ref b112)]))
      obtain ⟨c114, Ar114, q114, S114, M114, H114, U114⟩ := V113
      obtain ⟨T114, h114, X114, e114, W114, st114⟩ := stC X113 hx hZ e113 Ar114 (j := (0 : Int32)) (inb_of S114 ⟨by decide, by decide⟩) (g := (mkF m 30 #[.val (.int n), .val (.int c0), .val (.int c1), .val (.int c2), .val (.int c3), .val (.int c4)] [(.int c0), (.int (0 : Int32)), (.ref b113), (.ref b113), (.ref b112), (.ref b112)])) rfl rfl (hb hby d1_30)
      have V114 : Arv Z h114 b113 k113 .char (1 : Int32) [(.int c0)] (.int (0 : Int32)) := by
        have q := Arv.set Ar114 q114 S114 M114 H114 U114 (fits_nar_char _) W114 0 rfl (Nat.le_of_ble_eq_true rfl)
        rw [own_narC (own_up1 hc0)] at q
        exact q
      have K114 := Keep.of_wr W114
      have N114 := Fr.snoc X114 N0 (by omega : n0 ≤ b113)
      refine own_stW st114 ?_
      have zK114 := K114.1
      show own_GoW p e below s _ _ _ _ _ (T114.setTop (mkF m 31 #[.val (.int n), .val (.int c0), .val (.int c1), .val (.int c2), .val (.int c3), .val (.int c4)] [(.ref b113), (.ref b112), (.ref b112)]))
      have F_value_b112 : Fld Z h112 b112 "java/lang/String" "value" "[B" .null := D112 (Or.inr (hw _ (List.mem_of_getElem? (i := 20) rfl))) (ty := (.array .byte)) (by decide)
      have F_coder_b112 : Fld Z h112 b112 "java/lang/String" "coder" "B" (.int (0 : Int32)) := D112 (Or.inr (hw _ (List.mem_of_getElem? (i := 21) rfl))) (ty := .byte) (by decide)
      have f115 := (A112.keep (((Keep.refl h112 []).trans K113 all0).trans K114 (allS (Or.inr (by omega)) all0)))
      have f116 := (F_value_b112.keep (((Keep.refl h112 []).trans K113 all0).trans K114 (allS (Or.inr (by omega)) all0)) nin0)
      have f117 := (F_coder_b112.keep (((Keep.refl h112 []).trans K113 all0).trans K114 (allS (Or.inr (by omega)) all0)) nin0)
      have O118 : Old Z n0 h114 := O0.keep ((((Keep.refl h0 []).trans K112 all0).trans K113 all0).trans K114 (allS (Or.inr (by omega)) all0)) all0
      obtain ⟨T119, v119, L119, h119, X119, e119, q119, st119⟩ := own_callI X114 hx hZ (y := (⟨"java/lang/String", "<init>", "([C)V"⟩ : MethodName)) rfl hown (hw _ (List.mem_of_getElem? (i := 8) rfl)) (hw _ (List.mem_of_getElem? (i := 9) rfl)) (hw _ (List.mem_of_getElem? (i := 10) rfl)) (by decide) (own_nsB (W := 1) hZ (own_wNew hw) (kI := 4) (hw _ (List.mem_of_getElem? (i := 5) rfl)) (cs := [c0]) (n := 1) (by omega : n0 ≤ b112) O118 CS f115 f116 f117 V114 rfl rfl (by decide) (by decide) (own_all1 hc0) (by decide) (by decide)) e114 (by decide) (by decide) (g := (mkF m 31 #[.val (.int n), .val (.int c0), .val (.int c1), .val (.int c2), .val (.int c3), .val (.int c4)] [(.ref b113), (.ref b112), (.ref b112)])) rfl (by rw [hml]; rfl) (a := b112) (argsL := [(.ref b113)]) (rest := [(.ref b112)]) (lenOf pd__28_5bC_29V rfl) rfl rfl (by show 2 * 0 + _ ≤ _; exact Nat.le_of_eq rfl) (hb hby d1_31)
      obtain ⟨rfl, N119q, K119, S119⟩ := q119
      refine own_stW st119 ?_
      have zK119 := K119.1
      have N119 := Fr.app N114 N119q
      have A119 := S119.1
      show own_GoW p e below s _ _ _ _ _ (T119.setTop (mkF m 34 #[.val (.int n), .val (.int c0), .val (.int c1), .val (.int c2), .val (.int c3), .val (.int c4)] [(.ref b112)]))
      have CR120 := CR.trans (CHr.keep (((((Keep.refl h0 []).trans K112 all0).trans K113 all0).trans K114 (allS (Or.inr (by omega)) all0)).trans K119 (allS (Or.inr (by omega)) all0)) all0 CR.1)
      exact own_retW X119 hx hlk e119 hZ hEL hS (by omega) CR120 hret rfl (Or.inr (Or.inr (Or.inr (Or.inr ⟨rfl, rfl, rfl⟩)))) (hb hby d1_34) (by decide) (by decide) ⟨N119, _, rfl, (((((Keep.refl h0 []).trans K112 all0).trans K113 all0).trans K114 (allS (Or.inr (by omega)) all0)).trans K119 (allS (Or.inr (by omega)) all0)), Or.inr ⟨b112, [c0], rfl, (by unfold own_mk; rw [if_neg c101, if_pos c111]), S119, (fun c hc => ((show ∀ c ∈ [c0], ¬ c < 0 ∧ ¬ (255 : Int32) < c from (own_all1 hc0)) c hc).2)⟩⟩
    · refine own_stW (fun _ k => XS.icmpYes X0.here hx rfl (pc0 := 17) (pc' := 35) rfl (hb hby d1_17) rfl (feq c111).2 (by decide) (by decide) k) ?_
      show own_GoW p e below s _ _ _ _ _ (T0.setTop (mkF m 35 #[.val (.int n), .val (.int c0), .val (.int c1), .val (.int c2), .val (.int c3), .val (.int c4)] []))
      refine own_stW (fun _ k => XS.iloadN X0.here hx rfl (hb hby d1_35) rfl k) ?_
      show own_GoW p e below s _ _ _ _ _ (T0.setTop (mkF m 36 #[.val (.int n), .val (.int c0), .val (.int c1), .val (.int c2), .val (.int c3), .val (.int c4)] [(.int n)]))
      refine own_stW (fun _ k => XS.iconst X0.here hx rfl (hb hby d1_36) k) ?_
      show own_GoW p e below s _ _ _ _ _ (T0.setTop (mkF m 37 #[.val (.int n), .val (.int c0), .val (.int c1), .val (.int c2), .val (.int c3), .val (.int c4)] [(.int (2 : Int32)), (.int n)]))
      by_cases c121 : n = (2 : Int32)
      · refine own_stW (fun _ k => XS.icmpNo X0.here hx rfl (hb hby d1_37) rfl (teq c121).2 k) ?_
        show own_GoW p e below s _ _ _ _ _ (T0.setTop (mkF m 40 #[.val (.int n), .val (.int c0), .val (.int c1), .val (.int c2), .val (.int c3), .val (.int c4)] []))
        obtain ⟨T122, h122, X122, e122, E122, A122, D122, -, st122⟩ := newO X0 hx hZ hown (hw _ (List.mem_of_getElem? (i := 4) rfl)) (hw _ (List.mem_of_getElem? (i := 5) rfl)) (hw _ (List.mem_of_getElem? (i := 6) rfl)) e0 (g := (mkF m 40 #[.val (.int n), .val (.int c0), .val (.int c1), .val (.int c2), .val (.int c3), .val (.int c4)] [])) rfl (hb hby d1_40) (by decide) (by decide)
        obtain ⟨b122, g122⟩ : ∃ z, z = h0.size := ⟨_, rfl⟩
        rw [← g122] at A122 D122 st122
        have K122 : Keep h0 h122 [] := (Keep.refl _ _).ext E122
        have l122 : b122 < h122.size := A122.lt
        refine own_stW st122 ?_
        have zK122 := K122.1
        show own_GoW p e below s _ _ _ _ _ (T122.setTop (mkF m 43 #[.val (.int n), .val (.int c0), .val (.int c1), .val (.int c2), .val (.int c3), .val (.int c4)] [(.ref b122)]))
        refine own_stW (fun _ k => XS.dup X122.here hx rfl (hb hby d1_43) rfl rfl k) ?_
        show own_GoW p e below s _ _ _ _ _ (T122.setTop (mkF m 44 #[.val (.int n), .val (.int c0), .val (.int c1), .val (.int c2), .val (.int c3), .val (.int c4)] [(.ref b122), (.ref b122)]))
        refine own_stW (fun _ k => XS.iconst X122.here hx rfl (hb hby d1_44) k) ?_
        show own_GoW p e below s _ _ _ _ _ (T122.setTop (mkF m 45 #[.val (.int n), .val (.int c0), .val (.int c1), .val (.int c2), .val (.int c3), .val (.int c4)] [(.int (2 : Int32)), (.ref b122), (.ref b122)]))
        obtain ⟨T123, h123, k123, X123, e123, E123, A123, st123⟩ := newP X122 hx hZ (hw _ (List.mem_of_getElem? (i := 7) rfl)) e122 (g := (mkF m 45 #[.val (.int n), .val (.int c0), .val (.int c1), .val (.int c2), .val (.int c3), .val (.int c4)] [(.int (2 : Int32)), (.ref b122), (.ref b122)])) rfl (hb hby d1_45) rfl (by decide) (cap := 2) (by decide) (by decide) (by decide) (by decide)
        obtain ⟨b123, g123⟩ : ∃ z, z = h122.size := ⟨_, rfl⟩
        rw [← g123] at A123 st123
        have K123 : Keep h122 h123 [] := (Keep.refl _ _).ext E123
        have l123 : b123 < h123.size := A123.lt
        refine own_stW st123 ?_
        have zK123 := K123.1
        have V123 : Arv Z h123 b123 k123 .char (2 : Int32) [(.int (0 : Int32)), (.int (0 : Int32))] (.int (0 : Int32)) := (Arv.new A123 (by decide)).pad (pad_rep [] (.int (0 : Int32)) 2)
        show own_GoW p e below s _ _ _ _ _ (T123.setTop (mkF m 47 #[.val (.int n), .val (.int c0), .val (.int c1), .val (.int c2), .val (.int c3), .val (.int c4)] [(.ref b123), (.ref b122), (.ref b122)]))
        refine own_stW (fun _ k => XS.dup X123.here hx rfl (hb hby d1_47) rfl rfl k) ?_
        show own_GoW p e below s _ _ _ _ _ (T123.setTop (mkF m 48 #[.val (.int n), .val (.int c0), .val (.int c1), .val (.int c2), .val (.int c3), .val (.int c4)] [(.ref b123), (.ref b123), (.ref b122), (.ref b122)]))
        refine own_stW (fun _ k => XS.iconst X123.here hx rfl (hb hby d1_48) k) ?_
        show own_GoW p e below s _ _ _ _ _ (T123.setTop (mkF m 49 #[.val (.int n), .val (.int c0), .val (.int c1), .val (.int c2), .val (.int c3), .val (.int c4)] [(.int (0 : Int32)), (.ref b123), (.ref b123), (.ref b122), (.ref b122)]))
        refine own_stW (fun _ k => XS.iloadN X123.here hx rfl (hb hby d1_49) rfl k) ?_
        show own_GoW p e below s _ _ _ _ _ (T123.setTop (mkF m 50 #[.val (.int n), .val (.int c0), .val (.int c1), .val (.int c2), .val (.int c3), .val (.int c4)] [(.int c0), (.int (0 : Int32)), (.ref b123), (.ref b123), (.ref b122), (.ref b122)]))
        obtain ⟨c124, Ar124, q124, S124, M124, H124, U124⟩ := V123
        obtain ⟨T124, h124, X124, e124, W124, st124⟩ := stC X123 hx hZ e123 Ar124 (j := (0 : Int32)) (inb_of S124 ⟨by decide, by decide⟩) (g := (mkF m 50 #[.val (.int n), .val (.int c0), .val (.int c1), .val (.int c2), .val (.int c3), .val (.int c4)] [(.int c0), (.int (0 : Int32)), (.ref b123), (.ref b123), (.ref b122), (.ref b122)])) rfl rfl (hb hby d1_50)
        have V124 : Arv Z h124 b123 k123 .char (2 : Int32) [(.int c0), (.int (0 : Int32))] (.int (0 : Int32)) := by
          have q := Arv.set Ar124 q124 S124 M124 H124 U124 (fits_nar_char _) W124 0 rfl (Nat.le_of_ble_eq_true rfl)
          rw [own_narC (own_up1 hc0)] at q
          exact q
        have K124 := Keep.of_wr W124
        have N124 := Fr.snoc X124 N0 (by omega : n0 ≤ b123)
        refine own_stW st124 ?_
        have zK124 := K124.1
        show own_GoW p e below s _ _ _ _ _ (T124.setTop (mkF m 51 #[.val (.int n), .val (.int c0), .val (.int c1), .val (.int c2), .val (.int c3), .val (.int c4)] [(.ref b123), (.ref b122), (.ref b122)]))
        refine own_stW (fun _ k => XS.dup X124.here hx rfl (hb hby d1_51) rfl rfl k) ?_
        show own_GoW p e below s _ _ _ _ _ (T124.setTop (mkF m 52 #[.val (.int n), .val (.int c0), .val (.int c1), .val (.int c2), .val (.int c3), .val (.int c4)] [(.ref b123), (.ref b123), (.ref b122), (.ref b122)]))
        refine own_stW (fun _ k => XS.iconst X124.here hx rfl (hb hby d1_52) k) ?_
        show own_GoW p e below s _ _ _ _ _ (T124.setTop (mkF m 53 #[.val (.int n), .val (.int c0), .val (.int c1), .val (.int c2), .val (.int c3), .val (.int c4)] [(.int (1 : Int32)), (.ref b123), (.ref b123), (.ref b122), (.ref b122)]))
        refine own_stW (fun _ k => XS.iloadN X124.here hx rfl (hb hby d1_53) rfl k) ?_
        show own_GoW p e below s _ _ _ _ _ (T124.setTop (mkF m 54 #[.val (.int n), .val (.int c0), .val (.int c1), .val (.int c2), .val (.int c3), .val (.int c4)] [(.int c1), (.int (1 : Int32)), (.ref b123), (.ref b123), (.ref b122), (.ref b122)]))
        obtain ⟨c125, Ar125, q125, S125, M125, H125, U125⟩ := V124
        obtain ⟨T125, h125, X125, e125, W125, st125⟩ := stC X124 hx hZ e124 Ar125 (j := (1 : Int32)) (inb_of S125 ⟨by decide, by decide⟩) (g := (mkF m 54 #[.val (.int n), .val (.int c0), .val (.int c1), .val (.int c2), .val (.int c3), .val (.int c4)] [(.int c1), (.int (1 : Int32)), (.ref b123), (.ref b123), (.ref b122), (.ref b122)])) rfl rfl (hb hby d1_54)
        have V125 : Arv Z h125 b123 k123 .char (2 : Int32) [(.int c0), (.int c1)] (.int (0 : Int32)) := by
          have q := Arv.set Ar125 q125 S125 M125 H125 U125 (fits_nar_char _) W125 1 rfl (Nat.le_of_ble_eq_true rfl)
          rw [own_narC (own_up1 hc1)] at q
          exact q
        have K125 := Keep.of_wr W125
        have N125 := Fr.snoc X125 N124 (by omega : n0 ≤ b123)
        refine own_stW st125 ?_
        have zK125 := K125.1
        show own_GoW p e below s _ _ _ _ _ (T125.setTop (mkF m 55 #[.val (.int n), .val (.int c0), .val (.int c1), .val (.int c2), .val (.int c3), .val (.int c4)] [(.ref b123), (.ref b122), (.ref b122)]))
        have F_value_b122 : Fld Z h122 b122 "java/lang/String" "value" "[B" .null := D122 (Or.inr (hw _ (List.mem_of_getElem? (i := 20) rfl))) (ty := (.array .byte)) (by decide)
        have F_coder_b122 : Fld Z h122 b122 "java/lang/String" "coder" "B" (.int (0 : Int32)) := D122 (Or.inr (hw _ (List.mem_of_getElem? (i := 21) rfl))) (ty := .byte) (by decide)
        have f126 := (A122.keep ((((Keep.refl h122 []).trans K123 all0).trans K124 (allS (Or.inr (by omega)) all0)).trans K125 (allS (Or.inr (by omega)) all0)))
        have f127 := (F_value_b122.keep ((((Keep.refl h122 []).trans K123 all0).trans K124 (allS (Or.inr (by omega)) all0)).trans K125 (allS (Or.inr (by omega)) all0)) nin0)
        have f128 := (F_coder_b122.keep ((((Keep.refl h122 []).trans K123 all0).trans K124 (allS (Or.inr (by omega)) all0)).trans K125 (allS (Or.inr (by omega)) all0)) nin0)
        have O129 : Old Z n0 h125 := O0.keep (((((Keep.refl h0 []).trans K122 all0).trans K123 all0).trans K124 (allS (Or.inr (by omega)) all0)).trans K125 (allS (Or.inr (by omega)) all0)) all0
        obtain ⟨T130, v130, L130, h130, X130, e130, q130, st130⟩ := own_callI X125 hx hZ (y := (⟨"java/lang/String", "<init>", "([C)V"⟩ : MethodName)) rfl hown (hw _ (List.mem_of_getElem? (i := 8) rfl)) (hw _ (List.mem_of_getElem? (i := 9) rfl)) (hw _ (List.mem_of_getElem? (i := 10) rfl)) (by decide) (own_nsB (W := 1) hZ (own_wNew hw) (kI := 4) (hw _ (List.mem_of_getElem? (i := 5) rfl)) (cs := [c0, c1]) (n := 2) (by omega : n0 ≤ b122) O129 CS f126 f127 f128 V125 rfl rfl (by decide) (by decide) (own_allC hc0 (own_all1 hc1)) (by decide) (by decide)) e125 (by decide) (by decide) (g := (mkF m 55 #[.val (.int n), .val (.int c0), .val (.int c1), .val (.int c2), .val (.int c3), .val (.int c4)] [(.ref b123), (.ref b122), (.ref b122)])) rfl (by rw [hml]; rfl) (a := b122) (argsL := [(.ref b123)]) (rest := [(.ref b122)]) (lenOf pd__28_5bC_29V rfl) rfl rfl (by show 2 * 0 + _ ≤ _; exact Nat.le_of_eq rfl) (hb hby d1_55)
        obtain ⟨rfl, N130q, K130, S130⟩ := q130
        refine own_stW st130 ?_
        have zK130 := K130.1
        have N130 := Fr.app N125 N130q
        have A130 := S130.1
        show own_GoW p e below s _ _ _ _ _ (T130.setTop (mkF m 58 #[.val (.int n), .val (.int c0), .val (.int c1), .val (.int c2), .val (.int c3), .val (.int c4)] [(.ref b122)]))
        have CR131 := CR.trans (CHr.keep ((((((Keep.refl h0 []).trans K122 all0).trans K123 all0).trans K124 (allS (Or.inr (by omega)) all0)).trans K125 (allS (Or.inr (by omega)) all0)).trans K130 (allS (Or.inr (by omega)) all0)) all0 CR.1)
        exact own_retW X130 hx hlk e130 hZ hEL hS (by omega) CR131 hret rfl (Or.inr (Or.inr (Or.inr (Or.inr ⟨rfl, rfl, rfl⟩)))) (hb hby d1_58) (by decide) (by decide) ⟨N130, _, rfl, ((((((Keep.refl h0 []).trans K122 all0).trans K123 all0).trans K124 (allS (Or.inr (by omega)) all0)).trans K125 (allS (Or.inr (by omega)) all0)).trans K130 (allS (Or.inr (by omega)) all0)), Or.inr ⟨b122, [c0, c1], rfl, (by unfold own_mk; rw [if_neg c101, if_neg c111, if_pos c121]), S130, (fun c hc => ((show ∀ c ∈ [c0, c1], ¬ c < 0 ∧ ¬ (255 : Int32) < c from (own_allC hc0 (own_all1 hc1))) c hc).2)⟩⟩
      · refine own_stW (fun _ k => XS.icmpYes X0.here hx rfl (pc0 := 37) (pc' := 59) rfl (hb hby d1_37) rfl (feq c121).2 (by decide) (by decide) k) ?_
        show own_GoW p e below s _ _ _ _ _ (T0.setTop (mkF m 59 #[.val (.int n), .val (.int c0), .val (.int c1), .val (.int c2), .val (.int c3), .val (.int c4)] []))
        refine own_stW (fun _ k => XS.iloadN X0.here hx rfl (hb hby d1_59) rfl k) ?_
        show own_GoW p e below s _ _ _ _ _ (T0.setTop (mkF m 60 #[.val (.int n), .val (.int c0), .val (.int c1), .val (.int c2), .val (.int c3), .val (.int c4)] [(.int n)]))
        refine own_stW (fun _ k => XS.iconst X0.here hx rfl (hb hby d1_60) k) ?_
        show own_GoW p e below s _ _ _ _ _ (T0.setTop (mkF m 61 #[.val (.int n), .val (.int c0), .val (.int c1), .val (.int c2), .val (.int c3), .val (.int c4)] [(.int (3 : Int32)), (.int n)]))
        by_cases c132 : n = (3 : Int32)
        · refine own_stW (fun _ k => XS.icmpNo X0.here hx rfl (hb hby d1_61) rfl (teq c132).2 k) ?_
          show own_GoW p e below s _ _ _ _ _ (T0.setTop (mkF m 64 #[.val (.int n), .val (.int c0), .val (.int c1), .val (.int c2), .val (.int c3), .val (.int c4)] []))
          obtain ⟨T133, h133, X133, e133, E133, A133, D133, -, st133⟩ := newO X0 hx hZ hown (hw _ (List.mem_of_getElem? (i := 4) rfl)) (hw _ (List.mem_of_getElem? (i := 5) rfl)) (hw _ (List.mem_of_getElem? (i := 6) rfl)) e0 (g := (mkF m 64 #[.val (.int n), .val (.int c0), .val (.int c1), .val (.int c2), .val (.int c3), .val (.int c4)] [])) rfl (hb hby d1_64) (by decide) (by decide)
          obtain ⟨b133, g133⟩ : ∃ z, z = h0.size := ⟨_, rfl⟩
          rw [← g133] at A133 D133 st133
          have K133 : Keep h0 h133 [] := (Keep.refl _ _).ext E133
          have l133 : b133 < h133.size := A133.lt
          refine own_stW st133 ?_
          have zK133 := K133.1
          show own_GoW p e below s _ _ _ _ _ (T133.setTop (mkF m 67 #[.val (.int n), .val (.int c0), .val (.int c1), .val (.int c2), .val (.int c3), .val (.int c4)] [(.ref b133)]))
          refine own_stW (fun _ k => XS.dup X133.here hx rfl (hb hby d1_67) rfl rfl k) ?_
          show own_GoW p e below s _ _ _ _ _ (T133.setTop (mkF m 68 #[.val (.int n), .val (.int c0), .val (.int c1), .val (.int c2), .val (.int c3), .val (.int c4)] [(.ref b133), (.ref b133)]))
          refine own_stW (fun _ k => XS.iconst X133.here hx rfl (hb hby d1_68) k) ?_
          show own_GoW p e below s _ _ _ _ _ (T133.setTop (mkF m 69 #[.val (.int n), .val (.int c0), .val (.int c1), .val (.int c2), .val (.int c3), .val (.int c4)] [(.int (3 : Int32)), (.ref b133), (.ref b133)]))
          obtain ⟨T134, h134, k134, X134, e134, E134, A134, st134⟩ := newP X133 hx hZ (hw _ (List.mem_of_getElem? (i := 7) rfl)) e133 (g := (mkF m 69 #[.val (.int n), .val (.int c0), .val (.int c1), .val (.int c2), .val (.int c3), .val (.int c4)] [(.int (3 : Int32)), (.ref b133), (.ref b133)])) rfl (hb hby d1_69) rfl (by decide) (cap := 3) (by decide) (by decide) (by decide) (by decide)
          obtain ⟨b134, g134⟩ : ∃ z, z = h133.size := ⟨_, rfl⟩
          rw [← g134] at A134 st134
          have K134 : Keep h133 h134 [] := (Keep.refl _ _).ext E134
          have l134 : b134 < h134.size := A134.lt
          refine own_stW st134 ?_
          have zK134 := K134.1
          have V134 : Arv Z h134 b134 k134 .char (3 : Int32) [(.int (0 : Int32)), (.int (0 : Int32)), (.int (0 : Int32))] (.int (0 : Int32)) := (Arv.new A134 (by decide)).pad (pad_rep [] (.int (0 : Int32)) 3)
          show own_GoW p e below s _ _ _ _ _ (T134.setTop (mkF m 71 #[.val (.int n), .val (.int c0), .val (.int c1), .val (.int c2), .val (.int c3), .val (.int c4)] [(.ref b134), (.ref b133), (.ref b133)]))
          refine own_stW (fun _ k => XS.dup X134.here hx rfl (hb hby d1_71) rfl rfl k) ?_
          show own_GoW p e below s _ _ _ _ _ (T134.setTop (mkF m 72 #[.val (.int n), .val (.int c0), .val (.int c1), .val (.int c2), .val (.int c3), .val (.int c4)] [(.ref b134), (.ref b134), (.ref b133), (.ref b133)]))
          refine own_stW (fun _ k => XS.iconst X134.here hx rfl (hb hby d1_72) k) ?_
          show own_GoW p e below s _ _ _ _ _ (T134.setTop (mkF m 73 #[.val (.int n), .val (.int c0), .val (.int c1), .val (.int c2), .val (.int c3), .val (.int c4)] [(.int (0 : Int32)), (.ref b134), (.ref b134), (.ref b133), (.ref b133)]))
          refine own_stW (fun _ k => XS.iloadN X134.here hx rfl (hb hby d1_73) rfl k) ?_
          show own_GoW p e below s _ _ _ _ _ (T134.setTop (mkF m 74 #[.val (.int n), .val (.int c0), .val (.int c1), .val (.int c2), .val (.int c3), .val (.int c4)] [(.int c0), (.int (0 : Int32)), (.ref b134), (.ref b134), (.ref b133), (.ref b133)]))
          obtain ⟨c135, Ar135, q135, S135, M135, H135, U135⟩ := V134
          obtain ⟨T135, h135, X135, e135, W135, st135⟩ := stC X134 hx hZ e134 Ar135 (j := (0 : Int32)) (inb_of S135 ⟨by decide, by decide⟩) (g := (mkF m 74 #[.val (.int n), .val (.int c0), .val (.int c1), .val (.int c2), .val (.int c3), .val (.int c4)] [(.int c0), (.int (0 : Int32)), (.ref b134), (.ref b134), (.ref b133), (.ref b133)])) rfl rfl (hb hby d1_74)
          have V135 : Arv Z h135 b134 k134 .char (3 : Int32) [(.int c0), (.int (0 : Int32)), (.int (0 : Int32))] (.int (0 : Int32)) := by
            have q := Arv.set Ar135 q135 S135 M135 H135 U135 (fits_nar_char _) W135 0 rfl (Nat.le_of_ble_eq_true rfl)
            rw [own_narC (own_up1 hc0)] at q
            exact q
          have K135 := Keep.of_wr W135
          have N135 := Fr.snoc X135 N0 (by omega : n0 ≤ b134)
          refine own_stW st135 ?_
          have zK135 := K135.1
          show own_GoW p e below s _ _ _ _ _ (T135.setTop (mkF m 75 #[.val (.int n), .val (.int c0), .val (.int c1), .val (.int c2), .val (.int c3), .val (.int c4)] [(.ref b134), (.ref b133), (.ref b133)]))
          refine own_stW (fun _ k => XS.dup X135.here hx rfl (hb hby d1_75) rfl rfl k) ?_
          show own_GoW p e below s _ _ _ _ _ (T135.setTop (mkF m 76 #[.val (.int n), .val (.int c0), .val (.int c1), .val (.int c2), .val (.int c3), .val (.int c4)] [(.ref b134), (.ref b134), (.ref b133), (.ref b133)]))
          refine own_stW (fun _ k => XS.iconst X135.here hx rfl (hb hby d1_76) k) ?_
          show own_GoW p e below s _ _ _ _ _ (T135.setTop (mkF m 77 #[.val (.int n), .val (.int c0), .val (.int c1), .val (.int c2), .val (.int c3), .val (.int c4)] [(.int (1 : Int32)), (.ref b134), (.ref b134), (.ref b133), (.ref b133)]))
          refine own_stW (fun _ k => XS.iloadN X135.here hx rfl (hb hby d1_77) rfl k) ?_
          show own_GoW p e below s _ _ _ _ _ (T135.setTop (mkF m 78 #[.val (.int n), .val (.int c0), .val (.int c1), .val (.int c2), .val (.int c3), .val (.int c4)] [(.int c1), (.int (1 : Int32)), (.ref b134), (.ref b134), (.ref b133), (.ref b133)]))
          obtain ⟨c136, Ar136, q136, S136, M136, H136, U136⟩ := V135
          obtain ⟨T136, h136, X136, e136, W136, st136⟩ := stC X135 hx hZ e135 Ar136 (j := (1 : Int32)) (inb_of S136 ⟨by decide, by decide⟩) (g := (mkF m 78 #[.val (.int n), .val (.int c0), .val (.int c1), .val (.int c2), .val (.int c3), .val (.int c4)] [(.int c1), (.int (1 : Int32)), (.ref b134), (.ref b134), (.ref b133), (.ref b133)])) rfl rfl (hb hby d1_78)
          have V136 : Arv Z h136 b134 k134 .char (3 : Int32) [(.int c0), (.int c1), (.int (0 : Int32))] (.int (0 : Int32)) := by
            have q := Arv.set Ar136 q136 S136 M136 H136 U136 (fits_nar_char _) W136 1 rfl (Nat.le_of_ble_eq_true rfl)
            rw [own_narC (own_up1 hc1)] at q
            exact q
          have K136 := Keep.of_wr W136
          have N136 := Fr.snoc X136 N135 (by omega : n0 ≤ b134)
          refine own_stW st136 ?_
          have zK136 := K136.1
          show own_GoW p e below s _ _ _ _ _ (T136.setTop (mkF m 79 #[.val (.int n), .val (.int c0), .val (.int c1), .val (.int c2), .val (.int c3), .val (.int c4)] [(.ref b134), (.ref b133), (.ref b133)]))
          refine own_stW (fun _ k => XS.dup X136.here hx rfl (hb hby d1_79) rfl rfl k) ?_
          show own_GoW p e below s _ _ _ _ _ (T136.setTop (mkF m 80 #[.val (.int n), .val (.int c0), .val (.int c1), .val (.int c2), .val (.int c3), .val (.int c4)] [(.ref b134), (.ref b134), (.ref b133), (.ref b133)]))
          refine own_stW (fun _ k => XS.iconst X136.here hx rfl (hb hby d1_80) k) ?_
          show own_GoW p e below s _ _ _ _ _ (T136.setTop (mkF m 81 #[.val (.int n), .val (.int c0), .val (.int c1), .val (.int c2), .val (.int c3), .val (.int c4)] [(.int (2 : Int32)), (.ref b134), (.ref b134), (.ref b133), (.ref b133)]))
          refine own_stW (fun _ k => XS.iloadN X136.here hx rfl (hb hby d1_81) rfl k) ?_
          show own_GoW p e below s _ _ _ _ _ (T136.setTop (mkF m 82 #[.val (.int n), .val (.int c0), .val (.int c1), .val (.int c2), .val (.int c3), .val (.int c4)] [(.int c2), (.int (2 : Int32)), (.ref b134), (.ref b134), (.ref b133), (.ref b133)]))
          obtain ⟨c137, Ar137, q137, S137, M137, H137, U137⟩ := V136
          obtain ⟨T137, h137, X137, e137, W137, st137⟩ := stC X136 hx hZ e136 Ar137 (j := (2 : Int32)) (inb_of S137 ⟨by decide, by decide⟩) (g := (mkF m 82 #[.val (.int n), .val (.int c0), .val (.int c1), .val (.int c2), .val (.int c3), .val (.int c4)] [(.int c2), (.int (2 : Int32)), (.ref b134), (.ref b134), (.ref b133), (.ref b133)])) rfl rfl (hb hby d1_82)
          have V137 : Arv Z h137 b134 k134 .char (3 : Int32) [(.int c0), (.int c1), (.int c2)] (.int (0 : Int32)) := by
            have q := Arv.set Ar137 q137 S137 M137 H137 U137 (fits_nar_char _) W137 2 rfl (Nat.le_of_ble_eq_true rfl)
            rw [own_narC (own_up1 hc2)] at q
            exact q
          have K137 := Keep.of_wr W137
          have N137 := Fr.snoc X137 N136 (by omega : n0 ≤ b134)
          refine own_stW st137 ?_
          have zK137 := K137.1
          show own_GoW p e below s _ _ _ _ _ (T137.setTop (mkF m 83 #[.val (.int n), .val (.int c0), .val (.int c1), .val (.int c2), .val (.int c3), .val (.int c4)] [(.ref b134), (.ref b133), (.ref b133)]))
          have F_value_b133 : Fld Z h133 b133 "java/lang/String" "value" "[B" .null := D133 (Or.inr (hw _ (List.mem_of_getElem? (i := 20) rfl))) (ty := (.array .byte)) (by decide)
          have F_coder_b133 : Fld Z h133 b133 "java/lang/String" "coder" "B" (.int (0 : Int32)) := D133 (Or.inr (hw _ (List.mem_of_getElem? (i := 21) rfl))) (ty := .byte) (by decide)
          have f138 := (A133.keep (((((Keep.refl h133 []).trans K134 all0).trans K135 (allS (Or.inr (by omega)) all0)).trans K136 (allS (Or.inr (by omega)) all0)).trans K137 (allS (Or.inr (by omega)) all0)))
          have f139 := (F_value_b133.keep (((((Keep.refl h133 []).trans K134 all0).trans K135 (allS (Or.inr (by omega)) all0)).trans K136 (allS (Or.inr (by omega)) all0)).trans K137 (allS (Or.inr (by omega)) all0)) nin0)
          have f140 := (F_coder_b133.keep (((((Keep.refl h133 []).trans K134 all0).trans K135 (allS (Or.inr (by omega)) all0)).trans K136 (allS (Or.inr (by omega)) all0)).trans K137 (allS (Or.inr (by omega)) all0)) nin0)
          have O141 : Old Z n0 h137 := O0.keep ((((((Keep.refl h0 []).trans K133 all0).trans K134 all0).trans K135 (allS (Or.inr (by omega)) all0)).trans K136 (allS (Or.inr (by omega)) all0)).trans K137 (allS (Or.inr (by omega)) all0)) all0
          obtain ⟨T142, v142, L142, h142, X142, e142, q142, st142⟩ := own_callI X137 hx hZ (y := (⟨"java/lang/String", "<init>", "([C)V"⟩ : MethodName)) rfl hown (hw _ (List.mem_of_getElem? (i := 8) rfl)) (hw _ (List.mem_of_getElem? (i := 9) rfl)) (hw _ (List.mem_of_getElem? (i := 10) rfl)) (by decide) (own_nsB (W := 1) hZ (own_wNew hw) (kI := 4) (hw _ (List.mem_of_getElem? (i := 5) rfl)) (cs := [c0, c1, c2]) (n := 3) (by omega : n0 ≤ b133) O141 CS f138 f139 f140 V137 rfl rfl (by decide) (by decide) (own_allC hc0 (own_allC hc1 (own_all1 hc2))) (by decide) (by decide)) e137 (by decide) (by decide) (g := (mkF m 83 #[.val (.int n), .val (.int c0), .val (.int c1), .val (.int c2), .val (.int c3), .val (.int c4)] [(.ref b134), (.ref b133), (.ref b133)])) rfl (by rw [hml]; rfl) (a := b133) (argsL := [(.ref b134)]) (rest := [(.ref b133)]) (lenOf pd__28_5bC_29V rfl) rfl rfl (by show 2 * 0 + _ ≤ _; exact Nat.le_of_eq rfl) (hb hby d1_83)
          obtain ⟨rfl, N142q, K142, S142⟩ := q142
          refine own_stW st142 ?_
          have zK142 := K142.1
          have N142 := Fr.app N137 N142q
          have A142 := S142.1
          show own_GoW p e below s _ _ _ _ _ (T142.setTop (mkF m 86 #[.val (.int n), .val (.int c0), .val (.int c1), .val (.int c2), .val (.int c3), .val (.int c4)] [(.ref b133)]))
          have CR143 := CR.trans (CHr.keep (((((((Keep.refl h0 []).trans K133 all0).trans K134 all0).trans K135 (allS (Or.inr (by omega)) all0)).trans K136 (allS (Or.inr (by omega)) all0)).trans K137 (allS (Or.inr (by omega)) all0)).trans K142 (allS (Or.inr (by omega)) all0)) all0 CR.1)
          exact own_retW X142 hx hlk e142 hZ hEL hS (by omega) CR143 hret rfl (Or.inr (Or.inr (Or.inr (Or.inr ⟨rfl, rfl, rfl⟩)))) (hb hby d1_86) (by decide) (by decide) ⟨N142, _, rfl, (((((((Keep.refl h0 []).trans K133 all0).trans K134 all0).trans K135 (allS (Or.inr (by omega)) all0)).trans K136 (allS (Or.inr (by omega)) all0)).trans K137 (allS (Or.inr (by omega)) all0)).trans K142 (allS (Or.inr (by omega)) all0)), Or.inr ⟨b133, [c0, c1, c2], rfl, (by unfold own_mk; rw [if_neg c101, if_neg c111, if_neg c121, if_pos c132]), S142, (fun c hc => ((show ∀ c ∈ [c0, c1, c2], ¬ c < 0 ∧ ¬ (255 : Int32) < c from (own_allC hc0 (own_allC hc1 (own_all1 hc2)))) c hc).2)⟩⟩
        · refine own_stW (fun _ k => XS.icmpYes X0.here hx rfl (pc0 := 61) (pc' := 87) rfl (hb hby d1_61) rfl (feq c132).2 (by decide) (by decide) k) ?_
          show own_GoW p e below s _ _ _ _ _ (T0.setTop (mkF m 87 #[.val (.int n), .val (.int c0), .val (.int c1), .val (.int c2), .val (.int c3), .val (.int c4)] []))
          refine own_stW (fun _ k => XS.iloadN X0.here hx rfl (hb hby d1_87) rfl k) ?_
          show own_GoW p e below s _ _ _ _ _ (T0.setTop (mkF m 88 #[.val (.int n), .val (.int c0), .val (.int c1), .val (.int c2), .val (.int c3), .val (.int c4)] [(.int n)]))
          refine own_stW (fun _ k => XS.iconst X0.here hx rfl (hb hby d1_88) k) ?_
          show own_GoW p e below s _ _ _ _ _ (T0.setTop (mkF m 89 #[.val (.int n), .val (.int c0), .val (.int c1), .val (.int c2), .val (.int c3), .val (.int c4)] [(.int (4 : Int32)), (.int n)]))
          by_cases c144 : n = (4 : Int32)
          · refine own_stW (fun _ k => XS.icmpNo X0.here hx rfl (hb hby d1_89) rfl (teq c144).2 k) ?_
            show own_GoW p e below s _ _ _ _ _ (T0.setTop (mkF m 92 #[.val (.int n), .val (.int c0), .val (.int c1), .val (.int c2), .val (.int c3), .val (.int c4)] []))
            obtain ⟨T145, h145, X145, e145, E145, A145, D145, -, st145⟩ := newO X0 hx hZ hown (hw _ (List.mem_of_getElem? (i := 4) rfl)) (hw _ (List.mem_of_getElem? (i := 5) rfl)) (hw _ (List.mem_of_getElem? (i := 6) rfl)) e0 (g := (mkF m 92 #[.val (.int n), .val (.int c0), .val (.int c1), .val (.int c2), .val (.int c3), .val (.int c4)] [])) rfl (hb hby d1_92) (by decide) (by decide)
            obtain ⟨b145, g145⟩ : ∃ z, z = h0.size := ⟨_, rfl⟩
            rw [← g145] at A145 D145 st145
            have K145 : Keep h0 h145 [] := (Keep.refl _ _).ext E145
            have l145 : b145 < h145.size := A145.lt
            refine own_stW st145 ?_
            have zK145 := K145.1
            show own_GoW p e below s _ _ _ _ _ (T145.setTop (mkF m 95 #[.val (.int n), .val (.int c0), .val (.int c1), .val (.int c2), .val (.int c3), .val (.int c4)] [(.ref b145)]))
            refine own_stW (fun _ k => XS.dup X145.here hx rfl (hb hby d1_95) rfl rfl k) ?_
            show own_GoW p e below s _ _ _ _ _ (T145.setTop (mkF m 96 #[.val (.int n), .val (.int c0), .val (.int c1), .val (.int c2), .val (.int c3), .val (.int c4)] [(.ref b145), (.ref b145)]))
            refine own_stW (fun _ k => XS.iconst X145.here hx rfl (hb hby d1_96) k) ?_
            show own_GoW p e below s _ _ _ _ _ (T145.setTop (mkF m 97 #[.val (.int n), .val (.int c0), .val (.int c1), .val (.int c2), .val (.int c3), .val (.int c4)] [(.int (4 : Int32)), (.ref b145), (.ref b145)]))
            obtain ⟨T146, h146, k146, X146, e146, E146, A146, st146⟩ := newP X145 hx hZ (hw _ (List.mem_of_getElem? (i := 7) rfl)) e145 (g := (mkF m 97 #[.val (.int n), .val (.int c0), .val (.int c1), .val (.int c2), .val (.int c3), .val (.int c4)] [(.int (4 : Int32)), (.ref b145), (.ref b145)])) rfl (hb hby d1_97) rfl (by decide) (cap := 4) (by decide) (by decide) (by decide) (by decide)
            obtain ⟨b146, g146⟩ : ∃ z, z = h145.size := ⟨_, rfl⟩
            rw [← g146] at A146 st146
            have K146 : Keep h145 h146 [] := (Keep.refl _ _).ext E146
            have l146 : b146 < h146.size := A146.lt
            refine own_stW st146 ?_
            have zK146 := K146.1
            have V146 : Arv Z h146 b146 k146 .char (4 : Int32) [(.int (0 : Int32)), (.int (0 : Int32)), (.int (0 : Int32)), (.int (0 : Int32))] (.int (0 : Int32)) := (Arv.new A146 (by decide)).pad (pad_rep [] (.int (0 : Int32)) 4)
            show own_GoW p e below s _ _ _ _ _ (T146.setTop (mkF m 99 #[.val (.int n), .val (.int c0), .val (.int c1), .val (.int c2), .val (.int c3), .val (.int c4)] [(.ref b146), (.ref b145), (.ref b145)]))
            refine own_stW (fun _ k => XS.dup X146.here hx rfl (hb hby d1_99) rfl rfl k) ?_
            show own_GoW p e below s _ _ _ _ _ (T146.setTop (mkF m 100 #[.val (.int n), .val (.int c0), .val (.int c1), .val (.int c2), .val (.int c3), .val (.int c4)] [(.ref b146), (.ref b146), (.ref b145), (.ref b145)]))
            refine own_stW (fun _ k => XS.iconst X146.here hx rfl (hb hby d1_100) k) ?_
            show own_GoW p e below s _ _ _ _ _ (T146.setTop (mkF m 101 #[.val (.int n), .val (.int c0), .val (.int c1), .val (.int c2), .val (.int c3), .val (.int c4)] [(.int (0 : Int32)), (.ref b146), (.ref b146), (.ref b145), (.ref b145)]))
            refine own_stW (fun _ k => XS.iloadN X146.here hx rfl (hb hby d1_101) rfl k) ?_
            show own_GoW p e below s _ _ _ _ _ (T146.setTop (mkF m 102 #[.val (.int n), .val (.int c0), .val (.int c1), .val (.int c2), .val (.int c3), .val (.int c4)] [(.int c0), (.int (0 : Int32)), (.ref b146), (.ref b146), (.ref b145), (.ref b145)]))
            obtain ⟨c147, Ar147, q147, S147, M147, H147, U147⟩ := V146
            obtain ⟨T147, h147, X147, e147, W147, st147⟩ := stC X146 hx hZ e146 Ar147 (j := (0 : Int32)) (inb_of S147 ⟨by decide, by decide⟩) (g := (mkF m 102 #[.val (.int n), .val (.int c0), .val (.int c1), .val (.int c2), .val (.int c3), .val (.int c4)] [(.int c0), (.int (0 : Int32)), (.ref b146), (.ref b146), (.ref b145), (.ref b145)])) rfl rfl (hb hby d1_102)
            have V147 : Arv Z h147 b146 k146 .char (4 : Int32) [(.int c0), (.int (0 : Int32)), (.int (0 : Int32)), (.int (0 : Int32))] (.int (0 : Int32)) := by
              have q := Arv.set Ar147 q147 S147 M147 H147 U147 (fits_nar_char _) W147 0 rfl (Nat.le_of_ble_eq_true rfl)
              rw [own_narC (own_up1 hc0)] at q
              exact q
            have K147 := Keep.of_wr W147
            have N147 := Fr.snoc X147 N0 (by omega : n0 ≤ b146)
            refine own_stW st147 ?_
            have zK147 := K147.1
            show own_GoW p e below s _ _ _ _ _ (T147.setTop (mkF m 103 #[.val (.int n), .val (.int c0), .val (.int c1), .val (.int c2), .val (.int c3), .val (.int c4)] [(.ref b146), (.ref b145), (.ref b145)]))
            refine own_stW (fun _ k => XS.dup X147.here hx rfl (hb hby d1_103) rfl rfl k) ?_
            show own_GoW p e below s _ _ _ _ _ (T147.setTop (mkF m 104 #[.val (.int n), .val (.int c0), .val (.int c1), .val (.int c2), .val (.int c3), .val (.int c4)] [(.ref b146), (.ref b146), (.ref b145), (.ref b145)]))
            refine own_stW (fun _ k => XS.iconst X147.here hx rfl (hb hby d1_104) k) ?_
            show own_GoW p e below s _ _ _ _ _ (T147.setTop (mkF m 105 #[.val (.int n), .val (.int c0), .val (.int c1), .val (.int c2), .val (.int c3), .val (.int c4)] [(.int (1 : Int32)), (.ref b146), (.ref b146), (.ref b145), (.ref b145)]))
            refine own_stW (fun _ k => XS.iloadN X147.here hx rfl (hb hby d1_105) rfl k) ?_
            show own_GoW p e below s _ _ _ _ _ (T147.setTop (mkF m 106 #[.val (.int n), .val (.int c0), .val (.int c1), .val (.int c2), .val (.int c3), .val (.int c4)] [(.int c1), (.int (1 : Int32)), (.ref b146), (.ref b146), (.ref b145), (.ref b145)]))
            obtain ⟨c148, Ar148, q148, S148, M148, H148, U148⟩ := V147
            obtain ⟨T148, h148, X148, e148, W148, st148⟩ := stC X147 hx hZ e147 Ar148 (j := (1 : Int32)) (inb_of S148 ⟨by decide, by decide⟩) (g := (mkF m 106 #[.val (.int n), .val (.int c0), .val (.int c1), .val (.int c2), .val (.int c3), .val (.int c4)] [(.int c1), (.int (1 : Int32)), (.ref b146), (.ref b146), (.ref b145), (.ref b145)])) rfl rfl (hb hby d1_106)
            have V148 : Arv Z h148 b146 k146 .char (4 : Int32) [(.int c0), (.int c1), (.int (0 : Int32)), (.int (0 : Int32))] (.int (0 : Int32)) := by
              have q := Arv.set Ar148 q148 S148 M148 H148 U148 (fits_nar_char _) W148 1 rfl (Nat.le_of_ble_eq_true rfl)
              rw [own_narC (own_up1 hc1)] at q
              exact q
            have K148 := Keep.of_wr W148
            have N148 := Fr.snoc X148 N147 (by omega : n0 ≤ b146)
            refine own_stW st148 ?_
            have zK148 := K148.1
            show own_GoW p e below s _ _ _ _ _ (T148.setTop (mkF m 107 #[.val (.int n), .val (.int c0), .val (.int c1), .val (.int c2), .val (.int c3), .val (.int c4)] [(.ref b146), (.ref b145), (.ref b145)]))
            refine own_stW (fun _ k => XS.dup X148.here hx rfl (hb hby d1_107) rfl rfl k) ?_
            show own_GoW p e below s _ _ _ _ _ (T148.setTop (mkF m 108 #[.val (.int n), .val (.int c0), .val (.int c1), .val (.int c2), .val (.int c3), .val (.int c4)] [(.ref b146), (.ref b146), (.ref b145), (.ref b145)]))
            refine own_stW (fun _ k => XS.iconst X148.here hx rfl (hb hby d1_108) k) ?_
            show own_GoW p e below s _ _ _ _ _ (T148.setTop (mkF m 109 #[.val (.int n), .val (.int c0), .val (.int c1), .val (.int c2), .val (.int c3), .val (.int c4)] [(.int (2 : Int32)), (.ref b146), (.ref b146), (.ref b145), (.ref b145)]))
            refine own_stW (fun _ k => XS.iloadN X148.here hx rfl (hb hby d1_109) rfl k) ?_
            show own_GoW p e below s _ _ _ _ _ (T148.setTop (mkF m 110 #[.val (.int n), .val (.int c0), .val (.int c1), .val (.int c2), .val (.int c3), .val (.int c4)] [(.int c2), (.int (2 : Int32)), (.ref b146), (.ref b146), (.ref b145), (.ref b145)]))
            obtain ⟨c149, Ar149, q149, S149, M149, H149, U149⟩ := V148
            obtain ⟨T149, h149, X149, e149, W149, st149⟩ := stC X148 hx hZ e148 Ar149 (j := (2 : Int32)) (inb_of S149 ⟨by decide, by decide⟩) (g := (mkF m 110 #[.val (.int n), .val (.int c0), .val (.int c1), .val (.int c2), .val (.int c3), .val (.int c4)] [(.int c2), (.int (2 : Int32)), (.ref b146), (.ref b146), (.ref b145), (.ref b145)])) rfl rfl (hb hby d1_110)
            have V149 : Arv Z h149 b146 k146 .char (4 : Int32) [(.int c0), (.int c1), (.int c2), (.int (0 : Int32))] (.int (0 : Int32)) := by
              have q := Arv.set Ar149 q149 S149 M149 H149 U149 (fits_nar_char _) W149 2 rfl (Nat.le_of_ble_eq_true rfl)
              rw [own_narC (own_up1 hc2)] at q
              exact q
            have K149 := Keep.of_wr W149
            have N149 := Fr.snoc X149 N148 (by omega : n0 ≤ b146)
            refine own_stW st149 ?_
            have zK149 := K149.1
            show own_GoW p e below s _ _ _ _ _ (T149.setTop (mkF m 111 #[.val (.int n), .val (.int c0), .val (.int c1), .val (.int c2), .val (.int c3), .val (.int c4)] [(.ref b146), (.ref b145), (.ref b145)]))
            refine own_stW (fun _ k => XS.dup X149.here hx rfl (hb hby d1_111) rfl rfl k) ?_
            show own_GoW p e below s _ _ _ _ _ (T149.setTop (mkF m 112 #[.val (.int n), .val (.int c0), .val (.int c1), .val (.int c2), .val (.int c3), .val (.int c4)] [(.ref b146), (.ref b146), (.ref b145), (.ref b145)]))
            refine own_stW (fun _ k => XS.iconst X149.here hx rfl (hb hby d1_112) k) ?_
            show own_GoW p e below s _ _ _ _ _ (T149.setTop (mkF m 113 #[.val (.int n), .val (.int c0), .val (.int c1), .val (.int c2), .val (.int c3), .val (.int c4)] [(.int (3 : Int32)), (.ref b146), (.ref b146), (.ref b145), (.ref b145)]))
            refine own_stW (fun _ k => XS.iload X149.here hx rfl (hb hby d1_113) rfl k) ?_
            show own_GoW p e below s _ _ _ _ _ (T149.setTop (mkF m 115 #[.val (.int n), .val (.int c0), .val (.int c1), .val (.int c2), .val (.int c3), .val (.int c4)] [(.int c3), (.int (3 : Int32)), (.ref b146), (.ref b146), (.ref b145), (.ref b145)]))
            obtain ⟨c150, Ar150, q150, S150, M150, H150, U150⟩ := V149
            obtain ⟨T150, h150, X150, e150, W150, st150⟩ := stC X149 hx hZ e149 Ar150 (j := (3 : Int32)) (inb_of S150 ⟨by decide, by decide⟩) (g := (mkF m 115 #[.val (.int n), .val (.int c0), .val (.int c1), .val (.int c2), .val (.int c3), .val (.int c4)] [(.int c3), (.int (3 : Int32)), (.ref b146), (.ref b146), (.ref b145), (.ref b145)])) rfl rfl (hb hby d1_115)
            have V150 : Arv Z h150 b146 k146 .char (4 : Int32) [(.int c0), (.int c1), (.int c2), (.int c3)] (.int (0 : Int32)) := by
              have q := Arv.set Ar150 q150 S150 M150 H150 U150 (fits_nar_char _) W150 3 rfl (Nat.le_of_ble_eq_true rfl)
              rw [own_narC (own_up1 hc3)] at q
              exact q
            have K150 := Keep.of_wr W150
            have N150 := Fr.snoc X150 N149 (by omega : n0 ≤ b146)
            refine own_stW st150 ?_
            have zK150 := K150.1
            show own_GoW p e below s _ _ _ _ _ (T150.setTop (mkF m 116 #[.val (.int n), .val (.int c0), .val (.int c1), .val (.int c2), .val (.int c3), .val (.int c4)] [(.ref b146), (.ref b145), (.ref b145)]))
            have F_value_b145 : Fld Z h145 b145 "java/lang/String" "value" "[B" .null := D145 (Or.inr (hw _ (List.mem_of_getElem? (i := 20) rfl))) (ty := (.array .byte)) (by decide)
            have F_coder_b145 : Fld Z h145 b145 "java/lang/String" "coder" "B" (.int (0 : Int32)) := D145 (Or.inr (hw _ (List.mem_of_getElem? (i := 21) rfl))) (ty := .byte) (by decide)
            have f151 := (A145.keep ((((((Keep.refl h145 []).trans K146 all0).trans K147 (allS (Or.inr (by omega)) all0)).trans K148 (allS (Or.inr (by omega)) all0)).trans K149 (allS (Or.inr (by omega)) all0)).trans K150 (allS (Or.inr (by omega)) all0)))
            have f152 := (F_value_b145.keep ((((((Keep.refl h145 []).trans K146 all0).trans K147 (allS (Or.inr (by omega)) all0)).trans K148 (allS (Or.inr (by omega)) all0)).trans K149 (allS (Or.inr (by omega)) all0)).trans K150 (allS (Or.inr (by omega)) all0)) nin0)
            have f153 := (F_coder_b145.keep ((((((Keep.refl h145 []).trans K146 all0).trans K147 (allS (Or.inr (by omega)) all0)).trans K148 (allS (Or.inr (by omega)) all0)).trans K149 (allS (Or.inr (by omega)) all0)).trans K150 (allS (Or.inr (by omega)) all0)) nin0)
            have O154 : Old Z n0 h150 := O0.keep (((((((Keep.refl h0 []).trans K145 all0).trans K146 all0).trans K147 (allS (Or.inr (by omega)) all0)).trans K148 (allS (Or.inr (by omega)) all0)).trans K149 (allS (Or.inr (by omega)) all0)).trans K150 (allS (Or.inr (by omega)) all0)) all0
            obtain ⟨T155, v155, L155, h155, X155, e155, q155, st155⟩ := own_callI X150 hx hZ (y := (⟨"java/lang/String", "<init>", "([C)V"⟩ : MethodName)) rfl hown (hw _ (List.mem_of_getElem? (i := 8) rfl)) (hw _ (List.mem_of_getElem? (i := 9) rfl)) (hw _ (List.mem_of_getElem? (i := 10) rfl)) (by decide) (own_nsB (W := 1) hZ (own_wNew hw) (kI := 4) (hw _ (List.mem_of_getElem? (i := 5) rfl)) (cs := [c0, c1, c2, c3]) (n := 4) (by omega : n0 ≤ b145) O154 CS f151 f152 f153 V150 rfl rfl (by decide) (by decide) (own_allC hc0 (own_allC hc1 (own_allC hc2 (own_all1 hc3)))) (by decide) (by decide)) e150 (by decide) (by decide) (g := (mkF m 116 #[.val (.int n), .val (.int c0), .val (.int c1), .val (.int c2), .val (.int c3), .val (.int c4)] [(.ref b146), (.ref b145), (.ref b145)])) rfl (by rw [hml]; rfl) (a := b145) (argsL := [(.ref b146)]) (rest := [(.ref b145)]) (lenOf pd__28_5bC_29V rfl) rfl rfl (by show 2 * 0 + _ ≤ _; exact Nat.le_of_eq rfl) (hb hby d1_116)
            obtain ⟨rfl, N155q, K155, S155⟩ := q155
            refine own_stW st155 ?_
            have zK155 := K155.1
            have N155 := Fr.app N150 N155q
            have A155 := S155.1
            show own_GoW p e below s _ _ _ _ _ (T155.setTop (mkF m 119 #[.val (.int n), .val (.int c0), .val (.int c1), .val (.int c2), .val (.int c3), .val (.int c4)] [(.ref b145)]))
            have CR156 := CR.trans (CHr.keep ((((((((Keep.refl h0 []).trans K145 all0).trans K146 all0).trans K147 (allS (Or.inr (by omega)) all0)).trans K148 (allS (Or.inr (by omega)) all0)).trans K149 (allS (Or.inr (by omega)) all0)).trans K150 (allS (Or.inr (by omega)) all0)).trans K155 (allS (Or.inr (by omega)) all0)) all0 CR.1)
            exact own_retW X155 hx hlk e155 hZ hEL hS (by omega) CR156 hret rfl (Or.inr (Or.inr (Or.inr (Or.inr ⟨rfl, rfl, rfl⟩)))) (hb hby d1_119) (by decide) (by decide) ⟨N155, _, rfl, ((((((((Keep.refl h0 []).trans K145 all0).trans K146 all0).trans K147 (allS (Or.inr (by omega)) all0)).trans K148 (allS (Or.inr (by omega)) all0)).trans K149 (allS (Or.inr (by omega)) all0)).trans K150 (allS (Or.inr (by omega)) all0)).trans K155 (allS (Or.inr (by omega)) all0)), Or.inr ⟨b145, [c0, c1, c2, c3], rfl, (by unfold own_mk; rw [if_neg c101, if_neg c111, if_neg c121, if_neg c132, if_pos c144]), S155, (fun c hc => ((show ∀ c ∈ [c0, c1, c2, c3], ¬ c < 0 ∧ ¬ (255 : Int32) < c from (own_allC hc0 (own_allC hc1 (own_allC hc2 (own_all1 hc3))))) c hc).2)⟩⟩
          · refine own_stW (fun _ k => XS.icmpYes X0.here hx rfl (pc0 := 89) (pc' := 120) rfl (hb hby d1_89) rfl (feq c144).2 (by decide) (by decide) k) ?_
            show own_GoW p e below s _ _ _ _ _ (T0.setTop (mkF m 120 #[.val (.int n), .val (.int c0), .val (.int c1), .val (.int c2), .val (.int c3), .val (.int c4)] []))
            refine own_stW (fun _ k => XS.iloadN X0.here hx rfl (hb hby d1_120) rfl k) ?_
            show own_GoW p e below s _ _ _ _ _ (T0.setTop (mkF m 121 #[.val (.int n), .val (.int c0), .val (.int c1), .val (.int c2), .val (.int c3), .val (.int c4)] [(.int n)]))
            refine own_stW (fun _ k => XS.iconst X0.here hx rfl (hb hby d1_121) k) ?_
            show own_GoW p e below s _ _ _ _ _ (T0.setTop (mkF m 122 #[.val (.int n), .val (.int c0), .val (.int c1), .val (.int c2), .val (.int c3), .val (.int c4)] [(.int (5 : Int32)), (.int n)]))
            by_cases c157 : n = (5 : Int32)
            · refine own_stW (fun _ k => XS.icmpNo X0.here hx rfl (hb hby d1_122) rfl (teq c157).2 k) ?_
              show own_GoW p e below s _ _ _ _ _ (T0.setTop (mkF m 125 #[.val (.int n), .val (.int c0), .val (.int c1), .val (.int c2), .val (.int c3), .val (.int c4)] []))
              obtain ⟨T158, h158, X158, e158, E158, A158, D158, -, st158⟩ := newO X0 hx hZ hown (hw _ (List.mem_of_getElem? (i := 4) rfl)) (hw _ (List.mem_of_getElem? (i := 5) rfl)) (hw _ (List.mem_of_getElem? (i := 6) rfl)) e0 (g := (mkF m 125 #[.val (.int n), .val (.int c0), .val (.int c1), .val (.int c2), .val (.int c3), .val (.int c4)] [])) rfl (hb hby d1_125) (by decide) (by decide)
              obtain ⟨b158, g158⟩ : ∃ z, z = h0.size := ⟨_, rfl⟩
              rw [← g158] at A158 D158 st158
              have K158 : Keep h0 h158 [] := (Keep.refl _ _).ext E158
              have l158 : b158 < h158.size := A158.lt
              refine own_stW st158 ?_
              have zK158 := K158.1
              show own_GoW p e below s _ _ _ _ _ (T158.setTop (mkF m 128 #[.val (.int n), .val (.int c0), .val (.int c1), .val (.int c2), .val (.int c3), .val (.int c4)] [(.ref b158)]))
              refine own_stW (fun _ k => XS.dup X158.here hx rfl (hb hby d1_128) rfl rfl k) ?_
              show own_GoW p e below s _ _ _ _ _ (T158.setTop (mkF m 129 #[.val (.int n), .val (.int c0), .val (.int c1), .val (.int c2), .val (.int c3), .val (.int c4)] [(.ref b158), (.ref b158)]))
              refine own_stW (fun _ k => XS.iconst X158.here hx rfl (hb hby d1_129) k) ?_
              show own_GoW p e below s _ _ _ _ _ (T158.setTop (mkF m 130 #[.val (.int n), .val (.int c0), .val (.int c1), .val (.int c2), .val (.int c3), .val (.int c4)] [(.int (5 : Int32)), (.ref b158), (.ref b158)]))
              obtain ⟨T159, h159, k159, X159, e159, E159, A159, st159⟩ := newP X158 hx hZ (hw _ (List.mem_of_getElem? (i := 7) rfl)) e158 (g := (mkF m 130 #[.val (.int n), .val (.int c0), .val (.int c1), .val (.int c2), .val (.int c3), .val (.int c4)] [(.int (5 : Int32)), (.ref b158), (.ref b158)])) rfl (hb hby d1_130) rfl (by decide) (cap := 5) (by decide) (by decide) (by decide) (by decide)
              obtain ⟨b159, g159⟩ : ∃ z, z = h158.size := ⟨_, rfl⟩
              rw [← g159] at A159 st159
              have K159 : Keep h158 h159 [] := (Keep.refl _ _).ext E159
              have l159 : b159 < h159.size := A159.lt
              refine own_stW st159 ?_
              have zK159 := K159.1
              have V159 : Arv Z h159 b159 k159 .char (5 : Int32) [(.int (0 : Int32)), (.int (0 : Int32)), (.int (0 : Int32)), (.int (0 : Int32)), (.int (0 : Int32))] (.int (0 : Int32)) := (Arv.new A159 (by decide)).pad (pad_rep [] (.int (0 : Int32)) 5)
              show own_GoW p e below s _ _ _ _ _ (T159.setTop (mkF m 132 #[.val (.int n), .val (.int c0), .val (.int c1), .val (.int c2), .val (.int c3), .val (.int c4)] [(.ref b159), (.ref b158), (.ref b158)]))
              refine own_stW (fun _ k => XS.dup X159.here hx rfl (hb hby d1_132) rfl rfl k) ?_
              show own_GoW p e below s _ _ _ _ _ (T159.setTop (mkF m 133 #[.val (.int n), .val (.int c0), .val (.int c1), .val (.int c2), .val (.int c3), .val (.int c4)] [(.ref b159), (.ref b159), (.ref b158), (.ref b158)]))
              refine own_stW (fun _ k => XS.iconst X159.here hx rfl (hb hby d1_133) k) ?_
              show own_GoW p e below s _ _ _ _ _ (T159.setTop (mkF m 134 #[.val (.int n), .val (.int c0), .val (.int c1), .val (.int c2), .val (.int c3), .val (.int c4)] [(.int (0 : Int32)), (.ref b159), (.ref b159), (.ref b158), (.ref b158)]))
              refine own_stW (fun _ k => XS.iloadN X159.here hx rfl (hb hby d1_134) rfl k) ?_
              show own_GoW p e below s _ _ _ _ _ (T159.setTop (mkF m 135 #[.val (.int n), .val (.int c0), .val (.int c1), .val (.int c2), .val (.int c3), .val (.int c4)] [(.int c0), (.int (0 : Int32)), (.ref b159), (.ref b159), (.ref b158), (.ref b158)]))
              obtain ⟨c160, Ar160, q160, S160, M160, H160, U160⟩ := V159
              obtain ⟨T160, h160, X160, e160, W160, st160⟩ := stC X159 hx hZ e159 Ar160 (j := (0 : Int32)) (inb_of S160 ⟨by decide, by decide⟩) (g := (mkF m 135 #[.val (.int n), .val (.int c0), .val (.int c1), .val (.int c2), .val (.int c3), .val (.int c4)] [(.int c0), (.int (0 : Int32)), (.ref b159), (.ref b159), (.ref b158), (.ref b158)])) rfl rfl (hb hby d1_135)
              have V160 : Arv Z h160 b159 k159 .char (5 : Int32) [(.int c0), (.int (0 : Int32)), (.int (0 : Int32)), (.int (0 : Int32)), (.int (0 : Int32))] (.int (0 : Int32)) := by
                have q := Arv.set Ar160 q160 S160 M160 H160 U160 (fits_nar_char _) W160 0 rfl (Nat.le_of_ble_eq_true rfl)
                rw [own_narC (own_up1 hc0)] at q
                exact q
              have K160 := Keep.of_wr W160
              have N160 := Fr.snoc X160 N0 (by omega : n0 ≤ b159)
              refine own_stW st160 ?_
              have zK160 := K160.1
              show own_GoW p e below s _ _ _ _ _ (T160.setTop (mkF m 136 #[.val (.int n), .val (.int c0), .val (.int c1), .val (.int c2), .val (.int c3), .val (.int c4)] [(.ref b159), (.ref b158), (.ref b158)]))
              refine own_stW (fun _ k => XS.dup X160.here hx rfl (hb hby d1_136) rfl rfl k) ?_
              show own_GoW p e below s _ _ _ _ _ (T160.setTop (mkF m 137 #[.val (.int n), .val (.int c0), .val (.int c1), .val (.int c2), .val (.int c3), .val (.int c4)] [(.ref b159), (.ref b159), (.ref b158), (.ref b158)]))
              refine own_stW (fun _ k => XS.iconst X160.here hx rfl (hb hby d1_137) k) ?_
              show own_GoW p e below s _ _ _ _ _ (T160.setTop (mkF m 138 #[.val (.int n), .val (.int c0), .val (.int c1), .val (.int c2), .val (.int c3), .val (.int c4)] [(.int (1 : Int32)), (.ref b159), (.ref b159), (.ref b158), (.ref b158)]))
              refine own_stW (fun _ k => XS.iloadN X160.here hx rfl (hb hby d1_138) rfl k) ?_
              show own_GoW p e below s _ _ _ _ _ (T160.setTop (mkF m 139 #[.val (.int n), .val (.int c0), .val (.int c1), .val (.int c2), .val (.int c3), .val (.int c4)] [(.int c1), (.int (1 : Int32)), (.ref b159), (.ref b159), (.ref b158), (.ref b158)]))
              obtain ⟨c161, Ar161, q161, S161, M161, H161, U161⟩ := V160
              obtain ⟨T161, h161, X161, e161, W161, st161⟩ := stC X160 hx hZ e160 Ar161 (j := (1 : Int32)) (inb_of S161 ⟨by decide, by decide⟩) (g := (mkF m 139 #[.val (.int n), .val (.int c0), .val (.int c1), .val (.int c2), .val (.int c3), .val (.int c4)] [(.int c1), (.int (1 : Int32)), (.ref b159), (.ref b159), (.ref b158), (.ref b158)])) rfl rfl (hb hby d1_139)
              have V161 : Arv Z h161 b159 k159 .char (5 : Int32) [(.int c0), (.int c1), (.int (0 : Int32)), (.int (0 : Int32)), (.int (0 : Int32))] (.int (0 : Int32)) := by
                have q := Arv.set Ar161 q161 S161 M161 H161 U161 (fits_nar_char _) W161 1 rfl (Nat.le_of_ble_eq_true rfl)
                rw [own_narC (own_up1 hc1)] at q
                exact q
              have K161 := Keep.of_wr W161
              have N161 := Fr.snoc X161 N160 (by omega : n0 ≤ b159)
              refine own_stW st161 ?_
              have zK161 := K161.1
              show own_GoW p e below s _ _ _ _ _ (T161.setTop (mkF m 140 #[.val (.int n), .val (.int c0), .val (.int c1), .val (.int c2), .val (.int c3), .val (.int c4)] [(.ref b159), (.ref b158), (.ref b158)]))
              refine own_stW (fun _ k => XS.dup X161.here hx rfl (hb hby d1_140) rfl rfl k) ?_
              show own_GoW p e below s _ _ _ _ _ (T161.setTop (mkF m 141 #[.val (.int n), .val (.int c0), .val (.int c1), .val (.int c2), .val (.int c3), .val (.int c4)] [(.ref b159), (.ref b159), (.ref b158), (.ref b158)]))
              refine own_stW (fun _ k => XS.iconst X161.here hx rfl (hb hby d1_141) k) ?_
              show own_GoW p e below s _ _ _ _ _ (T161.setTop (mkF m 142 #[.val (.int n), .val (.int c0), .val (.int c1), .val (.int c2), .val (.int c3), .val (.int c4)] [(.int (2 : Int32)), (.ref b159), (.ref b159), (.ref b158), (.ref b158)]))
              refine own_stW (fun _ k => XS.iloadN X161.here hx rfl (hb hby d1_142) rfl k) ?_
              show own_GoW p e below s _ _ _ _ _ (T161.setTop (mkF m 143 #[.val (.int n), .val (.int c0), .val (.int c1), .val (.int c2), .val (.int c3), .val (.int c4)] [(.int c2), (.int (2 : Int32)), (.ref b159), (.ref b159), (.ref b158), (.ref b158)]))
              obtain ⟨c162, Ar162, q162, S162, M162, H162, U162⟩ := V161
              obtain ⟨T162, h162, X162, e162, W162, st162⟩ := stC X161 hx hZ e161 Ar162 (j := (2 : Int32)) (inb_of S162 ⟨by decide, by decide⟩) (g := (mkF m 143 #[.val (.int n), .val (.int c0), .val (.int c1), .val (.int c2), .val (.int c3), .val (.int c4)] [(.int c2), (.int (2 : Int32)), (.ref b159), (.ref b159), (.ref b158), (.ref b158)])) rfl rfl (hb hby d1_143)
              have V162 : Arv Z h162 b159 k159 .char (5 : Int32) [(.int c0), (.int c1), (.int c2), (.int (0 : Int32)), (.int (0 : Int32))] (.int (0 : Int32)) := by
                have q := Arv.set Ar162 q162 S162 M162 H162 U162 (fits_nar_char _) W162 2 rfl (Nat.le_of_ble_eq_true rfl)
                rw [own_narC (own_up1 hc2)] at q
                exact q
              have K162 := Keep.of_wr W162
              have N162 := Fr.snoc X162 N161 (by omega : n0 ≤ b159)
              refine own_stW st162 ?_
              have zK162 := K162.1
              show own_GoW p e below s _ _ _ _ _ (T162.setTop (mkF m 144 #[.val (.int n), .val (.int c0), .val (.int c1), .val (.int c2), .val (.int c3), .val (.int c4)] [(.ref b159), (.ref b158), (.ref b158)]))
              refine own_stW (fun _ k => XS.dup X162.here hx rfl (hb hby d1_144) rfl rfl k) ?_
              show own_GoW p e below s _ _ _ _ _ (T162.setTop (mkF m 145 #[.val (.int n), .val (.int c0), .val (.int c1), .val (.int c2), .val (.int c3), .val (.int c4)] [(.ref b159), (.ref b159), (.ref b158), (.ref b158)]))
              refine own_stW (fun _ k => XS.iconst X162.here hx rfl (hb hby d1_145) k) ?_
              show own_GoW p e below s _ _ _ _ _ (T162.setTop (mkF m 146 #[.val (.int n), .val (.int c0), .val (.int c1), .val (.int c2), .val (.int c3), .val (.int c4)] [(.int (3 : Int32)), (.ref b159), (.ref b159), (.ref b158), (.ref b158)]))
              refine own_stW (fun _ k => XS.iload X162.here hx rfl (hb hby d1_146) rfl k) ?_
              show own_GoW p e below s _ _ _ _ _ (T162.setTop (mkF m 148 #[.val (.int n), .val (.int c0), .val (.int c1), .val (.int c2), .val (.int c3), .val (.int c4)] [(.int c3), (.int (3 : Int32)), (.ref b159), (.ref b159), (.ref b158), (.ref b158)]))
              obtain ⟨c163, Ar163, q163, S163, M163, H163, U163⟩ := V162
              obtain ⟨T163, h163, X163, e163, W163, st163⟩ := stC X162 hx hZ e162 Ar163 (j := (3 : Int32)) (inb_of S163 ⟨by decide, by decide⟩) (g := (mkF m 148 #[.val (.int n), .val (.int c0), .val (.int c1), .val (.int c2), .val (.int c3), .val (.int c4)] [(.int c3), (.int (3 : Int32)), (.ref b159), (.ref b159), (.ref b158), (.ref b158)])) rfl rfl (hb hby d1_148)
              have V163 : Arv Z h163 b159 k159 .char (5 : Int32) [(.int c0), (.int c1), (.int c2), (.int c3), (.int (0 : Int32))] (.int (0 : Int32)) := by
                have q := Arv.set Ar163 q163 S163 M163 H163 U163 (fits_nar_char _) W163 3 rfl (Nat.le_of_ble_eq_true rfl)
                rw [own_narC (own_up1 hc3)] at q
                exact q
              have K163 := Keep.of_wr W163
              have N163 := Fr.snoc X163 N162 (by omega : n0 ≤ b159)
              refine own_stW st163 ?_
              have zK163 := K163.1
              show own_GoW p e below s _ _ _ _ _ (T163.setTop (mkF m 149 #[.val (.int n), .val (.int c0), .val (.int c1), .val (.int c2), .val (.int c3), .val (.int c4)] [(.ref b159), (.ref b158), (.ref b158)]))
              refine own_stW (fun _ k => XS.dup X163.here hx rfl (hb hby d1_149) rfl rfl k) ?_
              show own_GoW p e below s _ _ _ _ _ (T163.setTop (mkF m 150 #[.val (.int n), .val (.int c0), .val (.int c1), .val (.int c2), .val (.int c3), .val (.int c4)] [(.ref b159), (.ref b159), (.ref b158), (.ref b158)]))
              refine own_stW (fun _ k => XS.iconst X163.here hx rfl (hb hby d1_150) k) ?_
              show own_GoW p e below s _ _ _ _ _ (T163.setTop (mkF m 151 #[.val (.int n), .val (.int c0), .val (.int c1), .val (.int c2), .val (.int c3), .val (.int c4)] [(.int (4 : Int32)), (.ref b159), (.ref b159), (.ref b158), (.ref b158)]))
              refine own_stW (fun _ k => XS.iload X163.here hx rfl (hb hby d1_151) rfl k) ?_
              show own_GoW p e below s _ _ _ _ _ (T163.setTop (mkF m 153 #[.val (.int n), .val (.int c0), .val (.int c1), .val (.int c2), .val (.int c3), .val (.int c4)] [(.int c4), (.int (4 : Int32)), (.ref b159), (.ref b159), (.ref b158), (.ref b158)]))
              obtain ⟨c164, Ar164, q164, S164, M164, H164, U164⟩ := V163
              obtain ⟨T164, h164, X164, e164, W164, st164⟩ := stC X163 hx hZ e163 Ar164 (j := (4 : Int32)) (inb_of S164 ⟨by decide, by decide⟩) (g := (mkF m 153 #[.val (.int n), .val (.int c0), .val (.int c1), .val (.int c2), .val (.int c3), .val (.int c4)] [(.int c4), (.int (4 : Int32)), (.ref b159), (.ref b159), (.ref b158), (.ref b158)])) rfl rfl (hb hby d1_153)
              have V164 : Arv Z h164 b159 k159 .char (5 : Int32) [(.int c0), (.int c1), (.int c2), (.int c3), (.int c4)] (.int (0 : Int32)) := by
                have q := Arv.set Ar164 q164 S164 M164 H164 U164 (fits_nar_char _) W164 4 rfl (Nat.le_of_ble_eq_true rfl)
                rw [own_narC (own_up1 hc4)] at q
                exact q
              have K164 := Keep.of_wr W164
              have N164 := Fr.snoc X164 N163 (by omega : n0 ≤ b159)
              refine own_stW st164 ?_
              have zK164 := K164.1
              show own_GoW p e below s _ _ _ _ _ (T164.setTop (mkF m 154 #[.val (.int n), .val (.int c0), .val (.int c1), .val (.int c2), .val (.int c3), .val (.int c4)] [(.ref b159), (.ref b158), (.ref b158)]))
              have F_value_b158 : Fld Z h158 b158 "java/lang/String" "value" "[B" .null := D158 (Or.inr (hw _ (List.mem_of_getElem? (i := 20) rfl))) (ty := (.array .byte)) (by decide)
              have F_coder_b158 : Fld Z h158 b158 "java/lang/String" "coder" "B" (.int (0 : Int32)) := D158 (Or.inr (hw _ (List.mem_of_getElem? (i := 21) rfl))) (ty := .byte) (by decide)
              have f165 := (A158.keep (((((((Keep.refl h158 []).trans K159 all0).trans K160 (allS (Or.inr (by omega)) all0)).trans K161 (allS (Or.inr (by omega)) all0)).trans K162 (allS (Or.inr (by omega)) all0)).trans K163 (allS (Or.inr (by omega)) all0)).trans K164 (allS (Or.inr (by omega)) all0)))
              have f166 := (F_value_b158.keep (((((((Keep.refl h158 []).trans K159 all0).trans K160 (allS (Or.inr (by omega)) all0)).trans K161 (allS (Or.inr (by omega)) all0)).trans K162 (allS (Or.inr (by omega)) all0)).trans K163 (allS (Or.inr (by omega)) all0)).trans K164 (allS (Or.inr (by omega)) all0)) nin0)
              have f167 := (F_coder_b158.keep (((((((Keep.refl h158 []).trans K159 all0).trans K160 (allS (Or.inr (by omega)) all0)).trans K161 (allS (Or.inr (by omega)) all0)).trans K162 (allS (Or.inr (by omega)) all0)).trans K163 (allS (Or.inr (by omega)) all0)).trans K164 (allS (Or.inr (by omega)) all0)) nin0)
              have O168 : Old Z n0 h164 := O0.keep ((((((((Keep.refl h0 []).trans K158 all0).trans K159 all0).trans K160 (allS (Or.inr (by omega)) all0)).trans K161 (allS (Or.inr (by omega)) all0)).trans K162 (allS (Or.inr (by omega)) all0)).trans K163 (allS (Or.inr (by omega)) all0)).trans K164 (allS (Or.inr (by omega)) all0)) all0
              obtain ⟨T169, v169, L169, h169, X169, e169, q169, st169⟩ := own_callI X164 hx hZ (y := (⟨"java/lang/String", "<init>", "([C)V"⟩ : MethodName)) rfl hown (hw _ (List.mem_of_getElem? (i := 8) rfl)) (hw _ (List.mem_of_getElem? (i := 9) rfl)) (hw _ (List.mem_of_getElem? (i := 10) rfl)) (by decide) (own_nsB (W := 1) hZ (own_wNew hw) (kI := 4) (hw _ (List.mem_of_getElem? (i := 5) rfl)) (cs := [c0, c1, c2, c3, c4]) (n := 5) (by omega : n0 ≤ b158) O168 CS f165 f166 f167 V164 rfl rfl (by decide) (by decide) (own_allC hc0 (own_allC hc1 (own_allC hc2 (own_allC hc3 (own_all1 hc4))))) (by decide) (by decide)) e164 (by decide) (by decide) (g := (mkF m 154 #[.val (.int n), .val (.int c0), .val (.int c1), .val (.int c2), .val (.int c3), .val (.int c4)] [(.ref b159), (.ref b158), (.ref b158)])) rfl (by rw [hml]; rfl) (a := b158) (argsL := [(.ref b159)]) (rest := [(.ref b158)]) (lenOf pd__28_5bC_29V rfl) rfl rfl (by show 2 * 0 + _ ≤ _; exact Nat.le_of_eq rfl) (hb hby d1_154)
              obtain ⟨rfl, N169q, K169, S169⟩ := q169
              refine own_stW st169 ?_
              have zK169 := K169.1
              have N169 := Fr.app N164 N169q
              have A169 := S169.1
              show own_GoW p e below s _ _ _ _ _ (T169.setTop (mkF m 157 #[.val (.int n), .val (.int c0), .val (.int c1), .val (.int c2), .val (.int c3), .val (.int c4)] [(.ref b158)]))
              have CR170 := CR.trans (CHr.keep (((((((((Keep.refl h0 []).trans K158 all0).trans K159 all0).trans K160 (allS (Or.inr (by omega)) all0)).trans K161 (allS (Or.inr (by omega)) all0)).trans K162 (allS (Or.inr (by omega)) all0)).trans K163 (allS (Or.inr (by omega)) all0)).trans K164 (allS (Or.inr (by omega)) all0)).trans K169 (allS (Or.inr (by omega)) all0)) all0 CR.1)
              exact own_retW X169 hx hlk e169 hZ hEL hS (by omega) CR170 hret rfl (Or.inr (Or.inr (Or.inr (Or.inr ⟨rfl, rfl, rfl⟩)))) (hb hby d1_157) (by decide) (by decide) ⟨N169, _, rfl, (((((((((Keep.refl h0 []).trans K158 all0).trans K159 all0).trans K160 (allS (Or.inr (by omega)) all0)).trans K161 (allS (Or.inr (by omega)) all0)).trans K162 (allS (Or.inr (by omega)) all0)).trans K163 (allS (Or.inr (by omega)) all0)).trans K164 (allS (Or.inr (by omega)) all0)).trans K169 (allS (Or.inr (by omega)) all0)), Or.inr ⟨b158, [c0, c1, c2, c3, c4], rfl, (by unfold own_mk; rw [if_neg c101, if_neg c111, if_neg c121, if_neg c132, if_neg c144, if_pos c157]), S169, (fun c hc => ((show ∀ c ∈ [c0, c1, c2, c3, c4], ¬ c < 0 ∧ ¬ (255 : Int32) < c from (own_allC hc0 (own_allC hc1 (own_allC hc2 (own_allC hc3 (own_all1 hc4)))))) c hc).2)⟩⟩
            · refine own_stW (fun _ k => XS.icmpYes X0.here hx rfl (pc0 := 122) (pc' := 158) rfl (hb hby d1_122) rfl (feq c157).2 (by decide) (by decide) k) ?_
              show own_GoW p e below s _ _ _ _ _ (T0.setTop (mkF m 158 #[.val (.int n), .val (.int c0), .val (.int c1), .val (.int c2), .val (.int c3), .val (.int c4)] []))
              refine own_stW (fun _ k => XS.aconstNull X0.here hx rfl (hb hby d1_158) k) ?_
              show own_GoW p e below s _ _ _ _ _ (T0.setTop (mkF m 159 #[.val (.int n), .val (.int c0), .val (.int c1), .val (.int c2), .val (.int c3), .val (.int c4)] [.null]))
              exact own_retW X0 hx hlk e0 hZ hEL hS (by omega) CR hret rfl (Or.inr (Or.inr (Or.inr (Or.inr ⟨rfl, rfl, rfl⟩)))) (hb hby d1_159) (by decide) (by decide) ⟨N0, .null, rfl, (Keep.refl h0 []), Or.inl ⟨rfl, (by unfold own_mk; rw [if_neg c101, if_neg c111, if_neg c121, if_neg c132, if_neg c144, if_neg c157])⟩⟩
theorem d5_0 : decode prog_24_method_2_code 0 = .ok (.ldc 42, 2) := by decide +kernel
theorem d5_2 : decode prog_24_method_2_code 2 = .ok (.aload_n 0, 1) := by decide +kernel
theorem pd__28Ljava_2flang_2fObject_3b_29Z : parseMethodDescriptor "(Ljava/lang/Object;)Z" = some ⟨[(.object "java/lang/Object")], some .boolean⟩ := by decide +kernel
theorem d5_3 : decode prog_24_method_2_code 3 = .ok (.invokevirtual 44, 3) := by decide +kernel
theorem d5_6 : decode prog_24_method_2_code 6 = .ok (.ifCond .eq 8, 3) := by decide +kernel
theorem d5_14 : decode prog_24_method_2_code 14 = .ok (.aload_n 0, 1) := by decide +kernel
theorem d5_15 : decode prog_24_method_2_code 15 = .ok (.areturn, 1) := by decide +kernel
theorem pn_com_example_kaname_kaname_config_ActionDeclaration : plainName "com/example/kaname/kaname/config/ActionDeclaration" = true := by first | (simp [plainName, overriddenIn]; done) | decide +kernel
theorem ef_rtN (m : MethodId)  : entryFrame m #[.null] 1 = mkF m 0 #[.val .null] [] := by (first | (simp [entryFrame, mkF, argsToLocals, Value.category]; done) | rfl)
abbrev rtNR : Room := { frames := 1, cells := 2, slots := 20, locals := 14 }
set_option maxRecDepth 65536 in
set_option maxHeartbeats 40000000 in
theorem rtN (l : Launch) (Z : State) (a0 : Array Value) (hw : ∀ d ∈ tables_1, d.before a0 Z = true)  (h0 : Heap) (n0 : Nat) (O0 : Old Z n0 h0) (CS : own_CS Z) :
    own_CW l Z (⟨"com/example/kaname/kaname/config/ActionDeclaration", "routeMethod", "(Ljava/lang/String;)Ljava/lang/String;"⟩ : MethodName) prog_24_method_2_code 1 (some (.object "java/lang/String")) [] rtNR #[.null] h0 (fun v h L => Fr n0 L ∧ v = some .null ∧ Keep h0 h []) := by
  refine own_bodyW (plainFor_of_name pn_com_example_kaname_kaname_config_ActionDeclaration) ?_
  intro p e s m below meth c T0 X0 hx hby hml hZ hown hnm hret hlk e0 hS CR
  have hEL := own_hEL hw
  have N0 := Fr.nil n0
  have zO := own_old O0
  refine own_stW (fun _ k => castTop (ef_rtN m ) k) ?_
  show own_GoW p e below s _ _ _ _ _ (T0.setTop (mkF m 0 #[.val .null] []))
  obtain ⟨a101, T101, h101, kk101, bb101, kb101, X101, e101, E101, hS101, hk101, hZ101, hown101, A101, Fc101, Fv101, V101, la101, lb101, CH101, L101, sf101, st101⟩ := ldcCH X0 hx hZ hown (hw _ (List.mem_of_getElem? (i := 30) rfl)) (own_wStr hw) e0 hS (by omega) hEL (by decide) CR.1 (vs := [.int (72), .int (69), .int (65), .int (68)]) (z := 4) (by decide) (by decide) (by decide) (g := (mkF m 0 #[.val .null] [])) rfl (hb hby d5_0) (n := 16) (by decide) (by decide) (by decide) (by decide)
  have K101 : Keep h0 h101 [] := (Keep.refl _ _).ext E101
  have hS := hS101
  have hZ := hZ101
  have hown := hown101
  refine own_stW st101 ?_
  have zK101 := K101.1
  have CR102 := CR.trans CH101
  have S101 : own_Str Z h101 a101 [(72 : Int32), (69 : Int32), (65 : Int32), (68 : Int32)] := own_litStr A101 Fc101 Fv101 V101 (by decide) (by decide) (by decide) (by decide)
  show own_GoW p e below s _ _ _ _ _ (T101.setTop (mkF m 2 #[.val .null] [(.ref a101)]))
  refine own_stW (fun _ k => XS.aloadN X101.here hx rfl (hb hby d5_2) rfl rfl k) ?_
  show own_GoW p e below s _ _ _ _ _ (T101.setTop (mkF m 3 #[.val .null] [.null, (.ref a101)]))
  have O103 : Old Z n0 h101 := O0.keep ((Keep.refl h0 []).trans K101 all0) all0
  obtain ⟨T104, v104, L104, h104, X104, e104, q104, st104⟩ := own_callV X101 hx hZ (y := (⟨"java/lang/String", "equals", "(Ljava/lang/Object;)Z"⟩ : MethodName)) (z := (⟨"java/lang/String", "equals", "(Ljava/lang/Object;)Z"⟩ : MethodName)) hown (hw _ (List.mem_of_getElem? (i := 31) rfl)) (hw _ (List.mem_of_getElem? (i := 32) rfl)) (notFace_of_selects (args := #[]) (mvT hZ (hw _ (List.mem_of_getElem? (i := 34) rfl)))) (hw _ (List.mem_of_getElem? (i := 34) rfl)) (hw _ (List.mem_of_getElem? (i := 33) rfl)) (by decide) (own_bk (W := 0) (seN l Z a0 hw a101 h101 n0 O103) hZ (hw _ (List.mem_of_getElem? (i := 35) rfl)) (hw _ (List.mem_of_getElem? (i := 6) rfl)) (by decide) (by decide)) e101 A101 (by decide) (by decide) (g := (mkF m 3 #[.val .null] [.null, (.ref a101)])) rfl (by rw [hml]; rfl) (argsL := [.null]) (rest := []) (lenOf pd__28Ljava_2flang_2fObject_3b_29Z rfl) rfl rfl (by show 2 * 0 + _ ≤ _; exact Nat.le_of_eq rfl) (hb hby d5_3)
  obtain ⟨rfl, N104q, hq104⟩ := q104
  replace e104 := e104.trans hq104
  refine own_stW st104 ?_
  have N104 := Fr.app N0 N104q
  show own_GoW p e below s _ _ _ _ _ (T104.setTop (mkF m 6 #[.val .null] [(.int (0 : Int32))]))
  refine own_stW (fun _ k => XS.ifYes X104.here hx rfl (pc0 := 6) (pc' := 14) rfl (hb hby d5_6) rfl ((if0 _ _).trans (teq (by decide)).1) (by decide) (by decide) k) ?_
  show own_GoW p e below s _ _ _ _ _ (T104.setTop (mkF m 14 #[.val .null] []))
  refine own_stW (fun _ k => XS.aloadN X104.here hx rfl (hb hby d5_14) rfl rfl k) ?_
  show own_GoW p e below s _ _ _ _ _ (T104.setTop (mkF m 15 #[.val .null] [.null]))
  exact own_retW X104 hx hlk e104 hZ hEL hS (by omega) CR102 hret rfl (Or.inr (Or.inr (Or.inr (Or.inr ⟨rfl, rfl, rfl⟩)))) (hb hby d5_15) (by decide) (by decide) ⟨N104, rfl, ((Keep.refl h0 []).trans K101 all0)⟩
theorem d5_9 : decode prog_24_method_2_code 9 = .ok (.ldc 50, 2) := by decide +kernel
theorem d5_11 : decode prog_24_method_2_code 11 = .ok (.goto 4, 3) := by decide +kernel
theorem ef_rtS (m : MethodId) (x0 : Addr) : entryFrame m #[(.ref x0)] 1 = mkF m 0 #[.val (.ref x0)] [] := by (first | (simp [entryFrame, mkF, argsToLocals, Value.category]; done) | rfl)
abbrev rtSR : Room := { frames := 2, cells := 4, slots := 36, locals := 28 }
set_option maxRecDepth 65536 in
set_option maxHeartbeats 40000000 in
theorem rtS (l : Launch) (Z : State) (a0 : Array Value) (hw : ∀ d ∈ tables_1, d.before a0 Z = true) (a1 : Nat) (cs : List Int32) (h0 : Heap) (n0 : Nat) (O0 : Old Z n0 h0) (CS : own_CS Z) (S1 : own_Str Z h0 a1 cs) :
    own_CW l Z (⟨"com/example/kaname/kaname/config/ActionDeclaration", "routeMethod", "(Ljava/lang/String;)Ljava/lang/String;"⟩ : MethodName) prog_24_method_2_code 1 (some (.object "java/lang/String")) [] rtSR #[(.ref a1)] h0 (fun v h L => Fr n0 L ∧ ∃ g : Nat, v = some (.ref g) ∧ Keep h0 h [] ∧ ((cs = own_HEAD ∧ own_Str Z h g own_GET) ∨ (¬ cs = own_HEAD ∧ a1 = g))) := by
  refine own_bodyW (plainFor_of_name pn_com_example_kaname_kaname_config_ActionDeclaration) ?_
  intro p e s m below meth c T0 X0 hx hby hml hZ hown hnm hret hlk e0 hS CR
  have hEL := own_hEL hw
  have N0 := Fr.nil n0
  have zO := own_old O0
  refine own_stW (fun _ k => castTop (ef_rtS m a1) k) ?_
  show own_GoW p e below s _ _ _ _ _ (T0.setTop (mkF m 0 #[.val (.ref a1)] []))
  obtain ⟨a101, T101, h101, kk101, bb101, kb101, X101, e101, E101, hS101, hk101, hZ101, hown101, A101, Fc101, Fv101, V101, la101, lb101, CH101, L101, sf101, st101⟩ := ldcCH X0 hx hZ hown (hw _ (List.mem_of_getElem? (i := 30) rfl)) (own_wStr hw) e0 hS (by omega) hEL (by decide) CR.1 (vs := [.int (72), .int (69), .int (65), .int (68)]) (z := 4) (by decide) (by decide) (by decide) (g := (mkF m 0 #[.val (.ref a1)] [])) rfl (hb hby d5_0) (n := 16) (by decide) (by decide) (by decide) (by decide)
  have K101 : Keep h0 h101 [] := (Keep.refl _ _).ext E101
  have hS := hS101
  have hZ := hZ101
  have hown := hown101
  refine own_stW st101 ?_
  have zK101 := K101.1
  have CR102 := CR.trans CH101
  have S101 : own_Str Z h101 a101 [(72 : Int32), (69 : Int32), (65 : Int32), (68 : Int32)] := own_litStr A101 Fc101 Fv101 V101 (by decide) (by decide) (by decide) (by decide)
  show own_GoW p e below s _ _ _ _ _ (T101.setTop (mkF m 2 #[.val (.ref a1)] [(.ref a101)]))
  refine own_stW (fun _ k => XS.aloadN X101.here hx rfl (hb hby d5_2) rfl rfl k) ?_
  show own_GoW p e below s _ _ _ _ _ (T101.setTop (mkF m 3 #[.val (.ref a1)] [(.ref a1), (.ref a101)]))
  have f103 := (S1.keep ((Keep.refl h0 []).trans K101 all0) nin0)
  have O104 : Old Z n0 h101 := O0.keep ((Keep.refl h0 []).trans K101 all0) all0
  obtain ⟨T105, v105, L105, h105, X105, e105, q105, st105⟩ := own_callV X101 hx hZ (y := (⟨"java/lang/String", "equals", "(Ljava/lang/Object;)Z"⟩ : MethodName)) (z := (⟨"java/lang/String", "equals", "(Ljava/lang/Object;)Z"⟩ : MethodName)) hown (hw _ (List.mem_of_getElem? (i := 31) rfl)) (hw _ (List.mem_of_getElem? (i := 32) rfl)) (notFace_of_selects (args := #[]) (mvT hZ (hw _ (List.mem_of_getElem? (i := 34) rfl)))) (hw _ (List.mem_of_getElem? (i := 34) rfl)) (hw _ (List.mem_of_getElem? (i := 33) rfl)) (by decide) (own_eqB (W := 0) hZ (own_wEq hw) (kI := 4) (hw _ (List.mem_of_getElem? (i := 5) rfl)) O104 CS S101 f103 (by decide) (by decide)) e101 A101 (by decide) (by decide) (g := (mkF m 3 #[.val (.ref a1)] [(.ref a1), (.ref a101)])) rfl (by rw [hml]; rfl) (argsL := [(.ref a1)]) (rest := []) (lenOf pd__28Ljava_2flang_2fObject_3b_29Z rfl) rfl rfl (by show 2 * 0 + _ ≤ _; exact Nat.le_of_eq rfl) (hb hby d5_3)
  obtain ⟨rfl, N105q, hq105⟩ := q105
  replace e105 := e105.trans hq105
  refine own_stW st105 ?_
  have N105 := Fr.app N0 N105q
  show own_GoW p e below s _ _ _ _ _ (T105.setTop (mkF m 6 #[.val (.ref a1)] [(.int (if [(72 : Int32), (69 : Int32), (65 : Int32), (68 : Int32)] = cs then (1 : Int32) else 0))]))
  by_cases c106 : (if [(72 : Int32), (69 : Int32), (65 : Int32), (68 : Int32)] = cs then (1 : Int32) else 0) = (0 : Int32)
  · refine own_stW (fun _ k => XS.ifYes X105.here hx rfl (pc0 := 6) (pc' := 14) rfl (hb hby d5_6) rfl ((if0 _ _).trans (teq c106).1) (by decide) (by decide) k) ?_
    show own_GoW p e below s _ _ _ _ _ (T105.setTop (mkF m 14 #[.val (.ref a1)] []))
    refine own_stW (fun _ k => XS.aloadN X105.here hx rfl (hb hby d5_14) rfl rfl k) ?_
    show own_GoW p e below s _ _ _ _ _ (T105.setTop (mkF m 15 #[.val (.ref a1)] [(.ref a1)]))
    exact own_retW X105 hx hlk e105 hZ hEL hS (by omega) CR102 hret rfl (Or.inr (Or.inr (Or.inr (Or.inr ⟨rfl, rfl, rfl⟩)))) (hb hby d5_15) (by decide) (by decide) ⟨N105, a1, rfl, ((Keep.refl h0 []).trans K101 all0), Or.inr ⟨fun q => by rw [if_pos q.symm] at c106; revert c106; decide, rfl⟩⟩
  · refine own_stW (fun _ k => XS.ifNo X105.here hx rfl (hb hby d5_6) rfl ((if0 _ _).trans (feq c106).1) k) ?_
    show own_GoW p e below s _ _ _ _ _ (T105.setTop (mkF m 9 #[.val (.ref a1)] []))
    obtain ⟨a107, T107, h107, kk107, bb107, kb107, X107, e107, E107, hS107, hk107, hZ107, hown107, A107, Fc107, Fv107, V107, la107, lb107, CH107, L107, sf107, st107⟩ := ldcCH X105 hx hZ hown (hw _ (List.mem_of_getElem? (i := 53) rfl)) (own_wStr hw) e105 hS (by omega) hEL (by decide) CR102.1 (vs := [.int (71), .int (69), .int (84)]) (z := 3) (by decide) (by decide) (by decide) (g := (mkF m 9 #[.val (.ref a1)] [])) rfl (hb hby d5_9) (n := 12) (by decide) (by decide) (by decide) (by decide)
    have K107 : Keep h101 h107 [] := (Keep.refl _ _).ext E107
    have hS := hS107
    have hZ := hZ107
    have hown := hown107
    refine own_stW st107 ?_
    have zK107 := K107.1
    have CR108 := CR102.trans CH107
    have S107 : own_Str Z h107 a107 [(71 : Int32), (69 : Int32), (84 : Int32)] := own_litStr A107 Fc107 Fv107 V107 (by decide) (by decide) (by decide) (by decide)
    show own_GoW p e below s _ _ _ _ _ (T107.setTop (mkF m 11 #[.val (.ref a1)] [(.ref a107)]))
    refine own_stW (fun _ k => XS.goto X107.here hx rfl (pc0 := 11) (pc' := 15) rfl (hb hby d5_11) (by decide) (by decide) k) ?_
    show own_GoW p e below s _ _ _ _ _ (T107.setTop (mkF m 15 #[.val (.ref a1)] [(.ref a107)]))
    exact own_retW X107 hx hlk e107 hZ hEL hS (by omega) CR108 hret rfl (Or.inr (Or.inr (Or.inr (Or.inr ⟨rfl, rfl, rfl⟩)))) (hb hby d5_15) (by decide) (by decide) ⟨N105, a107, rfl, (((Keep.refl h0 []).trans K101 all0).trans K107 all0), Or.inl ⟨Decidable.byContradiction fun q => c106 (by rw [if_neg (fun z => q z.symm)]), S107⟩⟩
theorem pd__28ICCCCC_29Ljava_2flang_2fString_3b : parseMethodDescriptor "(ICCCCC)Ljava/lang/String;" = some ⟨[.int, .char, .char, .char, .char, .char], some (.object "java/lang/String")⟩ := by decide +kernel
theorem pd__28Ljava_2flang_2fString_3b_29Ljava_2flang_2fString_3b : parseMethodDescriptor "(Ljava/lang/String;)Ljava/lang/String;" = some ⟨[(.object "java/lang/String")], some (.object "java/lang/String")⟩ := by decide +kernel
theorem pd__28_29I : parseMethodDescriptor "()I" = some ⟨[], some .int⟩ := by decide +kernel
theorem pd__28I_29C : parseMethodDescriptor "(I)C" = some ⟨[.int], some .char⟩ := by decide +kernel
theorem ef_lawW (m : MethodId) (x0 : Int32) (x1 : Int32) (x2 : Int32) (x3 : Int32) (x4 : Int32) (x5 : Int32) : entryFrame m #[(.int x0), (.int x1), (.int x2), (.int x3), (.int x4), (.int x5)] maxLocals = mkF m 0 #[.val (.int x0), .val (.int x1), .val (.int x2), .val (.int x3), .val (.int x4), .val (.int x5), .unset, .unset, .unset, .unset, .unset, .unset, .unset, .unset, .unset] [] := by (first | (simp [entryFrame, mkF, argsToLocals, Value.category, maxLocals]; done) | rfl)
set_option maxRecDepth 65536 in
set_option maxHeartbeats 40000000 in
theorem lawW (l : Launch) (Z : State) (a0 : Array Value) (hw : ∀ d ∈ tables_1, d.before a0 Z = true) (ws : List Jvm.Cond) (pa pb pc pd pe pm : Int32) (h0 : Heap) (n0 : Nat) (O0 : Old Z n0 h0) (CS : own_CS Z) (FM : own_FM Z) :
    own_CW l Z x code maxLocals ret ws room_1 #[(.int pa), (.int pb), (.int pc), (.int pd), (.int pe), (.int pm)] h0 (fun v h L => v = some (.int 1) ∧ Fr n0 L) := by
  refine own_bodyW (plainFor_of_name pn_com_example_kaname_kaname_config_ActionDeclarationRouteMethodPinLaw) ?_
  intro p e s m below meth c T0 X0 hx hby hml hZ hown hnm hret hlk e0 hS CR
  have hEL := own_hEL hw
  have N0 := Fr.nil n0
  have zO := own_old O0
  refine own_stW (fun _ k => castTop (ef_lawW m pa pb pc pd pe pm) k) ?_
  show own_GoW p e below s _ _ _ _ _ (T0.setTop (mkF m 0 #[.val (.int pa), .val (.int pb), .val (.int pc), .val (.int pd), .val (.int pe), .val (.int pm), .unset, .unset, .unset, .unset, .unset, .unset, .unset, .unset, .unset] []))
  refine own_stW (fun _ k => XS.iload X0.here hx rfl (hb hby at_0) rfl k) ?_
  show own_GoW p e below s _ _ _ _ _ (T0.setTop (mkF m 2 #[.val (.int pa), .val (.int pb), .val (.int pc), .val (.int pd), .val (.int pe), .val (.int pm), .unset, .unset, .unset, .unset, .unset, .unset, .unset, .unset, .unset] [(.int pm)]))
  refine own_stW (fun _ k => XS.iconst X0.here hx rfl (hb hby at_2) k) ?_
  show own_GoW p e below s _ _ _ _ _ (T0.setTop (mkF m 3 #[.val (.int pa), .val (.int pb), .val (.int pc), .val (.int pd), .val (.int pe), .val (.int pm), .unset, .unset, .unset, .unset, .unset, .unset, .unset, .unset, .unset] [(.int (1 : Int32)), (.int pm)]))
  refine own_stW (fun _ k => XS.iand X0.here hx rfl (hb hby at_3) rfl k) ?_
  show own_GoW p e below s _ _ _ _ _ (T0.setTop (mkF m 4 #[.val (.int pa), .val (.int pb), .val (.int pc), .val (.int pd), .val (.int pe), .val (.int pm), .unset, .unset, .unset, .unset, .unset, .unset, .unset, .unset, .unset] [(.int (pm &&& (1 : Int32)))]))
  have J18 : ∀ (Tj : State) (Lj : List Loc) (j18_s0 : Int32), Stand p l e room_1 (s.setVm s.vm) m #[(.int pa), (.int pb), (.int pc), (.int pd), (.int pe), (.int pm)] below meth c Tj Lj 0 0 → Tj.heap = h0 → Fr n0 Lj → (((pm &&& (1 : Int32)) = (0 : Int32) ∧ j18_s0 = ((pa &&& (255 : Int32)).toUInt32.toUInt16.toUInt32.toInt32)) ∨ (¬ ((pm &&& (1 : Int32)) = (0 : Int32)) ∧ j18_s0 = (72 : Int32))) → own_GoW p e below s Z h0 (fun v h L => v = some (.int 1) ∧ Fr n0 L) room_1.cells room_1.slots (Tj.setTop (mkF m 18 #[.val (.int pa), .val (.int pb), .val (.int pc), .val (.int pd), .val (.int pe), .val (.int pm), .unset, .unset, .unset, .unset, .unset, .unset, .unset, .unset, .unset] [(.int j18_s0)])) := by
    intro TJ101 LJ101 j18_s0 XJ101 eJ101 NJ101 hJ18
    have hcj18 : ¬ j18_s0 < 0 ∧ ¬ (255 : Int32) < j18_s0 := by
      rcases hJ18 with ⟨_, rfl⟩ | ⟨_, rfl⟩
      · rw [own_i2cm]; exact own_m255 _
      · decide
    refine own_stW (fun _ k => XS.istore XJ101.here hx rfl (hb hby at_18) rfl (l' := #[.val (.int pa), .val (.int pb), .val (.int pc), .val (.int pd), .val (.int pe), .val (.int pm), .val (.int j18_s0), .unset, .unset, .unset, .unset, .unset, .unset, .unset, .unset]) rfl k) ?_
    show own_GoW p e below s _ _ _ _ _ (TJ101.setTop (mkF m 20 #[.val (.int pa), .val (.int pb), .val (.int pc), .val (.int pd), .val (.int pe), .val (.int pm), .val (.int j18_s0), .unset, .unset, .unset, .unset, .unset, .unset, .unset, .unset] []))
    refine own_stW (fun _ k => XS.iload XJ101.here hx rfl (hb hby at_20) rfl k) ?_
    show own_GoW p e below s _ _ _ _ _ (TJ101.setTop (mkF m 22 #[.val (.int pa), .val (.int pb), .val (.int pc), .val (.int pd), .val (.int pe), .val (.int pm), .val (.int j18_s0), .unset, .unset, .unset, .unset, .unset, .unset, .unset, .unset] [(.int pm)]))
    refine own_stW (fun _ k => XS.iconst XJ101.here hx rfl (hb hby at_22) k) ?_
    show own_GoW p e below s _ _ _ _ _ (TJ101.setTop (mkF m 23 #[.val (.int pa), .val (.int pb), .val (.int pc), .val (.int pd), .val (.int pe), .val (.int pm), .val (.int j18_s0), .unset, .unset, .unset, .unset, .unset, .unset, .unset, .unset] [(.int (2 : Int32)), (.int pm)]))
    refine own_stW (fun _ k => XS.iand XJ101.here hx rfl (hb hby at_23) rfl k) ?_
    show own_GoW p e below s _ _ _ _ _ (TJ101.setTop (mkF m 24 #[.val (.int pa), .val (.int pb), .val (.int pc), .val (.int pd), .val (.int pe), .val (.int pm), .val (.int j18_s0), .unset, .unset, .unset, .unset, .unset, .unset, .unset, .unset] [(.int (pm &&& (2 : Int32)))]))
    have J38 : ∀ (Tj : State) (Lj : List Loc) (j38_s0 : Int32), Stand p l e room_1 (s.setVm s.vm) m #[(.int pa), (.int pb), (.int pc), (.int pd), (.int pe), (.int pm)] below meth c Tj Lj 0 0 → Tj.heap = h0 → Fr n0 Lj → (((pm &&& (2 : Int32)) = (0 : Int32) ∧ j38_s0 = ((pb &&& (255 : Int32)).toUInt32.toUInt16.toUInt32.toInt32)) ∨ (¬ ((pm &&& (2 : Int32)) = (0 : Int32)) ∧ j38_s0 = (69 : Int32))) → own_GoW p e below s Z h0 (fun v h L => v = some (.int 1) ∧ Fr n0 L) room_1.cells room_1.slots (Tj.setTop (mkF m 38 #[.val (.int pa), .val (.int pb), .val (.int pc), .val (.int pd), .val (.int pe), .val (.int pm), .val (.int j18_s0), .unset, .unset, .unset, .unset, .unset, .unset, .unset, .unset] [(.int j38_s0)])) := by
      intro TJ102 LJ102 j38_s0 XJ102 eJ102 NJ102 hJ38
      have hcj38 : ¬ j38_s0 < 0 ∧ ¬ (255 : Int32) < j38_s0 := by
        rcases hJ38 with ⟨_, rfl⟩ | ⟨_, rfl⟩
        · rw [own_i2cm]; exact own_m255 _
        · decide
      refine own_stW (fun _ k => XS.istore XJ102.here hx rfl (hb hby at_38) rfl (l' := #[.val (.int pa), .val (.int pb), .val (.int pc), .val (.int pd), .val (.int pe), .val (.int pm), .val (.int j18_s0), .val (.int j38_s0), .unset, .unset, .unset, .unset, .unset, .unset, .unset]) rfl k) ?_
      show own_GoW p e below s _ _ _ _ _ (TJ102.setTop (mkF m 40 #[.val (.int pa), .val (.int pb), .val (.int pc), .val (.int pd), .val (.int pe), .val (.int pm), .val (.int j18_s0), .val (.int j38_s0), .unset, .unset, .unset, .unset, .unset, .unset, .unset] []))
      refine own_stW (fun _ k => XS.iload XJ102.here hx rfl (hb hby at_40) rfl k) ?_
      show own_GoW p e below s _ _ _ _ _ (TJ102.setTop (mkF m 42 #[.val (.int pa), .val (.int pb), .val (.int pc), .val (.int pd), .val (.int pe), .val (.int pm), .val (.int j18_s0), .val (.int j38_s0), .unset, .unset, .unset, .unset, .unset, .unset, .unset] [(.int pm)]))
      refine own_stW (fun _ k => XS.iconst XJ102.here hx rfl (hb hby at_42) k) ?_
      show own_GoW p e below s _ _ _ _ _ (TJ102.setTop (mkF m 43 #[.val (.int pa), .val (.int pb), .val (.int pc), .val (.int pd), .val (.int pe), .val (.int pm), .val (.int j18_s0), .val (.int j38_s0), .unset, .unset, .unset, .unset, .unset, .unset, .unset] [(.int (4 : Int32)), (.int pm)]))
      refine own_stW (fun _ k => XS.iand XJ102.here hx rfl (hb hby at_43) rfl k) ?_
      show own_GoW p e below s _ _ _ _ _ (TJ102.setTop (mkF m 44 #[.val (.int pa), .val (.int pb), .val (.int pc), .val (.int pd), .val (.int pe), .val (.int pm), .val (.int j18_s0), .val (.int j38_s0), .unset, .unset, .unset, .unset, .unset, .unset, .unset] [(.int (pm &&& (4 : Int32)))]))
      have J58 : ∀ (Tj : State) (Lj : List Loc) (j58_s0 : Int32), Stand p l e room_1 (s.setVm s.vm) m #[(.int pa), (.int pb), (.int pc), (.int pd), (.int pe), (.int pm)] below meth c Tj Lj 0 0 → Tj.heap = h0 → Fr n0 Lj → (((pm &&& (4 : Int32)) = (0 : Int32) ∧ j58_s0 = ((pc &&& (255 : Int32)).toUInt32.toUInt16.toUInt32.toInt32)) ∨ (¬ ((pm &&& (4 : Int32)) = (0 : Int32)) ∧ j58_s0 = (65 : Int32))) → own_GoW p e below s Z h0 (fun v h L => v = some (.int 1) ∧ Fr n0 L) room_1.cells room_1.slots (Tj.setTop (mkF m 58 #[.val (.int pa), .val (.int pb), .val (.int pc), .val (.int pd), .val (.int pe), .val (.int pm), .val (.int j18_s0), .val (.int j38_s0), .unset, .unset, .unset, .unset, .unset, .unset, .unset] [(.int j58_s0)])) := by
        intro TJ103 LJ103 j58_s0 XJ103 eJ103 NJ103 hJ58
        have hcj58 : ¬ j58_s0 < 0 ∧ ¬ (255 : Int32) < j58_s0 := by
          rcases hJ58 with ⟨_, rfl⟩ | ⟨_, rfl⟩
          · rw [own_i2cm]; exact own_m255 _
          · decide
        refine own_stW (fun _ k => XS.istore XJ103.here hx rfl (hb hby at_58) rfl (l' := #[.val (.int pa), .val (.int pb), .val (.int pc), .val (.int pd), .val (.int pe), .val (.int pm), .val (.int j18_s0), .val (.int j38_s0), .val (.int j58_s0), .unset, .unset, .unset, .unset, .unset, .unset]) rfl k) ?_
        show own_GoW p e below s _ _ _ _ _ (TJ103.setTop (mkF m 60 #[.val (.int pa), .val (.int pb), .val (.int pc), .val (.int pd), .val (.int pe), .val (.int pm), .val (.int j18_s0), .val (.int j38_s0), .val (.int j58_s0), .unset, .unset, .unset, .unset, .unset, .unset] []))
        refine own_stW (fun _ k => XS.iload XJ103.here hx rfl (hb hby at_60) rfl k) ?_
        show own_GoW p e below s _ _ _ _ _ (TJ103.setTop (mkF m 62 #[.val (.int pa), .val (.int pb), .val (.int pc), .val (.int pd), .val (.int pe), .val (.int pm), .val (.int j18_s0), .val (.int j38_s0), .val (.int j58_s0), .unset, .unset, .unset, .unset, .unset, .unset] [(.int pm)]))
        refine own_stW (fun _ k => XS.bipush XJ103.here hx rfl (hb hby at_62) k) ?_
        show own_GoW p e below s _ _ _ _ _ (TJ103.setTop (mkF m 64 #[.val (.int pa), .val (.int pb), .val (.int pc), .val (.int pd), .val (.int pe), .val (.int pm), .val (.int j18_s0), .val (.int j38_s0), .val (.int j58_s0), .unset, .unset, .unset, .unset, .unset, .unset] [(.int (8 : Int32)), (.int pm)]))
        refine own_stW (fun _ k => XS.iand XJ103.here hx rfl (hb hby at_64) rfl k) ?_
        show own_GoW p e below s _ _ _ _ _ (TJ103.setTop (mkF m 65 #[.val (.int pa), .val (.int pb), .val (.int pc), .val (.int pd), .val (.int pe), .val (.int pm), .val (.int j18_s0), .val (.int j38_s0), .val (.int j58_s0), .unset, .unset, .unset, .unset, .unset, .unset] [(.int (pm &&& (8 : Int32)))]))
        have J79 : ∀ (Tj : State) (Lj : List Loc) (j79_s0 : Int32), Stand p l e room_1 (s.setVm s.vm) m #[(.int pa), (.int pb), (.int pc), (.int pd), (.int pe), (.int pm)] below meth c Tj Lj 0 0 → Tj.heap = h0 → Fr n0 Lj → (((pm &&& (8 : Int32)) = (0 : Int32) ∧ j79_s0 = ((pd &&& (255 : Int32)).toUInt32.toUInt16.toUInt32.toInt32)) ∨ (¬ ((pm &&& (8 : Int32)) = (0 : Int32)) ∧ j79_s0 = (68 : Int32))) → own_GoW p e below s Z h0 (fun v h L => v = some (.int 1) ∧ Fr n0 L) room_1.cells room_1.slots (Tj.setTop (mkF m 79 #[.val (.int pa), .val (.int pb), .val (.int pc), .val (.int pd), .val (.int pe), .val (.int pm), .val (.int j18_s0), .val (.int j38_s0), .val (.int j58_s0), .unset, .unset, .unset, .unset, .unset, .unset] [(.int j79_s0)])) := by
          intro TJ104 LJ104 j79_s0 XJ104 eJ104 NJ104 hJ79
          have hcj79 : ¬ j79_s0 < 0 ∧ ¬ (255 : Int32) < j79_s0 := by
            rcases hJ79 with ⟨_, rfl⟩ | ⟨_, rfl⟩
            · rw [own_i2cm]; exact own_m255 _
            · decide
          refine own_stW (fun _ k => XS.istore XJ104.here hx rfl (hb hby at_79) rfl (l' := #[.val (.int pa), .val (.int pb), .val (.int pc), .val (.int pd), .val (.int pe), .val (.int pm), .val (.int j18_s0), .val (.int j38_s0), .val (.int j58_s0), .val (.int j79_s0), .unset, .unset, .unset, .unset, .unset]) rfl k) ?_
          show own_GoW p e below s _ _ _ _ _ (TJ104.setTop (mkF m 81 #[.val (.int pa), .val (.int pb), .val (.int pc), .val (.int pd), .val (.int pe), .val (.int pm), .val (.int j18_s0), .val (.int j38_s0), .val (.int j58_s0), .val (.int j79_s0), .unset, .unset, .unset, .unset, .unset] []))
          refine own_stW (fun _ k => XS.iload XJ104.here hx rfl (hb hby at_81) rfl k) ?_
          show own_GoW p e below s _ _ _ _ _ (TJ104.setTop (mkF m 83 #[.val (.int pa), .val (.int pb), .val (.int pc), .val (.int pd), .val (.int pe), .val (.int pm), .val (.int j18_s0), .val (.int j38_s0), .val (.int j58_s0), .val (.int j79_s0), .unset, .unset, .unset, .unset, .unset] [(.int pe)]))
          refine own_stW (fun _ k => XS.sipush XJ104.here hx rfl (hb hby at_83) k) ?_
          show own_GoW p e below s _ _ _ _ _ (TJ104.setTop (mkF m 86 #[.val (.int pa), .val (.int pb), .val (.int pc), .val (.int pd), .val (.int pe), .val (.int pm), .val (.int j18_s0), .val (.int j38_s0), .val (.int j58_s0), .val (.int j79_s0), .unset, .unset, .unset, .unset, .unset] [(.int (255 : Int32)), (.int pe)]))
          refine own_stW (fun _ k => XS.iand XJ104.here hx rfl (hb hby at_86) rfl k) ?_
          show own_GoW p e below s _ _ _ _ _ (TJ104.setTop (mkF m 87 #[.val (.int pa), .val (.int pb), .val (.int pc), .val (.int pd), .val (.int pe), .val (.int pm), .val (.int j18_s0), .val (.int j38_s0), .val (.int j58_s0), .val (.int j79_s0), .unset, .unset, .unset, .unset, .unset] [(.int (pe &&& (255 : Int32)))]))
          refine own_stW (fun _ k => XS.i2c XJ104.here hx rfl (hb hby at_87) rfl k) ?_
          show own_GoW p e below s _ _ _ _ _ (TJ104.setTop (mkF m 88 #[.val (.int pa), .val (.int pb), .val (.int pc), .val (.int pd), .val (.int pe), .val (.int pm), .val (.int j18_s0), .val (.int j38_s0), .val (.int j58_s0), .val (.int j79_s0), .unset, .unset, .unset, .unset, .unset] [(.int ((pe &&& (255 : Int32)).toUInt32.toUInt16.toUInt32.toInt32))]))
          refine own_stW (fun _ k => XS.istore XJ104.here hx rfl (hb hby at_88) rfl (l' := #[.val (.int pa), .val (.int pb), .val (.int pc), .val (.int pd), .val (.int pe), .val (.int pm), .val (.int j18_s0), .val (.int j38_s0), .val (.int j58_s0), .val (.int j79_s0), .val (.int ((pe &&& (255 : Int32)).toUInt32.toUInt16.toUInt32.toInt32)), .unset, .unset, .unset, .unset]) rfl k) ?_
          show own_GoW p e below s _ _ _ _ _ (TJ104.setTop (mkF m 90 #[.val (.int pa), .val (.int pb), .val (.int pc), .val (.int pd), .val (.int pe), .val (.int pm), .val (.int j18_s0), .val (.int j38_s0), .val (.int j58_s0), .val (.int j79_s0), .val (.int ((pe &&& (255 : Int32)).toUInt32.toUInt16.toUInt32.toInt32)), .unset, .unset, .unset, .unset] []))
          refine own_stW (fun _ k => XS.iload XJ104.here hx rfl (hb hby at_90) rfl k) ?_
          show own_GoW p e below s _ _ _ _ _ (TJ104.setTop (mkF m 92 #[.val (.int pa), .val (.int pb), .val (.int pc), .val (.int pd), .val (.int pe), .val (.int pm), .val (.int j18_s0), .val (.int j38_s0), .val (.int j58_s0), .val (.int j79_s0), .val (.int ((pe &&& (255 : Int32)).toUInt32.toUInt16.toUInt32.toInt32)), .unset, .unset, .unset, .unset] [(.int pm)]))
          refine own_stW (fun _ k => XS.iconst XJ104.here hx rfl (hb hby at_92) k) ?_
          show own_GoW p e below s _ _ _ _ _ (TJ104.setTop (mkF m 93 #[.val (.int pa), .val (.int pb), .val (.int pc), .val (.int pd), .val (.int pe), .val (.int pm), .val (.int j18_s0), .val (.int j38_s0), .val (.int j58_s0), .val (.int j79_s0), .val (.int ((pe &&& (255 : Int32)).toUInt32.toUInt16.toUInt32.toInt32)), .unset, .unset, .unset, .unset] [(.int (4 : Int32)), (.int pm)]))
          refine own_stW (fun _ k => XS.iushr XJ104.here hx rfl (hb hby at_93) rfl k) ?_
          show own_GoW p e below s _ _ _ _ _ (TJ104.setTop (mkF m 94 #[.val (.int pa), .val (.int pb), .val (.int pc), .val (.int pd), .val (.int pe), .val (.int pm), .val (.int j18_s0), .val (.int j38_s0), .val (.int j58_s0), .val (.int j79_s0), .val (.int ((pe &&& (255 : Int32)).toUInt32.toUInt16.toUInt32.toInt32)), .unset, .unset, .unset, .unset] [(.int ((pm.toUInt32 >>> ((4 : Int32) &&& 31).toUInt32).toInt32))]))
          refine own_stW (fun _ k => XS.bipush XJ104.here hx rfl (hb hby at_94) k) ?_
          show own_GoW p e below s _ _ _ _ _ (TJ104.setTop (mkF m 96 #[.val (.int pa), .val (.int pb), .val (.int pc), .val (.int pd), .val (.int pe), .val (.int pm), .val (.int j18_s0), .val (.int j38_s0), .val (.int j58_s0), .val (.int j79_s0), .val (.int ((pe &&& (255 : Int32)).toUInt32.toUInt16.toUInt32.toInt32)), .unset, .unset, .unset, .unset] [(.int (7 : Int32)), (.int ((pm.toUInt32 >>> ((4 : Int32) &&& 31).toUInt32).toInt32))]))
          refine own_stW (fun _ k => XS.iand XJ104.here hx rfl (hb hby at_96) rfl k) ?_
          show own_GoW p e below s _ _ _ _ _ (TJ104.setTop (mkF m 97 #[.val (.int pa), .val (.int pb), .val (.int pc), .val (.int pd), .val (.int pe), .val (.int pm), .val (.int j18_s0), .val (.int j38_s0), .val (.int j58_s0), .val (.int j79_s0), .val (.int ((pe &&& (255 : Int32)).toUInt32.toUInt16.toUInt32.toInt32)), .unset, .unset, .unset, .unset] [(.int (((pm.toUInt32 >>> ((4 : Int32) &&& 31).toUInt32).toInt32) &&& (7 : Int32)))]))
          refine own_stW (fun _ k => XS.istore XJ104.here hx rfl (hb hby at_97) rfl (l' := #[.val (.int pa), .val (.int pb), .val (.int pc), .val (.int pd), .val (.int pe), .val (.int pm), .val (.int j18_s0), .val (.int j38_s0), .val (.int j58_s0), .val (.int j79_s0), .val (.int ((pe &&& (255 : Int32)).toUInt32.toUInt16.toUInt32.toInt32)), .val (.int (((pm.toUInt32 >>> ((4 : Int32) &&& 31).toUInt32).toInt32) &&& (7 : Int32))), .unset, .unset, .unset]) rfl k) ?_
          show own_GoW p e below s _ _ _ _ _ (TJ104.setTop (mkF m 99 #[.val (.int pa), .val (.int pb), .val (.int pc), .val (.int pd), .val (.int pe), .val (.int pm), .val (.int j18_s0), .val (.int j38_s0), .val (.int j58_s0), .val (.int j79_s0), .val (.int ((pe &&& (255 : Int32)).toUInt32.toUInt16.toUInt32.toInt32)), .val (.int (((pm.toUInt32 >>> ((4 : Int32) &&& 31).toUInt32).toInt32) &&& (7 : Int32))), .unset, .unset, .unset] []))
          refine own_stW (fun _ k => XS.iload XJ104.here hx rfl (hb hby at_99) rfl k) ?_
          show own_GoW p e below s _ _ _ _ _ (TJ104.setTop (mkF m 101 #[.val (.int pa), .val (.int pb), .val (.int pc), .val (.int pd), .val (.int pe), .val (.int pm), .val (.int j18_s0), .val (.int j38_s0), .val (.int j58_s0), .val (.int j79_s0), .val (.int ((pe &&& (255 : Int32)).toUInt32.toUInt16.toUInt32.toInt32)), .val (.int (((pm.toUInt32 >>> ((4 : Int32) &&& 31).toUInt32).toInt32) &&& (7 : Int32))), .unset, .unset, .unset] [(.int (((pm.toUInt32 >>> ((4 : Int32) &&& 31).toUInt32).toInt32) &&& (7 : Int32)))]))
          refine own_stW (fun _ k => XS.iload XJ104.here hx rfl (hb hby at_101) rfl k) ?_
          show own_GoW p e below s _ _ _ _ _ (TJ104.setTop (mkF m 103 #[.val (.int pa), .val (.int pb), .val (.int pc), .val (.int pd), .val (.int pe), .val (.int pm), .val (.int j18_s0), .val (.int j38_s0), .val (.int j58_s0), .val (.int j79_s0), .val (.int ((pe &&& (255 : Int32)).toUInt32.toUInt16.toUInt32.toInt32)), .val (.int (((pm.toUInt32 >>> ((4 : Int32) &&& 31).toUInt32).toInt32) &&& (7 : Int32))), .unset, .unset, .unset] [(.int j18_s0), (.int (((pm.toUInt32 >>> ((4 : Int32) &&& 31).toUInt32).toInt32) &&& (7 : Int32)))]))
          refine own_stW (fun _ k => XS.iload XJ104.here hx rfl (hb hby at_103) rfl k) ?_
          show own_GoW p e below s _ _ _ _ _ (TJ104.setTop (mkF m 105 #[.val (.int pa), .val (.int pb), .val (.int pc), .val (.int pd), .val (.int pe), .val (.int pm), .val (.int j18_s0), .val (.int j38_s0), .val (.int j58_s0), .val (.int j79_s0), .val (.int ((pe &&& (255 : Int32)).toUInt32.toUInt16.toUInt32.toInt32)), .val (.int (((pm.toUInt32 >>> ((4 : Int32) &&& 31).toUInt32).toInt32) &&& (7 : Int32))), .unset, .unset, .unset] [(.int j38_s0), (.int j18_s0), (.int (((pm.toUInt32 >>> ((4 : Int32) &&& 31).toUInt32).toInt32) &&& (7 : Int32)))]))
          refine own_stW (fun _ k => XS.iload XJ104.here hx rfl (hb hby at_105) rfl k) ?_
          show own_GoW p e below s _ _ _ _ _ (TJ104.setTop (mkF m 107 #[.val (.int pa), .val (.int pb), .val (.int pc), .val (.int pd), .val (.int pe), .val (.int pm), .val (.int j18_s0), .val (.int j38_s0), .val (.int j58_s0), .val (.int j79_s0), .val (.int ((pe &&& (255 : Int32)).toUInt32.toUInt16.toUInt32.toInt32)), .val (.int (((pm.toUInt32 >>> ((4 : Int32) &&& 31).toUInt32).toInt32) &&& (7 : Int32))), .unset, .unset, .unset] [(.int j58_s0), (.int j38_s0), (.int j18_s0), (.int (((pm.toUInt32 >>> ((4 : Int32) &&& 31).toUInt32).toInt32) &&& (7 : Int32)))]))
          refine own_stW (fun _ k => XS.iload XJ104.here hx rfl (hb hby at_107) rfl k) ?_
          show own_GoW p e below s _ _ _ _ _ (TJ104.setTop (mkF m 109 #[.val (.int pa), .val (.int pb), .val (.int pc), .val (.int pd), .val (.int pe), .val (.int pm), .val (.int j18_s0), .val (.int j38_s0), .val (.int j58_s0), .val (.int j79_s0), .val (.int ((pe &&& (255 : Int32)).toUInt32.toUInt16.toUInt32.toInt32)), .val (.int (((pm.toUInt32 >>> ((4 : Int32) &&& 31).toUInt32).toInt32) &&& (7 : Int32))), .unset, .unset, .unset] [(.int j79_s0), (.int j58_s0), (.int j38_s0), (.int j18_s0), (.int (((pm.toUInt32 >>> ((4 : Int32) &&& 31).toUInt32).toInt32) &&& (7 : Int32)))]))
          refine own_stW (fun _ k => XS.iload XJ104.here hx rfl (hb hby at_109) rfl k) ?_
          show own_GoW p e below s _ _ _ _ _ (TJ104.setTop (mkF m 111 #[.val (.int pa), .val (.int pb), .val (.int pc), .val (.int pd), .val (.int pe), .val (.int pm), .val (.int j18_s0), .val (.int j38_s0), .val (.int j58_s0), .val (.int j79_s0), .val (.int ((pe &&& (255 : Int32)).toUInt32.toUInt16.toUInt32.toInt32)), .val (.int (((pm.toUInt32 >>> ((4 : Int32) &&& 31).toUInt32).toInt32) &&& (7 : Int32))), .unset, .unset, .unset] [(.int ((pe &&& (255 : Int32)).toUInt32.toUInt16.toUInt32.toInt32)), (.int j79_s0), (.int j58_s0), (.int j38_s0), (.int j18_s0), (.int (((pm.toUInt32 >>> ((4 : Int32) &&& 31).toUInt32).toInt32) &&& (7 : Int32)))]))
          obtain ⟨T105, v105, L105, h105, X105, e105, q105, hS105, hZ105, hown105, CH105, st105⟩ := own_callSW XJ104 hx hZ (y := (⟨"com/example/kaname/kaname/config/ActionDeclarationRouteMethodPinLaw", "make", "(ICCCCC)Ljava/lang/String;"⟩ : MethodName)) hown hS (by omega) (hw _ (List.mem_of_getElem? (i := 0) rfl)) (hw _ (List.mem_of_getElem? (i := 1) rfl)) (hw _ (List.mem_of_getElem? (i := 2) rfl)) (hw _ (List.mem_of_getElem? (i := 3) rfl)) (by decide) (own_bkS (W := 0) (mkW l Z a0 hw (((pm.toUInt32 >>> ((4 : Int32) &&& 31).toUInt32).toInt32) &&& (7 : Int32)) j18_s0 j38_s0 j58_s0 j79_s0 ((pe &&& (255 : Int32)).toUInt32.toUInt16.toUInt32.toInt32) h0 n0 O0 CS hcj18 hcj38 hcj58 hcj79 (by rw [own_i2cm]; exact own_m255 _)) hZ (hw _ (List.mem_of_getElem? (i := 3) rfl)) (hw _ (List.mem_of_getElem? (i := 2) rfl)) (by decide) (by decide) hEL CR.1) eJ104 (by decide) (by decide) (g := (mkF m 111 #[.val (.int pa), .val (.int pb), .val (.int pc), .val (.int pd), .val (.int pe), .val (.int pm), .val (.int j18_s0), .val (.int j38_s0), .val (.int j58_s0), .val (.int j79_s0), .val (.int ((pe &&& (255 : Int32)).toUInt32.toUInt16.toUInt32.toInt32)), .val (.int (((pm.toUInt32 >>> ((4 : Int32) &&& 31).toUInt32).toInt32) &&& (7 : Int32))), .unset, .unset, .unset] [(.int ((pe &&& (255 : Int32)).toUInt32.toUInt16.toUInt32.toInt32)), (.int j79_s0), (.int j58_s0), (.int j38_s0), (.int j18_s0), (.int (((pm.toUInt32 >>> ((4 : Int32) &&& 31).toUInt32).toInt32) &&& (7 : Int32)))])) rfl (by rw [hml]; rfl) (argsL := [(.int (((pm.toUInt32 >>> ((4 : Int32) &&& 31).toUInt32).toInt32) &&& (7 : Int32))), (.int j18_s0), (.int j38_s0), (.int j58_s0), (.int j79_s0), (.int ((pe &&& (255 : Int32)).toUInt32.toUInt16.toUInt32.toInt32))]) (rest := []) (lenOf pd__28ICCCCC_29Ljava_2flang_2fString_3b rfl) rfl rfl (by show 2 * 0 + _ ≤ _; exact Nat.le_of_eq rfl) (hb hby at_111)
          obtain ⟨N105q, r105, rfl, K105, hd105⟩ := q105
          have hS := hS105
          have hZ := hZ105
          have hown := hown105
          refine own_stW st105 ?_
          have zK105 := K105.1
          have CR106 := CR.trans CH105
          have N105 := Fr.app NJ104 N105q
          rcases hd105 with ⟨rfl, hm105⟩ | ⟨b105, cs105, rfl, hm105, S105, hl105⟩
          · show own_GoW p e below s _ _ _ _ _ (T105.setTop (mkF m 114 #[.val (.int pa), .val (.int pb), .val (.int pc), .val (.int pd), .val (.int pe), .val (.int pm), .val (.int j18_s0), .val (.int j38_s0), .val (.int j58_s0), .val (.int j79_s0), .val (.int ((pe &&& (255 : Int32)).toUInt32.toUInt16.toUInt32.toInt32)), .val (.int (((pm.toUInt32 >>> ((4 : Int32) &&& 31).toUInt32).toInt32) &&& (7 : Int32))), .unset, .unset, .unset] [.null]))
            refine own_stW (fun _ k => XS.astore X105.here hx rfl (hb hby at_114) rfl rfl (l' := #[.val (.int pa), .val (.int pb), .val (.int pc), .val (.int pd), .val (.int pe), .val (.int pm), .val (.int j18_s0), .val (.int j38_s0), .val (.int j58_s0), .val (.int j79_s0), .val (.int ((pe &&& (255 : Int32)).toUInt32.toUInt16.toUInt32.toInt32)), .val (.int (((pm.toUInt32 >>> ((4 : Int32) &&& 31).toUInt32).toInt32) &&& (7 : Int32))), .val .null, .unset, .unset]) rfl k) ?_
            show own_GoW p e below s _ _ _ _ _ (T105.setTop (mkF m 116 #[.val (.int pa), .val (.int pb), .val (.int pc), .val (.int pd), .val (.int pe), .val (.int pm), .val (.int j18_s0), .val (.int j38_s0), .val (.int j58_s0), .val (.int j79_s0), .val (.int ((pe &&& (255 : Int32)).toUInt32.toUInt16.toUInt32.toInt32)), .val (.int (((pm.toUInt32 >>> ((4 : Int32) &&& 31).toUInt32).toInt32) &&& (7 : Int32))), .val .null, .unset, .unset] []))
            refine own_stW (fun _ k => XS.aload X105.here hx rfl (hb hby at_116) rfl rfl k) ?_
            show own_GoW p e below s _ _ _ _ _ (T105.setTop (mkF m 118 #[.val (.int pa), .val (.int pb), .val (.int pc), .val (.int pd), .val (.int pe), .val (.int pm), .val (.int j18_s0), .val (.int j38_s0), .val (.int j58_s0), .val (.int j79_s0), .val (.int ((pe &&& (255 : Int32)).toUInt32.toUInt16.toUInt32.toInt32)), .val (.int (((pm.toUInt32 >>> ((4 : Int32) &&& 31).toUInt32).toInt32) &&& (7 : Int32))), .val .null, .unset, .unset] [.null]))
            have O107 : Old Z n0 h105 := O0.keep ((Keep.refl h0 []).trans K105 all0) all0
            obtain ⟨T108, v108, L108, h108, X108, e108, q108, hS108, hZ108, hown108, CH108, st108⟩ := own_callSW X105 hx hZ (y := (⟨"com/example/kaname/kaname/config/ActionDeclaration", "routeMethod", "(Ljava/lang/String;)Ljava/lang/String;"⟩ : MethodName)) hown hS (by omega) (hw _ (List.mem_of_getElem? (i := 26) rfl)) (hw _ (List.mem_of_getElem? (i := 27) rfl)) (hw _ (List.mem_of_getElem? (i := 28) rfl)) (hw _ (List.mem_of_getElem? (i := 29) rfl)) (by decide) (own_bkS (W := 0) (rtN l Z a0 hw h105 n0 O107 CS) hZ (hw _ (List.mem_of_getElem? (i := 29) rfl)) (hw _ (List.mem_of_getElem? (i := 28) rfl)) (by decide) (by decide) hEL CR106.1) e105 (by decide) (by decide) (g := (mkF m 118 #[.val (.int pa), .val (.int pb), .val (.int pc), .val (.int pd), .val (.int pe), .val (.int pm), .val (.int j18_s0), .val (.int j38_s0), .val (.int j58_s0), .val (.int j79_s0), .val (.int ((pe &&& (255 : Int32)).toUInt32.toUInt16.toUInt32.toInt32)), .val (.int (((pm.toUInt32 >>> ((4 : Int32) &&& 31).toUInt32).toInt32) &&& (7 : Int32))), .val .null, .unset, .unset] [.null])) rfl (by rw [hml]; rfl) (argsL := [.null]) (rest := []) (lenOf pd__28Ljava_2flang_2fString_3b_29Ljava_2flang_2fString_3b rfl) rfl rfl (by show 2 * 0 + _ ≤ _; exact Nat.le_of_eq rfl) (hb hby at_118)
            obtain ⟨N108q, rfl, K108⟩ := q108
            have hS := hS108
            have hZ := hZ108
            have hown := hown108
            refine own_stW st108 ?_
            have zK108 := K108.1
            have CR109 := CR106.trans CH108
            have N108 := Fr.app N105 N108q
            show own_GoW p e below s _ _ _ _ _ (T108.setTop (mkF m 121 #[.val (.int pa), .val (.int pb), .val (.int pc), .val (.int pd), .val (.int pe), .val (.int pm), .val (.int j18_s0), .val (.int j38_s0), .val (.int j58_s0), .val (.int j79_s0), .val (.int ((pe &&& (255 : Int32)).toUInt32.toUInt16.toUInt32.toInt32)), .val (.int (((pm.toUInt32 >>> ((4 : Int32) &&& 31).toUInt32).toInt32) &&& (7 : Int32))), .val .null, .unset, .unset] [.null]))
            refine own_stW (fun _ k => XS.astore X108.here hx rfl (hb hby at_121) rfl rfl (l' := #[.val (.int pa), .val (.int pb), .val (.int pc), .val (.int pd), .val (.int pe), .val (.int pm), .val (.int j18_s0), .val (.int j38_s0), .val (.int j58_s0), .val (.int j79_s0), .val (.int ((pe &&& (255 : Int32)).toUInt32.toUInt16.toUInt32.toInt32)), .val (.int (((pm.toUInt32 >>> ((4 : Int32) &&& 31).toUInt32).toInt32) &&& (7 : Int32))), .val .null, .val .null, .unset]) rfl k) ?_
            show own_GoW p e below s _ _ _ _ _ (T108.setTop (mkF m 123 #[.val (.int pa), .val (.int pb), .val (.int pc), .val (.int pd), .val (.int pe), .val (.int pm), .val (.int j18_s0), .val (.int j38_s0), .val (.int j58_s0), .val (.int j79_s0), .val (.int ((pe &&& (255 : Int32)).toUInt32.toUInt16.toUInt32.toInt32)), .val (.int (((pm.toUInt32 >>> ((4 : Int32) &&& 31).toUInt32).toInt32) &&& (7 : Int32))), .val .null, .val .null, .unset] []))
            refine own_stW (fun _ k => XS.aload X108.here hx rfl (hb hby at_123) rfl rfl k) ?_
            show own_GoW p e below s _ _ _ _ _ (T108.setTop (mkF m 125 #[.val (.int pa), .val (.int pb), .val (.int pc), .val (.int pd), .val (.int pe), .val (.int pm), .val (.int j18_s0), .val (.int j38_s0), .val (.int j58_s0), .val (.int j79_s0), .val (.int ((pe &&& (255 : Int32)).toUInt32.toUInt16.toUInt32.toInt32)), .val (.int (((pm.toUInt32 >>> ((4 : Int32) &&& 31).toUInt32).toInt32) &&& (7 : Int32))), .val .null, .val .null, .unset] [.null]))
            refine own_stW (fun _ k => XS.ifnonnullNo X108.here hx rfl (hb hby at_125) rfl k) ?_
            show own_GoW p e below s _ _ _ _ _ (T108.setTop (mkF m 128 #[.val (.int pa), .val (.int pb), .val (.int pc), .val (.int pd), .val (.int pe), .val (.int pm), .val (.int j18_s0), .val (.int j38_s0), .val (.int j58_s0), .val (.int j79_s0), .val (.int ((pe &&& (255 : Int32)).toUInt32.toUInt16.toUInt32.toInt32)), .val (.int (((pm.toUInt32 >>> ((4 : Int32) &&& 31).toUInt32).toInt32) &&& (7 : Int32))), .val .null, .val .null, .unset] []))
            refine own_stW (fun _ k => XS.aload X108.here hx rfl (hb hby at_128) rfl rfl k) ?_
            show own_GoW p e below s _ _ _ _ _ (T108.setTop (mkF m 130 #[.val (.int pa), .val (.int pb), .val (.int pc), .val (.int pd), .val (.int pe), .val (.int pm), .val (.int j18_s0), .val (.int j38_s0), .val (.int j58_s0), .val (.int j79_s0), .val (.int ((pe &&& (255 : Int32)).toUInt32.toUInt16.toUInt32.toInt32)), .val (.int (((pm.toUInt32 >>> ((4 : Int32) &&& 31).toUInt32).toInt32) &&& (7 : Int32))), .val .null, .val .null, .unset] [.null]))
            refine own_stW (fun _ k => XS.ifnonnullNo X108.here hx rfl (hb hby at_130) rfl k) ?_
            show own_GoW p e below s _ _ _ _ _ (T108.setTop (mkF m 133 #[.val (.int pa), .val (.int pb), .val (.int pc), .val (.int pd), .val (.int pe), .val (.int pm), .val (.int j18_s0), .val (.int j38_s0), .val (.int j58_s0), .val (.int j79_s0), .val (.int ((pe &&& (255 : Int32)).toUInt32.toUInt16.toUInt32.toInt32)), .val (.int (((pm.toUInt32 >>> ((4 : Int32) &&& 31).toUInt32).toInt32) &&& (7 : Int32))), .val .null, .val .null, .unset] []))
            refine own_stW (fun _ k => XS.iconst X108.here hx rfl (hb hby at_133) k) ?_
            show own_GoW p e below s _ _ _ _ _ (T108.setTop (mkF m 134 #[.val (.int pa), .val (.int pb), .val (.int pc), .val (.int pd), .val (.int pe), .val (.int pm), .val (.int j18_s0), .val (.int j38_s0), .val (.int j58_s0), .val (.int j79_s0), .val (.int ((pe &&& (255 : Int32)).toUInt32.toUInt16.toUInt32.toInt32)), .val (.int (((pm.toUInt32 >>> ((4 : Int32) &&& 31).toUInt32).toInt32) &&& (7 : Int32))), .val .null, .val .null, .unset] [(.int (1 : Int32))]))
            refine own_stW (fun _ k => XS.goto X108.here hx rfl (pc0 := 134) (pc' := 138) rfl (hb hby at_134) (by decide) (by decide) k) ?_
            show own_GoW p e below s _ _ _ _ _ (T108.setTop (mkF m 138 #[.val (.int pa), .val (.int pb), .val (.int pc), .val (.int pd), .val (.int pe), .val (.int pm), .val (.int j18_s0), .val (.int j38_s0), .val (.int j58_s0), .val (.int j79_s0), .val (.int ((pe &&& (255 : Int32)).toUInt32.toUInt16.toUInt32.toInt32)), .val (.int (((pm.toUInt32 >>> ((4 : Int32) &&& 31).toUInt32).toInt32) &&& (7 : Int32))), .val .null, .val .null, .unset] [(.int (1 : Int32))]))
            exact own_retW X108 hx hlk e108 hZ hEL hS (by omega) CR109 hret (by decide) (Or.inl ⟨rfl, Or.inr (Or.inl rfl), _, rfl⟩) (hb hby at_138) (by decide) (by decide) ⟨rfl, N108⟩
          · have A105 := S105.1
            show own_GoW p e below s _ _ _ _ _ (T105.setTop (mkF m 114 #[.val (.int pa), .val (.int pb), .val (.int pc), .val (.int pd), .val (.int pe), .val (.int pm), .val (.int j18_s0), .val (.int j38_s0), .val (.int j58_s0), .val (.int j79_s0), .val (.int ((pe &&& (255 : Int32)).toUInt32.toUInt16.toUInt32.toInt32)), .val (.int (((pm.toUInt32 >>> ((4 : Int32) &&& 31).toUInt32).toInt32) &&& (7 : Int32))), .unset, .unset, .unset] [(.ref b105)]))
            refine own_stW (fun _ k => XS.astore X105.here hx rfl (hb hby at_114) rfl rfl (l' := #[.val (.int pa), .val (.int pb), .val (.int pc), .val (.int pd), .val (.int pe), .val (.int pm), .val (.int j18_s0), .val (.int j38_s0), .val (.int j58_s0), .val (.int j79_s0), .val (.int ((pe &&& (255 : Int32)).toUInt32.toUInt16.toUInt32.toInt32)), .val (.int (((pm.toUInt32 >>> ((4 : Int32) &&& 31).toUInt32).toInt32) &&& (7 : Int32))), .val (.ref b105), .unset, .unset]) rfl k) ?_
            show own_GoW p e below s _ _ _ _ _ (T105.setTop (mkF m 116 #[.val (.int pa), .val (.int pb), .val (.int pc), .val (.int pd), .val (.int pe), .val (.int pm), .val (.int j18_s0), .val (.int j38_s0), .val (.int j58_s0), .val (.int j79_s0), .val (.int ((pe &&& (255 : Int32)).toUInt32.toUInt16.toUInt32.toInt32)), .val (.int (((pm.toUInt32 >>> ((4 : Int32) &&& 31).toUInt32).toInt32) &&& (7 : Int32))), .val (.ref b105), .unset, .unset] []))
            refine own_stW (fun _ k => XS.aload X105.here hx rfl (hb hby at_116) rfl rfl k) ?_
            show own_GoW p e below s _ _ _ _ _ (T105.setTop (mkF m 118 #[.val (.int pa), .val (.int pb), .val (.int pc), .val (.int pd), .val (.int pe), .val (.int pm), .val (.int j18_s0), .val (.int j38_s0), .val (.int j58_s0), .val (.int j79_s0), .val (.int ((pe &&& (255 : Int32)).toUInt32.toUInt16.toUInt32.toInt32)), .val (.int (((pm.toUInt32 >>> ((4 : Int32) &&& 31).toUInt32).toInt32) &&& (7 : Int32))), .val (.ref b105), .unset, .unset] [(.ref b105)]))
            have O110 : Old Z n0 h105 := O0.keep ((Keep.refl h0 []).trans K105 all0) all0
            obtain ⟨T111, v111, L111, h111, X111, e111, q111, hS111, hZ111, hown111, CH111, st111⟩ := own_callSW X105 hx hZ (y := (⟨"com/example/kaname/kaname/config/ActionDeclaration", "routeMethod", "(Ljava/lang/String;)Ljava/lang/String;"⟩ : MethodName)) hown hS (by omega) (hw _ (List.mem_of_getElem? (i := 26) rfl)) (hw _ (List.mem_of_getElem? (i := 27) rfl)) (hw _ (List.mem_of_getElem? (i := 28) rfl)) (hw _ (List.mem_of_getElem? (i := 29) rfl)) (by decide) (own_bkS (W := 0) (rtS l Z a0 hw b105 cs105 h105 n0 O110 CS S105) hZ (hw _ (List.mem_of_getElem? (i := 29) rfl)) (hw _ (List.mem_of_getElem? (i := 28) rfl)) (by decide) (by decide) hEL CR106.1) e105 (by decide) (by decide) (g := (mkF m 118 #[.val (.int pa), .val (.int pb), .val (.int pc), .val (.int pd), .val (.int pe), .val (.int pm), .val (.int j18_s0), .val (.int j38_s0), .val (.int j58_s0), .val (.int j79_s0), .val (.int ((pe &&& (255 : Int32)).toUInt32.toUInt16.toUInt32.toInt32)), .val (.int (((pm.toUInt32 >>> ((4 : Int32) &&& 31).toUInt32).toInt32) &&& (7 : Int32))), .val (.ref b105), .unset, .unset] [(.ref b105)])) rfl (by rw [hml]; rfl) (argsL := [(.ref b105)]) (rest := []) (lenOf pd__28Ljava_2flang_2fString_3b_29Ljava_2flang_2fString_3b rfl) rfl rfl (by show 2 * 0 + _ ≤ _; exact Nat.le_of_eq rfl) (hb hby at_118)
            obtain ⟨N111q, g111, rfl, K111, hd111⟩ := q111
            have hS := hS111
            have hZ := hZ111
            have hown := hown111
            refine own_stW st111 ?_
            have zK111 := K111.1
            have CR112 := CR106.trans CH111
            have N111 := Fr.app N105 N111q
            rcases hd111 with ⟨hh111, S111⟩ | ⟨hh111, rfl⟩
            · have A111 := S111.1
              show own_GoW p e below s _ _ _ _ _ (T111.setTop (mkF m 121 #[.val (.int pa), .val (.int pb), .val (.int pc), .val (.int pd), .val (.int pe), .val (.int pm), .val (.int j18_s0), .val (.int j38_s0), .val (.int j58_s0), .val (.int j79_s0), .val (.int ((pe &&& (255 : Int32)).toUInt32.toUInt16.toUInt32.toInt32)), .val (.int (((pm.toUInt32 >>> ((4 : Int32) &&& 31).toUInt32).toInt32) &&& (7 : Int32))), .val (.ref b105), .unset, .unset] [(.ref g111)]))
              refine own_stW (fun _ k => XS.astore X111.here hx rfl (hb hby at_121) rfl rfl (l' := #[.val (.int pa), .val (.int pb), .val (.int pc), .val (.int pd), .val (.int pe), .val (.int pm), .val (.int j18_s0), .val (.int j38_s0), .val (.int j58_s0), .val (.int j79_s0), .val (.int ((pe &&& (255 : Int32)).toUInt32.toUInt16.toUInt32.toInt32)), .val (.int (((pm.toUInt32 >>> ((4 : Int32) &&& 31).toUInt32).toInt32) &&& (7 : Int32))), .val (.ref b105), .val (.ref g111), .unset]) rfl k) ?_
              show own_GoW p e below s _ _ _ _ _ (T111.setTop (mkF m 123 #[.val (.int pa), .val (.int pb), .val (.int pc), .val (.int pd), .val (.int pe), .val (.int pm), .val (.int j18_s0), .val (.int j38_s0), .val (.int j58_s0), .val (.int j79_s0), .val (.int ((pe &&& (255 : Int32)).toUInt32.toUInt16.toUInt32.toInt32)), .val (.int (((pm.toUInt32 >>> ((4 : Int32) &&& 31).toUInt32).toInt32) &&& (7 : Int32))), .val (.ref b105), .val (.ref g111), .unset] []))
              refine own_stW (fun _ k => XS.aload X111.here hx rfl (hb hby at_123) rfl rfl k) ?_
              show own_GoW p e below s _ _ _ _ _ (T111.setTop (mkF m 125 #[.val (.int pa), .val (.int pb), .val (.int pc), .val (.int pd), .val (.int pe), .val (.int pm), .val (.int j18_s0), .val (.int j38_s0), .val (.int j58_s0), .val (.int j79_s0), .val (.int ((pe &&& (255 : Int32)).toUInt32.toUInt16.toUInt32.toInt32)), .val (.int (((pm.toUInt32 >>> ((4 : Int32) &&& 31).toUInt32).toInt32) &&& (7 : Int32))), .val (.ref b105), .val (.ref g111), .unset] [(.ref b105)]))
              refine own_stW (fun _ k => XS.ifnonnullYes X111.here hx rfl (pc0 := 125) (pc' := 139) rfl (hb hby at_125) rfl (by decide) (by decide) k) ?_
              show own_GoW p e below s _ _ _ _ _ (T111.setTop (mkF m 139 #[.val (.int pa), .val (.int pb), .val (.int pc), .val (.int pd), .val (.int pe), .val (.int pm), .val (.int j18_s0), .val (.int j38_s0), .val (.int j58_s0), .val (.int j79_s0), .val (.int ((pe &&& (255 : Int32)).toUInt32.toUInt16.toUInt32.toInt32)), .val (.int (((pm.toUInt32 >>> ((4 : Int32) &&& 31).toUInt32).toInt32) &&& (7 : Int32))), .val (.ref b105), .val (.ref g111), .unset] []))
              refine own_stW (fun _ k => XS.iload X111.here hx rfl (hb hby at_139) rfl k) ?_
              show own_GoW p e below s _ _ _ _ _ (T111.setTop (mkF m 141 #[.val (.int pa), .val (.int pb), .val (.int pc), .val (.int pd), .val (.int pe), .val (.int pm), .val (.int j18_s0), .val (.int j38_s0), .val (.int j58_s0), .val (.int j79_s0), .val (.int ((pe &&& (255 : Int32)).toUInt32.toUInt16.toUInt32.toInt32)), .val (.int (((pm.toUInt32 >>> ((4 : Int32) &&& 31).toUInt32).toInt32) &&& (7 : Int32))), .val (.ref b105), .val (.ref g111), .unset] [(.int (((pm.toUInt32 >>> ((4 : Int32) &&& 31).toUInt32).toInt32) &&& (7 : Int32)))]))
              refine own_stW (fun _ k => XS.iconst X111.here hx rfl (hb hby at_141) k) ?_
              show own_GoW p e below s _ _ _ _ _ (T111.setTop (mkF m 142 #[.val (.int pa), .val (.int pb), .val (.int pc), .val (.int pd), .val (.int pe), .val (.int pm), .val (.int j18_s0), .val (.int j38_s0), .val (.int j58_s0), .val (.int j79_s0), .val (.int ((pe &&& (255 : Int32)).toUInt32.toUInt16.toUInt32.toInt32)), .val (.int (((pm.toUInt32 >>> ((4 : Int32) &&& 31).toUInt32).toInt32) &&& (7 : Int32))), .val (.ref b105), .val (.ref g111), .unset] [(.int (4 : Int32)), (.int (((pm.toUInt32 >>> ((4 : Int32) &&& 31).toUInt32).toInt32) &&& (7 : Int32)))]))
              have J178 : ∀ (Tj : State) (Lj : List Loc) (j178_s0 : Int32), Stand p l e room_1 (s.setVm T111.vm) m #[(.int pa), (.int pb), (.int pc), (.int pd), (.int pe), (.int pm)] below meth c Tj Lj 8 50 → Tj.heap = h111 → Fr n0 Lj → (((((pm.toUInt32 >>> ((4 : Int32) &&& 31).toUInt32).toInt32) &&& (7 : Int32)) = (4 : Int32) ∧ j18_s0 = (72 : Int32) ∧ j38_s0 = (69 : Int32) ∧ j58_s0 = (65 : Int32) ∧ j79_s0 = (68 : Int32) ∧ j178_s0 = (1 : Int32)) ∨ ((((pm.toUInt32 >>> ((4 : Int32) &&& 31).toUInt32).toInt32) &&& (7 : Int32)) = (4 : Int32) ∧ j18_s0 = (72 : Int32) ∧ j38_s0 = (69 : Int32) ∧ j58_s0 = (65 : Int32) ∧ ¬ (j79_s0 = (68 : Int32)) ∧ j178_s0 = (0 : Int32)) ∨ ((((pm.toUInt32 >>> ((4 : Int32) &&& 31).toUInt32).toInt32) &&& (7 : Int32)) = (4 : Int32) ∧ j18_s0 = (72 : Int32) ∧ j38_s0 = (69 : Int32) ∧ ¬ (j58_s0 = (65 : Int32)) ∧ j178_s0 = (0 : Int32)) ∨ ((((pm.toUInt32 >>> ((4 : Int32) &&& 31).toUInt32).toInt32) &&& (7 : Int32)) = (4 : Int32) ∧ j18_s0 = (72 : Int32) ∧ ¬ (j38_s0 = (69 : Int32)) ∧ j178_s0 = (0 : Int32)) ∨ ((((pm.toUInt32 >>> ((4 : Int32) &&& 31).toUInt32).toInt32) &&& (7 : Int32)) = (4 : Int32) ∧ ¬ (j18_s0 = (72 : Int32)) ∧ j178_s0 = (0 : Int32)) ∨ (¬ ((((pm.toUInt32 >>> ((4 : Int32) &&& 31).toUInt32).toInt32) &&& (7 : Int32)) = (4 : Int32)) ∧ j178_s0 = (0 : Int32))) → own_GoW p e below s Z h0 (fun v h L => v = some (.int 1) ∧ Fr n0 L) room_1.cells room_1.slots (Tj.setTop (mkF m 178 #[.val (.int pa), .val (.int pb), .val (.int pc), .val (.int pd), .val (.int pe), .val (.int pm), .val (.int j18_s0), .val (.int j38_s0), .val (.int j58_s0), .val (.int j79_s0), .val (.int ((pe &&& (255 : Int32)).toUInt32.toUInt16.toUInt32.toInt32)), .val (.int (((pm.toUInt32 >>> ((4 : Int32) &&& 31).toUInt32).toInt32) &&& (7 : Int32))), .val (.ref b105), .val (.ref g111), .unset] [(.int j178_s0)])) := by
                intro TJ113 LJ113 j178_s0 XJ113 eJ113 NJ113 hJ178
                refine own_stW (fun _ k => XS.istore XJ113.here hx rfl (hb hby at_178) rfl (l' := #[.val (.int pa), .val (.int pb), .val (.int pc), .val (.int pd), .val (.int pe), .val (.int pm), .val (.int j18_s0), .val (.int j38_s0), .val (.int j58_s0), .val (.int j79_s0), .val (.int ((pe &&& (255 : Int32)).toUInt32.toUInt16.toUInt32.toInt32)), .val (.int (((pm.toUInt32 >>> ((4 : Int32) &&& 31).toUInt32).toInt32) &&& (7 : Int32))), .val (.ref b105), .val (.ref g111), .val (.int j178_s0)]) rfl k) ?_
                show own_GoW p e below s _ _ _ _ _ (TJ113.setTop (mkF m 180 #[.val (.int pa), .val (.int pb), .val (.int pc), .val (.int pd), .val (.int pe), .val (.int pm), .val (.int j18_s0), .val (.int j38_s0), .val (.int j58_s0), .val (.int j79_s0), .val (.int ((pe &&& (255 : Int32)).toUInt32.toUInt16.toUInt32.toInt32)), .val (.int (((pm.toUInt32 >>> ((4 : Int32) &&& 31).toUInt32).toInt32) &&& (7 : Int32))), .val (.ref b105), .val (.ref g111), .val (.int j178_s0)] []))
                refine own_stW (fun _ k => XS.iload XJ113.here hx rfl (hb hby at_180) rfl k) ?_
                show own_GoW p e below s _ _ _ _ _ (TJ113.setTop (mkF m 182 #[.val (.int pa), .val (.int pb), .val (.int pc), .val (.int pd), .val (.int pe), .val (.int pm), .val (.int j18_s0), .val (.int j38_s0), .val (.int j58_s0), .val (.int j79_s0), .val (.int ((pe &&& (255 : Int32)).toUInt32.toUInt16.toUInt32.toInt32)), .val (.int (((pm.toUInt32 >>> ((4 : Int32) &&& 31).toUInt32).toInt32) &&& (7 : Int32))), .val (.ref b105), .val (.ref g111), .val (.int j178_s0)] [(.int j178_s0)]))
                refine own_stW (fun _ k => XS.ifNo XJ113.here hx rfl (hb hby at_182) rfl ((if0 _ _).trans (feq (by
                  have HM := (own_mkHead hm105).mp hh111
                  rcases hJ178 with ⟨q0, q1, q2, q3, q4, rfl⟩ | ⟨q0, q1, q2, q3, q, rfl⟩ | ⟨q0, q1, q2, q, rfl⟩ | ⟨q0, q1, q, rfl⟩ | ⟨q0, q, rfl⟩ | ⟨q, rfl⟩
                  · decide
                  · exact absurd HM.2.2.2.2 q
                  · exact absurd HM.2.2.2.1 q
                  · exact absurd HM.2.2.1 q
                  · exact absurd HM.2.1 q
                  · exact absurd HM.1 q)).1) k) ?_
                show own_GoW p e below s _ _ _ _ _ (TJ113.setTop (mkF m 185 #[.val (.int pa), .val (.int pb), .val (.int pc), .val (.int pd), .val (.int pe), .val (.int pm), .val (.int j18_s0), .val (.int j38_s0), .val (.int j58_s0), .val (.int j79_s0), .val (.int ((pe &&& (255 : Int32)).toUInt32.toUInt16.toUInt32.toInt32)), .val (.int (((pm.toUInt32 >>> ((4 : Int32) &&& 31).toUInt32).toInt32) &&& (7 : Int32))), .val (.ref b105), .val (.ref g111), .val (.int j178_s0)] []))
                refine own_stW (fun _ k => XS.aload XJ113.here hx rfl (hb hby at_185) rfl rfl k) ?_
                show own_GoW p e below s _ _ _ _ _ (TJ113.setTop (mkF m 187 #[.val (.int pa), .val (.int pb), .val (.int pc), .val (.int pd), .val (.int pe), .val (.int pm), .val (.int j18_s0), .val (.int j38_s0), .val (.int j58_s0), .val (.int j79_s0), .val (.int ((pe &&& (255 : Int32)).toUInt32.toUInt16.toUInt32.toInt32)), .val (.int (((pm.toUInt32 >>> ((4 : Int32) &&& 31).toUInt32).toInt32) &&& (7 : Int32))), .val (.ref b105), .val (.ref g111), .val (.int j178_s0)] [(.ref g111)]))
                refine own_stW (fun _ k => XS.ifnullNo XJ113.here hx rfl (hb hby at_187) rfl k) ?_
                show own_GoW p e below s _ _ _ _ _ (TJ113.setTop (mkF m 190 #[.val (.int pa), .val (.int pb), .val (.int pc), .val (.int pd), .val (.int pe), .val (.int pm), .val (.int j18_s0), .val (.int j38_s0), .val (.int j58_s0), .val (.int j79_s0), .val (.int ((pe &&& (255 : Int32)).toUInt32.toUInt16.toUInt32.toInt32)), .val (.int (((pm.toUInt32 >>> ((4 : Int32) &&& 31).toUInt32).toInt32) &&& (7 : Int32))), .val (.ref b105), .val (.ref g111), .val (.int j178_s0)] []))
                refine own_stW (fun _ k => XS.aload XJ113.here hx rfl (hb hby at_190) rfl rfl k) ?_
                show own_GoW p e below s _ _ _ _ _ (TJ113.setTop (mkF m 192 #[.val (.int pa), .val (.int pb), .val (.int pc), .val (.int pd), .val (.int pe), .val (.int pm), .val (.int j18_s0), .val (.int j38_s0), .val (.int j58_s0), .val (.int j79_s0), .val (.int ((pe &&& (255 : Int32)).toUInt32.toUInt16.toUInt32.toInt32)), .val (.int (((pm.toUInt32 >>> ((4 : Int32) &&& 31).toUInt32).toInt32) &&& (7 : Int32))), .val (.ref b105), .val (.ref g111), .val (.int j178_s0)] [(.ref g111)]))
                have O114 : Old Z n0 h111 := O110.keep ((Keep.refl h105 []).trans K111 all0) all0
                obtain ⟨T115, v115, L115, h115, X115, e115, q115, st115⟩ := own_callV XJ113 hx hZ (y := (⟨"java/lang/String", "length", "()I"⟩ : MethodName)) (z := (⟨"java/lang/String", "length", "()I"⟩ : MethodName)) hown (hw _ (List.mem_of_getElem? (i := 54) rfl)) (hw _ (List.mem_of_getElem? (i := 55) rfl)) (notFace_of_selects (args := #[]) (mvT hZ (hw _ (List.mem_of_getElem? (i := 57) rfl)))) (hw _ (List.mem_of_getElem? (i := 57) rfl)) (hw _ (List.mem_of_getElem? (i := 56) rfl)) (by decide) (own_lenB (W := 0) hZ (own_wLen hw) (kI := 4) (hw _ (List.mem_of_getElem? (i := 5) rfl)) O114 CS S111 (by decide) (by decide)) eJ113 A111 (by decide) (by decide) (g := (mkF m 192 #[.val (.int pa), .val (.int pb), .val (.int pc), .val (.int pd), .val (.int pe), .val (.int pm), .val (.int j18_s0), .val (.int j38_s0), .val (.int j58_s0), .val (.int j79_s0), .val (.int ((pe &&& (255 : Int32)).toUInt32.toUInt16.toUInt32.toInt32)), .val (.int (((pm.toUInt32 >>> ((4 : Int32) &&& 31).toUInt32).toInt32) &&& (7 : Int32))), .val (.ref b105), .val (.ref g111), .val (.int j178_s0)] [(.ref g111)])) rfl (by rw [hml]; rfl) (argsL := []) (rest := []) (lenOf pd__28_29I rfl) rfl rfl (by show 2 * 0 + _ ≤ _; exact Nat.le_of_eq rfl) (hb hby at_192)
                obtain ⟨rfl, N115q, hq115⟩ := q115
                replace e115 := e115.trans hq115
                refine own_stW st115 ?_
                have N115 := Fr.app NJ113 N115q
                show own_GoW p e below s _ _ _ _ _ (T115.setTop (mkF m 195 #[.val (.int pa), .val (.int pb), .val (.int pc), .val (.int pd), .val (.int pe), .val (.int pm), .val (.int j18_s0), .val (.int j38_s0), .val (.int j58_s0), .val (.int j79_s0), .val (.int ((pe &&& (255 : Int32)).toUInt32.toUInt16.toUInt32.toInt32)), .val (.int (((pm.toUInt32 >>> ((4 : Int32) &&& 31).toUInt32).toInt32) &&& (7 : Int32))), .val (.ref b105), .val (.ref g111), .val (.int j178_s0)] [(.int (3 : Int32))]))
                refine own_stW (fun _ k => XS.iconst X115.here hx rfl (hb hby at_195) k) ?_
                show own_GoW p e below s _ _ _ _ _ (T115.setTop (mkF m 196 #[.val (.int pa), .val (.int pb), .val (.int pc), .val (.int pd), .val (.int pe), .val (.int pm), .val (.int j18_s0), .val (.int j38_s0), .val (.int j58_s0), .val (.int j79_s0), .val (.int ((pe &&& (255 : Int32)).toUInt32.toUInt16.toUInt32.toInt32)), .val (.int (((pm.toUInt32 >>> ((4 : Int32) &&& 31).toUInt32).toInt32) &&& (7 : Int32))), .val (.ref b105), .val (.ref g111), .val (.int j178_s0)] [(.int (3 : Int32)), (.int (3 : Int32))]))
                refine own_stW (fun _ k => XS.icmpNo X115.here hx rfl (hb hby at_196) rfl (teq (by decide)).2 k) ?_
                show own_GoW p e below s _ _ _ _ _ (T115.setTop (mkF m 199 #[.val (.int pa), .val (.int pb), .val (.int pc), .val (.int pd), .val (.int pe), .val (.int pm), .val (.int j18_s0), .val (.int j38_s0), .val (.int j58_s0), .val (.int j79_s0), .val (.int ((pe &&& (255 : Int32)).toUInt32.toUInt16.toUInt32.toInt32)), .val (.int (((pm.toUInt32 >>> ((4 : Int32) &&& 31).toUInt32).toInt32) &&& (7 : Int32))), .val (.ref b105), .val (.ref g111), .val (.int j178_s0)] []))
                refine own_stW (fun _ k => XS.aload X115.here hx rfl (hb hby at_199) rfl rfl k) ?_
                show own_GoW p e below s _ _ _ _ _ (T115.setTop (mkF m 201 #[.val (.int pa), .val (.int pb), .val (.int pc), .val (.int pd), .val (.int pe), .val (.int pm), .val (.int j18_s0), .val (.int j38_s0), .val (.int j58_s0), .val (.int j79_s0), .val (.int ((pe &&& (255 : Int32)).toUInt32.toUInt16.toUInt32.toInt32)), .val (.int (((pm.toUInt32 >>> ((4 : Int32) &&& 31).toUInt32).toInt32) &&& (7 : Int32))), .val (.ref b105), .val (.ref g111), .val (.int j178_s0)] [(.ref g111)]))
                refine own_stW (fun _ k => XS.iconst X115.here hx rfl (hb hby at_201) k) ?_
                show own_GoW p e below s _ _ _ _ _ (T115.setTop (mkF m 202 #[.val (.int pa), .val (.int pb), .val (.int pc), .val (.int pd), .val (.int pe), .val (.int pm), .val (.int j18_s0), .val (.int j38_s0), .val (.int j58_s0), .val (.int j79_s0), .val (.int ((pe &&& (255 : Int32)).toUInt32.toUInt16.toUInt32.toInt32)), .val (.int (((pm.toUInt32 >>> ((4 : Int32) &&& 31).toUInt32).toInt32) &&& (7 : Int32))), .val (.ref b105), .val (.ref g111), .val (.int j178_s0)] [(.int (0 : Int32)), (.ref g111)]))
                obtain ⟨T116, v116, L116, h116, X116, e116, q116, st116⟩ := own_callV X115 hx hZ (y := (⟨"java/lang/String", "charAt", "(I)C"⟩ : MethodName)) (z := (⟨"java/lang/String", "charAt", "(I)C"⟩ : MethodName)) hown (hw _ (List.mem_of_getElem? (i := 64) rfl)) (hw _ (List.mem_of_getElem? (i := 65) rfl)) (notFace_of_selects (args := #[]) (mvT hZ (hw _ (List.mem_of_getElem? (i := 67) rfl)))) (hw _ (List.mem_of_getElem? (i := 67) rfl)) (hw _ (List.mem_of_getElem? (i := 66) rfl)) (by decide) (own_chB (W := 0) hZ (own_wCh hw) (kI := 4) (hw _ (List.mem_of_getElem? (i := 5) rfl)) (i := 0) O114 CS FM S111 (by decide) (by decide) rfl (by decide) (by decide)) e115 A111 (by decide) (by decide) (g := (mkF m 202 #[.val (.int pa), .val (.int pb), .val (.int pc), .val (.int pd), .val (.int pe), .val (.int pm), .val (.int j18_s0), .val (.int j38_s0), .val (.int j58_s0), .val (.int j79_s0), .val (.int ((pe &&& (255 : Int32)).toUInt32.toUInt16.toUInt32.toInt32)), .val (.int (((pm.toUInt32 >>> ((4 : Int32) &&& 31).toUInt32).toInt32) &&& (7 : Int32))), .val (.ref b105), .val (.ref g111), .val (.int j178_s0)] [(.int (0 : Int32)), (.ref g111)])) rfl (by rw [hml]; rfl) (argsL := [(.int (0 : Int32))]) (rest := []) (lenOf pd__28I_29C rfl) rfl rfl (by show 2 * 0 + _ ≤ _; exact Nat.le_of_eq rfl) (hb hby at_202)
                obtain ⟨rfl, N116q, hq116⟩ := q116
                replace e116 := e116.trans hq116
                refine own_stW st116 ?_
                have N116 := Fr.app N115 N116q
                show own_GoW p e below s _ _ _ _ _ (T116.setTop (mkF m 205 #[.val (.int pa), .val (.int pb), .val (.int pc), .val (.int pd), .val (.int pe), .val (.int pm), .val (.int j18_s0), .val (.int j38_s0), .val (.int j58_s0), .val (.int j79_s0), .val (.int ((pe &&& (255 : Int32)).toUInt32.toUInt16.toUInt32.toInt32)), .val (.int (((pm.toUInt32 >>> ((4 : Int32) &&& 31).toUInt32).toInt32) &&& (7 : Int32))), .val (.ref b105), .val (.ref g111), .val (.int j178_s0)] [(.int (own_GET.getD 0 0))]))
                refine own_stW (fun _ k => XS.bipush X116.here hx rfl (hb hby at_205) k) ?_
                show own_GoW p e below s _ _ _ _ _ (T116.setTop (mkF m 207 #[.val (.int pa), .val (.int pb), .val (.int pc), .val (.int pd), .val (.int pe), .val (.int pm), .val (.int j18_s0), .val (.int j38_s0), .val (.int j58_s0), .val (.int j79_s0), .val (.int ((pe &&& (255 : Int32)).toUInt32.toUInt16.toUInt32.toInt32)), .val (.int (((pm.toUInt32 >>> ((4 : Int32) &&& 31).toUInt32).toInt32) &&& (7 : Int32))), .val (.ref b105), .val (.ref g111), .val (.int j178_s0)] [(.int (71 : Int32)), (.int (own_GET.getD 0 0))]))
                refine own_stW (fun _ k => XS.icmpNo X116.here hx rfl (hb hby at_207) rfl (teq (by decide)).2 k) ?_
                show own_GoW p e below s _ _ _ _ _ (T116.setTop (mkF m 210 #[.val (.int pa), .val (.int pb), .val (.int pc), .val (.int pd), .val (.int pe), .val (.int pm), .val (.int j18_s0), .val (.int j38_s0), .val (.int j58_s0), .val (.int j79_s0), .val (.int ((pe &&& (255 : Int32)).toUInt32.toUInt16.toUInt32.toInt32)), .val (.int (((pm.toUInt32 >>> ((4 : Int32) &&& 31).toUInt32).toInt32) &&& (7 : Int32))), .val (.ref b105), .val (.ref g111), .val (.int j178_s0)] []))
                refine own_stW (fun _ k => XS.aload X116.here hx rfl (hb hby at_210) rfl rfl k) ?_
                show own_GoW p e below s _ _ _ _ _ (T116.setTop (mkF m 212 #[.val (.int pa), .val (.int pb), .val (.int pc), .val (.int pd), .val (.int pe), .val (.int pm), .val (.int j18_s0), .val (.int j38_s0), .val (.int j58_s0), .val (.int j79_s0), .val (.int ((pe &&& (255 : Int32)).toUInt32.toUInt16.toUInt32.toInt32)), .val (.int (((pm.toUInt32 >>> ((4 : Int32) &&& 31).toUInt32).toInt32) &&& (7 : Int32))), .val (.ref b105), .val (.ref g111), .val (.int j178_s0)] [(.ref g111)]))
                refine own_stW (fun _ k => XS.iconst X116.here hx rfl (hb hby at_212) k) ?_
                show own_GoW p e below s _ _ _ _ _ (T116.setTop (mkF m 213 #[.val (.int pa), .val (.int pb), .val (.int pc), .val (.int pd), .val (.int pe), .val (.int pm), .val (.int j18_s0), .val (.int j38_s0), .val (.int j58_s0), .val (.int j79_s0), .val (.int ((pe &&& (255 : Int32)).toUInt32.toUInt16.toUInt32.toInt32)), .val (.int (((pm.toUInt32 >>> ((4 : Int32) &&& 31).toUInt32).toInt32) &&& (7 : Int32))), .val (.ref b105), .val (.ref g111), .val (.int j178_s0)] [(.int (1 : Int32)), (.ref g111)]))
                obtain ⟨T117, v117, L117, h117, X117, e117, q117, st117⟩ := own_callV X116 hx hZ (y := (⟨"java/lang/String", "charAt", "(I)C"⟩ : MethodName)) (z := (⟨"java/lang/String", "charAt", "(I)C"⟩ : MethodName)) hown (hw _ (List.mem_of_getElem? (i := 64) rfl)) (hw _ (List.mem_of_getElem? (i := 65) rfl)) (notFace_of_selects (args := #[]) (mvT hZ (hw _ (List.mem_of_getElem? (i := 67) rfl)))) (hw _ (List.mem_of_getElem? (i := 67) rfl)) (hw _ (List.mem_of_getElem? (i := 66) rfl)) (by decide) (own_chB (W := 0) hZ (own_wCh hw) (kI := 4) (hw _ (List.mem_of_getElem? (i := 5) rfl)) (i := 1) O114 CS FM S111 (by decide) (by decide) rfl (by decide) (by decide)) e116 A111 (by decide) (by decide) (g := (mkF m 213 #[.val (.int pa), .val (.int pb), .val (.int pc), .val (.int pd), .val (.int pe), .val (.int pm), .val (.int j18_s0), .val (.int j38_s0), .val (.int j58_s0), .val (.int j79_s0), .val (.int ((pe &&& (255 : Int32)).toUInt32.toUInt16.toUInt32.toInt32)), .val (.int (((pm.toUInt32 >>> ((4 : Int32) &&& 31).toUInt32).toInt32) &&& (7 : Int32))), .val (.ref b105), .val (.ref g111), .val (.int j178_s0)] [(.int (1 : Int32)), (.ref g111)])) rfl (by rw [hml]; rfl) (argsL := [(.int (1 : Int32))]) (rest := []) (lenOf pd__28I_29C rfl) rfl rfl (by show 2 * 0 + _ ≤ _; exact Nat.le_of_eq rfl) (hb hby at_213)
                obtain ⟨rfl, N117q, hq117⟩ := q117
                replace e117 := e117.trans hq117
                refine own_stW st117 ?_
                have N117 := Fr.app N116 N117q
                show own_GoW p e below s _ _ _ _ _ (T117.setTop (mkF m 216 #[.val (.int pa), .val (.int pb), .val (.int pc), .val (.int pd), .val (.int pe), .val (.int pm), .val (.int j18_s0), .val (.int j38_s0), .val (.int j58_s0), .val (.int j79_s0), .val (.int ((pe &&& (255 : Int32)).toUInt32.toUInt16.toUInt32.toInt32)), .val (.int (((pm.toUInt32 >>> ((4 : Int32) &&& 31).toUInt32).toInt32) &&& (7 : Int32))), .val (.ref b105), .val (.ref g111), .val (.int j178_s0)] [(.int (own_GET.getD 1 0))]))
                refine own_stW (fun _ k => XS.bipush X117.here hx rfl (hb hby at_216) k) ?_
                show own_GoW p e below s _ _ _ _ _ (T117.setTop (mkF m 218 #[.val (.int pa), .val (.int pb), .val (.int pc), .val (.int pd), .val (.int pe), .val (.int pm), .val (.int j18_s0), .val (.int j38_s0), .val (.int j58_s0), .val (.int j79_s0), .val (.int ((pe &&& (255 : Int32)).toUInt32.toUInt16.toUInt32.toInt32)), .val (.int (((pm.toUInt32 >>> ((4 : Int32) &&& 31).toUInt32).toInt32) &&& (7 : Int32))), .val (.ref b105), .val (.ref g111), .val (.int j178_s0)] [(.int (69 : Int32)), (.int (own_GET.getD 1 0))]))
                refine own_stW (fun _ k => XS.icmpNo X117.here hx rfl (hb hby at_218) rfl (teq (by decide)).2 k) ?_
                show own_GoW p e below s _ _ _ _ _ (T117.setTop (mkF m 221 #[.val (.int pa), .val (.int pb), .val (.int pc), .val (.int pd), .val (.int pe), .val (.int pm), .val (.int j18_s0), .val (.int j38_s0), .val (.int j58_s0), .val (.int j79_s0), .val (.int ((pe &&& (255 : Int32)).toUInt32.toUInt16.toUInt32.toInt32)), .val (.int (((pm.toUInt32 >>> ((4 : Int32) &&& 31).toUInt32).toInt32) &&& (7 : Int32))), .val (.ref b105), .val (.ref g111), .val (.int j178_s0)] []))
                refine own_stW (fun _ k => XS.aload X117.here hx rfl (hb hby at_221) rfl rfl k) ?_
                show own_GoW p e below s _ _ _ _ _ (T117.setTop (mkF m 223 #[.val (.int pa), .val (.int pb), .val (.int pc), .val (.int pd), .val (.int pe), .val (.int pm), .val (.int j18_s0), .val (.int j38_s0), .val (.int j58_s0), .val (.int j79_s0), .val (.int ((pe &&& (255 : Int32)).toUInt32.toUInt16.toUInt32.toInt32)), .val (.int (((pm.toUInt32 >>> ((4 : Int32) &&& 31).toUInt32).toInt32) &&& (7 : Int32))), .val (.ref b105), .val (.ref g111), .val (.int j178_s0)] [(.ref g111)]))
                refine own_stW (fun _ k => XS.iconst X117.here hx rfl (hb hby at_223) k) ?_
                show own_GoW p e below s _ _ _ _ _ (T117.setTop (mkF m 224 #[.val (.int pa), .val (.int pb), .val (.int pc), .val (.int pd), .val (.int pe), .val (.int pm), .val (.int j18_s0), .val (.int j38_s0), .val (.int j58_s0), .val (.int j79_s0), .val (.int ((pe &&& (255 : Int32)).toUInt32.toUInt16.toUInt32.toInt32)), .val (.int (((pm.toUInt32 >>> ((4 : Int32) &&& 31).toUInt32).toInt32) &&& (7 : Int32))), .val (.ref b105), .val (.ref g111), .val (.int j178_s0)] [(.int (2 : Int32)), (.ref g111)]))
                obtain ⟨T118, v118, L118, h118, X118, e118, q118, st118⟩ := own_callV X117 hx hZ (y := (⟨"java/lang/String", "charAt", "(I)C"⟩ : MethodName)) (z := (⟨"java/lang/String", "charAt", "(I)C"⟩ : MethodName)) hown (hw _ (List.mem_of_getElem? (i := 64) rfl)) (hw _ (List.mem_of_getElem? (i := 65) rfl)) (notFace_of_selects (args := #[]) (mvT hZ (hw _ (List.mem_of_getElem? (i := 67) rfl)))) (hw _ (List.mem_of_getElem? (i := 67) rfl)) (hw _ (List.mem_of_getElem? (i := 66) rfl)) (by decide) (own_chB (W := 0) hZ (own_wCh hw) (kI := 4) (hw _ (List.mem_of_getElem? (i := 5) rfl)) (i := 2) O114 CS FM S111 (by decide) (by decide) rfl (by decide) (by decide)) e117 A111 (by decide) (by decide) (g := (mkF m 224 #[.val (.int pa), .val (.int pb), .val (.int pc), .val (.int pd), .val (.int pe), .val (.int pm), .val (.int j18_s0), .val (.int j38_s0), .val (.int j58_s0), .val (.int j79_s0), .val (.int ((pe &&& (255 : Int32)).toUInt32.toUInt16.toUInt32.toInt32)), .val (.int (((pm.toUInt32 >>> ((4 : Int32) &&& 31).toUInt32).toInt32) &&& (7 : Int32))), .val (.ref b105), .val (.ref g111), .val (.int j178_s0)] [(.int (2 : Int32)), (.ref g111)])) rfl (by rw [hml]; rfl) (argsL := [(.int (2 : Int32))]) (rest := []) (lenOf pd__28I_29C rfl) rfl rfl (by show 2 * 0 + _ ≤ _; exact Nat.le_of_eq rfl) (hb hby at_224)
                obtain ⟨rfl, N118q, hq118⟩ := q118
                replace e118 := e118.trans hq118
                refine own_stW st118 ?_
                have N118 := Fr.app N117 N118q
                show own_GoW p e below s _ _ _ _ _ (T118.setTop (mkF m 227 #[.val (.int pa), .val (.int pb), .val (.int pc), .val (.int pd), .val (.int pe), .val (.int pm), .val (.int j18_s0), .val (.int j38_s0), .val (.int j58_s0), .val (.int j79_s0), .val (.int ((pe &&& (255 : Int32)).toUInt32.toUInt16.toUInt32.toInt32)), .val (.int (((pm.toUInt32 >>> ((4 : Int32) &&& 31).toUInt32).toInt32) &&& (7 : Int32))), .val (.ref b105), .val (.ref g111), .val (.int j178_s0)] [(.int (own_GET.getD 2 0))]))
                refine own_stW (fun _ k => XS.bipush X118.here hx rfl (hb hby at_227) k) ?_
                show own_GoW p e below s _ _ _ _ _ (T118.setTop (mkF m 229 #[.val (.int pa), .val (.int pb), .val (.int pc), .val (.int pd), .val (.int pe), .val (.int pm), .val (.int j18_s0), .val (.int j38_s0), .val (.int j58_s0), .val (.int j79_s0), .val (.int ((pe &&& (255 : Int32)).toUInt32.toUInt16.toUInt32.toInt32)), .val (.int (((pm.toUInt32 >>> ((4 : Int32) &&& 31).toUInt32).toInt32) &&& (7 : Int32))), .val (.ref b105), .val (.ref g111), .val (.int j178_s0)] [(.int (84 : Int32)), (.int (own_GET.getD 2 0))]))
                refine own_stW (fun _ k => XS.icmpNo X118.here hx rfl (hb hby at_229) rfl (teq (by decide)).2 k) ?_
                show own_GoW p e below s _ _ _ _ _ (T118.setTop (mkF m 232 #[.val (.int pa), .val (.int pb), .val (.int pc), .val (.int pd), .val (.int pe), .val (.int pm), .val (.int j18_s0), .val (.int j38_s0), .val (.int j58_s0), .val (.int j79_s0), .val (.int ((pe &&& (255 : Int32)).toUInt32.toUInt16.toUInt32.toInt32)), .val (.int (((pm.toUInt32 >>> ((4 : Int32) &&& 31).toUInt32).toInt32) &&& (7 : Int32))), .val (.ref b105), .val (.ref g111), .val (.int j178_s0)] []))
                refine own_stW (fun _ k => XS.iconst X118.here hx rfl (hb hby at_232) k) ?_
                show own_GoW p e below s _ _ _ _ _ (T118.setTop (mkF m 233 #[.val (.int pa), .val (.int pb), .val (.int pc), .val (.int pd), .val (.int pe), .val (.int pm), .val (.int j18_s0), .val (.int j38_s0), .val (.int j58_s0), .val (.int j79_s0), .val (.int ((pe &&& (255 : Int32)).toUInt32.toUInt16.toUInt32.toInt32)), .val (.int (((pm.toUInt32 >>> ((4 : Int32) &&& 31).toUInt32).toInt32) &&& (7 : Int32))), .val (.ref b105), .val (.ref g111), .val (.int j178_s0)] [(.int (1 : Int32))]))
                refine own_stW (fun _ k => XS.goto X118.here hx rfl (pc0 := 233) (pc' := 237) rfl (hb hby at_233) (by decide) (by decide) k) ?_
                show own_GoW p e below s _ _ _ _ _ (T118.setTop (mkF m 237 #[.val (.int pa), .val (.int pb), .val (.int pc), .val (.int pd), .val (.int pe), .val (.int pm), .val (.int j18_s0), .val (.int j38_s0), .val (.int j58_s0), .val (.int j79_s0), .val (.int ((pe &&& (255 : Int32)).toUInt32.toUInt16.toUInt32.toInt32)), .val (.int (((pm.toUInt32 >>> ((4 : Int32) &&& 31).toUInt32).toInt32) &&& (7 : Int32))), .val (.ref b105), .val (.ref g111), .val (.int j178_s0)] [(.int (1 : Int32))]))
                exact own_retW X118 hx hlk e118 hZ hEL hS (by omega) CR112 hret (by decide) (Or.inl ⟨rfl, Or.inr (Or.inl rfl), _, rfl⟩) (hb hby at_237) (by decide) (by decide) ⟨rfl, N118⟩
              by_cases c119 : (((pm.toUInt32 >>> ((4 : Int32) &&& 31).toUInt32).toInt32) &&& (7 : Int32)) = (4 : Int32)
              · refine own_stW (fun _ k => XS.icmpNo X111.here hx rfl (hb hby at_142) rfl (teq c119).2 k) ?_
                show own_GoW p e below s _ _ _ _ _ (T111.setTop (mkF m 145 #[.val (.int pa), .val (.int pb), .val (.int pc), .val (.int pd), .val (.int pe), .val (.int pm), .val (.int j18_s0), .val (.int j38_s0), .val (.int j58_s0), .val (.int j79_s0), .val (.int ((pe &&& (255 : Int32)).toUInt32.toUInt16.toUInt32.toInt32)), .val (.int (((pm.toUInt32 >>> ((4 : Int32) &&& 31).toUInt32).toInt32) &&& (7 : Int32))), .val (.ref b105), .val (.ref g111), .unset] []))
                refine own_stW (fun _ k => XS.iload X111.here hx rfl (hb hby at_145) rfl k) ?_
                show own_GoW p e below s _ _ _ _ _ (T111.setTop (mkF m 147 #[.val (.int pa), .val (.int pb), .val (.int pc), .val (.int pd), .val (.int pe), .val (.int pm), .val (.int j18_s0), .val (.int j38_s0), .val (.int j58_s0), .val (.int j79_s0), .val (.int ((pe &&& (255 : Int32)).toUInt32.toUInt16.toUInt32.toInt32)), .val (.int (((pm.toUInt32 >>> ((4 : Int32) &&& 31).toUInt32).toInt32) &&& (7 : Int32))), .val (.ref b105), .val (.ref g111), .unset] [(.int j18_s0)]))
                refine own_stW (fun _ k => XS.bipush X111.here hx rfl (hb hby at_147) k) ?_
                show own_GoW p e below s _ _ _ _ _ (T111.setTop (mkF m 149 #[.val (.int pa), .val (.int pb), .val (.int pc), .val (.int pd), .val (.int pe), .val (.int pm), .val (.int j18_s0), .val (.int j38_s0), .val (.int j58_s0), .val (.int j79_s0), .val (.int ((pe &&& (255 : Int32)).toUInt32.toUInt16.toUInt32.toInt32)), .val (.int (((pm.toUInt32 >>> ((4 : Int32) &&& 31).toUInt32).toInt32) &&& (7 : Int32))), .val (.ref b105), .val (.ref g111), .unset] [(.int (72 : Int32)), (.int j18_s0)]))
                by_cases c120 : j18_s0 = (72 : Int32)
                · refine own_stW (fun _ k => XS.icmpNo X111.here hx rfl (hb hby at_149) rfl (teq c120).2 k) ?_
                  show own_GoW p e below s _ _ _ _ _ (T111.setTop (mkF m 152 #[.val (.int pa), .val (.int pb), .val (.int pc), .val (.int pd), .val (.int pe), .val (.int pm), .val (.int j18_s0), .val (.int j38_s0), .val (.int j58_s0), .val (.int j79_s0), .val (.int ((pe &&& (255 : Int32)).toUInt32.toUInt16.toUInt32.toInt32)), .val (.int (((pm.toUInt32 >>> ((4 : Int32) &&& 31).toUInt32).toInt32) &&& (7 : Int32))), .val (.ref b105), .val (.ref g111), .unset] []))
                  refine own_stW (fun _ k => XS.iload X111.here hx rfl (hb hby at_152) rfl k) ?_
                  show own_GoW p e below s _ _ _ _ _ (T111.setTop (mkF m 154 #[.val (.int pa), .val (.int pb), .val (.int pc), .val (.int pd), .val (.int pe), .val (.int pm), .val (.int j18_s0), .val (.int j38_s0), .val (.int j58_s0), .val (.int j79_s0), .val (.int ((pe &&& (255 : Int32)).toUInt32.toUInt16.toUInt32.toInt32)), .val (.int (((pm.toUInt32 >>> ((4 : Int32) &&& 31).toUInt32).toInt32) &&& (7 : Int32))), .val (.ref b105), .val (.ref g111), .unset] [(.int j38_s0)]))
                  refine own_stW (fun _ k => XS.bipush X111.here hx rfl (hb hby at_154) k) ?_
                  show own_GoW p e below s _ _ _ _ _ (T111.setTop (mkF m 156 #[.val (.int pa), .val (.int pb), .val (.int pc), .val (.int pd), .val (.int pe), .val (.int pm), .val (.int j18_s0), .val (.int j38_s0), .val (.int j58_s0), .val (.int j79_s0), .val (.int ((pe &&& (255 : Int32)).toUInt32.toUInt16.toUInt32.toInt32)), .val (.int (((pm.toUInt32 >>> ((4 : Int32) &&& 31).toUInt32).toInt32) &&& (7 : Int32))), .val (.ref b105), .val (.ref g111), .unset] [(.int (69 : Int32)), (.int j38_s0)]))
                  by_cases c121 : j38_s0 = (69 : Int32)
                  · refine own_stW (fun _ k => XS.icmpNo X111.here hx rfl (hb hby at_156) rfl (teq c121).2 k) ?_
                    show own_GoW p e below s _ _ _ _ _ (T111.setTop (mkF m 159 #[.val (.int pa), .val (.int pb), .val (.int pc), .val (.int pd), .val (.int pe), .val (.int pm), .val (.int j18_s0), .val (.int j38_s0), .val (.int j58_s0), .val (.int j79_s0), .val (.int ((pe &&& (255 : Int32)).toUInt32.toUInt16.toUInt32.toInt32)), .val (.int (((pm.toUInt32 >>> ((4 : Int32) &&& 31).toUInt32).toInt32) &&& (7 : Int32))), .val (.ref b105), .val (.ref g111), .unset] []))
                    refine own_stW (fun _ k => XS.iload X111.here hx rfl (hb hby at_159) rfl k) ?_
                    show own_GoW p e below s _ _ _ _ _ (T111.setTop (mkF m 161 #[.val (.int pa), .val (.int pb), .val (.int pc), .val (.int pd), .val (.int pe), .val (.int pm), .val (.int j18_s0), .val (.int j38_s0), .val (.int j58_s0), .val (.int j79_s0), .val (.int ((pe &&& (255 : Int32)).toUInt32.toUInt16.toUInt32.toInt32)), .val (.int (((pm.toUInt32 >>> ((4 : Int32) &&& 31).toUInt32).toInt32) &&& (7 : Int32))), .val (.ref b105), .val (.ref g111), .unset] [(.int j58_s0)]))
                    refine own_stW (fun _ k => XS.bipush X111.here hx rfl (hb hby at_161) k) ?_
                    show own_GoW p e below s _ _ _ _ _ (T111.setTop (mkF m 163 #[.val (.int pa), .val (.int pb), .val (.int pc), .val (.int pd), .val (.int pe), .val (.int pm), .val (.int j18_s0), .val (.int j38_s0), .val (.int j58_s0), .val (.int j79_s0), .val (.int ((pe &&& (255 : Int32)).toUInt32.toUInt16.toUInt32.toInt32)), .val (.int (((pm.toUInt32 >>> ((4 : Int32) &&& 31).toUInt32).toInt32) &&& (7 : Int32))), .val (.ref b105), .val (.ref g111), .unset] [(.int (65 : Int32)), (.int j58_s0)]))
                    by_cases c122 : j58_s0 = (65 : Int32)
                    · refine own_stW (fun _ k => XS.icmpNo X111.here hx rfl (hb hby at_163) rfl (teq c122).2 k) ?_
                      show own_GoW p e below s _ _ _ _ _ (T111.setTop (mkF m 166 #[.val (.int pa), .val (.int pb), .val (.int pc), .val (.int pd), .val (.int pe), .val (.int pm), .val (.int j18_s0), .val (.int j38_s0), .val (.int j58_s0), .val (.int j79_s0), .val (.int ((pe &&& (255 : Int32)).toUInt32.toUInt16.toUInt32.toInt32)), .val (.int (((pm.toUInt32 >>> ((4 : Int32) &&& 31).toUInt32).toInt32) &&& (7 : Int32))), .val (.ref b105), .val (.ref g111), .unset] []))
                      refine own_stW (fun _ k => XS.iload X111.here hx rfl (hb hby at_166) rfl k) ?_
                      show own_GoW p e below s _ _ _ _ _ (T111.setTop (mkF m 168 #[.val (.int pa), .val (.int pb), .val (.int pc), .val (.int pd), .val (.int pe), .val (.int pm), .val (.int j18_s0), .val (.int j38_s0), .val (.int j58_s0), .val (.int j79_s0), .val (.int ((pe &&& (255 : Int32)).toUInt32.toUInt16.toUInt32.toInt32)), .val (.int (((pm.toUInt32 >>> ((4 : Int32) &&& 31).toUInt32).toInt32) &&& (7 : Int32))), .val (.ref b105), .val (.ref g111), .unset] [(.int j79_s0)]))
                      refine own_stW (fun _ k => XS.bipush X111.here hx rfl (hb hby at_168) k) ?_
                      show own_GoW p e below s _ _ _ _ _ (T111.setTop (mkF m 170 #[.val (.int pa), .val (.int pb), .val (.int pc), .val (.int pd), .val (.int pe), .val (.int pm), .val (.int j18_s0), .val (.int j38_s0), .val (.int j58_s0), .val (.int j79_s0), .val (.int ((pe &&& (255 : Int32)).toUInt32.toUInt16.toUInt32.toInt32)), .val (.int (((pm.toUInt32 >>> ((4 : Int32) &&& 31).toUInt32).toInt32) &&& (7 : Int32))), .val (.ref b105), .val (.ref g111), .unset] [(.int (68 : Int32)), (.int j79_s0)]))
                      by_cases c123 : j79_s0 = (68 : Int32)
                      · refine own_stW (fun _ k => XS.icmpNo X111.here hx rfl (hb hby at_170) rfl (teq c123).2 k) ?_
                        show own_GoW p e below s _ _ _ _ _ (T111.setTop (mkF m 173 #[.val (.int pa), .val (.int pb), .val (.int pc), .val (.int pd), .val (.int pe), .val (.int pm), .val (.int j18_s0), .val (.int j38_s0), .val (.int j58_s0), .val (.int j79_s0), .val (.int ((pe &&& (255 : Int32)).toUInt32.toUInt16.toUInt32.toInt32)), .val (.int (((pm.toUInt32 >>> ((4 : Int32) &&& 31).toUInt32).toInt32) &&& (7 : Int32))), .val (.ref b105), .val (.ref g111), .unset] []))
                        refine own_stW (fun _ k => XS.iconst X111.here hx rfl (hb hby at_173) k) ?_
                        show own_GoW p e below s _ _ _ _ _ (T111.setTop (mkF m 174 #[.val (.int pa), .val (.int pb), .val (.int pc), .val (.int pd), .val (.int pe), .val (.int pm), .val (.int j18_s0), .val (.int j38_s0), .val (.int j58_s0), .val (.int j79_s0), .val (.int ((pe &&& (255 : Int32)).toUInt32.toUInt16.toUInt32.toInt32)), .val (.int (((pm.toUInt32 >>> ((4 : Int32) &&& 31).toUInt32).toInt32) &&& (7 : Int32))), .val (.ref b105), .val (.ref g111), .unset] [(.int (1 : Int32))]))
                        refine own_stW (fun _ k => XS.goto X111.here hx rfl (pc0 := 174) (pc' := 178) rfl (hb hby at_174) (by decide) (by decide) k) ?_
                        show own_GoW p e below s _ _ _ _ _ (T111.setTop (mkF m 178 #[.val (.int pa), .val (.int pb), .val (.int pc), .val (.int pd), .val (.int pe), .val (.int pm), .val (.int j18_s0), .val (.int j38_s0), .val (.int j58_s0), .val (.int j79_s0), .val (.int ((pe &&& (255 : Int32)).toUInt32.toUInt16.toUInt32.toInt32)), .val (.int (((pm.toUInt32 >>> ((4 : Int32) &&& 31).toUInt32).toInt32) &&& (7 : Int32))), .val (.ref b105), .val (.ref g111), .unset] [(.int (1 : Int32))]))
                        exact J178 _ _ _ X111 e111 N111 (Or.inl ⟨c119, c120, c121, c122, c123, rfl⟩)
                      · refine own_stW (fun _ k => XS.icmpYes X111.here hx rfl (pc0 := 170) (pc' := 177) rfl (hb hby at_170) rfl (feq c123).2 (by decide) (by decide) k) ?_
                        show own_GoW p e below s _ _ _ _ _ (T111.setTop (mkF m 177 #[.val (.int pa), .val (.int pb), .val (.int pc), .val (.int pd), .val (.int pe), .val (.int pm), .val (.int j18_s0), .val (.int j38_s0), .val (.int j58_s0), .val (.int j79_s0), .val (.int ((pe &&& (255 : Int32)).toUInt32.toUInt16.toUInt32.toInt32)), .val (.int (((pm.toUInt32 >>> ((4 : Int32) &&& 31).toUInt32).toInt32) &&& (7 : Int32))), .val (.ref b105), .val (.ref g111), .unset] []))
                        refine own_stW (fun _ k => XS.iconst X111.here hx rfl (hb hby at_177) k) ?_
                        show own_GoW p e below s _ _ _ _ _ (T111.setTop (mkF m 178 #[.val (.int pa), .val (.int pb), .val (.int pc), .val (.int pd), .val (.int pe), .val (.int pm), .val (.int j18_s0), .val (.int j38_s0), .val (.int j58_s0), .val (.int j79_s0), .val (.int ((pe &&& (255 : Int32)).toUInt32.toUInt16.toUInt32.toInt32)), .val (.int (((pm.toUInt32 >>> ((4 : Int32) &&& 31).toUInt32).toInt32) &&& (7 : Int32))), .val (.ref b105), .val (.ref g111), .unset] [(.int (0 : Int32))]))
                        exact J178 _ _ _ X111 e111 N111 (Or.inr (Or.inl ⟨c119, c120, c121, c122, c123, rfl⟩))
                    · refine own_stW (fun _ k => XS.icmpYes X111.here hx rfl (pc0 := 163) (pc' := 177) rfl (hb hby at_163) rfl (feq c122).2 (by decide) (by decide) k) ?_
                      show own_GoW p e below s _ _ _ _ _ (T111.setTop (mkF m 177 #[.val (.int pa), .val (.int pb), .val (.int pc), .val (.int pd), .val (.int pe), .val (.int pm), .val (.int j18_s0), .val (.int j38_s0), .val (.int j58_s0), .val (.int j79_s0), .val (.int ((pe &&& (255 : Int32)).toUInt32.toUInt16.toUInt32.toInt32)), .val (.int (((pm.toUInt32 >>> ((4 : Int32) &&& 31).toUInt32).toInt32) &&& (7 : Int32))), .val (.ref b105), .val (.ref g111), .unset] []))
                      refine own_stW (fun _ k => XS.iconst X111.here hx rfl (hb hby at_177) k) ?_
                      show own_GoW p e below s _ _ _ _ _ (T111.setTop (mkF m 178 #[.val (.int pa), .val (.int pb), .val (.int pc), .val (.int pd), .val (.int pe), .val (.int pm), .val (.int j18_s0), .val (.int j38_s0), .val (.int j58_s0), .val (.int j79_s0), .val (.int ((pe &&& (255 : Int32)).toUInt32.toUInt16.toUInt32.toInt32)), .val (.int (((pm.toUInt32 >>> ((4 : Int32) &&& 31).toUInt32).toInt32) &&& (7 : Int32))), .val (.ref b105), .val (.ref g111), .unset] [(.int (0 : Int32))]))
                      exact J178 _ _ _ X111 e111 N111 (Or.inr (Or.inr (Or.inl ⟨c119, c120, c121, c122, rfl⟩)))
                  · refine own_stW (fun _ k => XS.icmpYes X111.here hx rfl (pc0 := 156) (pc' := 177) rfl (hb hby at_156) rfl (feq c121).2 (by decide) (by decide) k) ?_
                    show own_GoW p e below s _ _ _ _ _ (T111.setTop (mkF m 177 #[.val (.int pa), .val (.int pb), .val (.int pc), .val (.int pd), .val (.int pe), .val (.int pm), .val (.int j18_s0), .val (.int j38_s0), .val (.int j58_s0), .val (.int j79_s0), .val (.int ((pe &&& (255 : Int32)).toUInt32.toUInt16.toUInt32.toInt32)), .val (.int (((pm.toUInt32 >>> ((4 : Int32) &&& 31).toUInt32).toInt32) &&& (7 : Int32))), .val (.ref b105), .val (.ref g111), .unset] []))
                    refine own_stW (fun _ k => XS.iconst X111.here hx rfl (hb hby at_177) k) ?_
                    show own_GoW p e below s _ _ _ _ _ (T111.setTop (mkF m 178 #[.val (.int pa), .val (.int pb), .val (.int pc), .val (.int pd), .val (.int pe), .val (.int pm), .val (.int j18_s0), .val (.int j38_s0), .val (.int j58_s0), .val (.int j79_s0), .val (.int ((pe &&& (255 : Int32)).toUInt32.toUInt16.toUInt32.toInt32)), .val (.int (((pm.toUInt32 >>> ((4 : Int32) &&& 31).toUInt32).toInt32) &&& (7 : Int32))), .val (.ref b105), .val (.ref g111), .unset] [(.int (0 : Int32))]))
                    exact J178 _ _ _ X111 e111 N111 (Or.inr (Or.inr (Or.inr (Or.inl ⟨c119, c120, c121, rfl⟩))))
                · refine own_stW (fun _ k => XS.icmpYes X111.here hx rfl (pc0 := 149) (pc' := 177) rfl (hb hby at_149) rfl (feq c120).2 (by decide) (by decide) k) ?_
                  show own_GoW p e below s _ _ _ _ _ (T111.setTop (mkF m 177 #[.val (.int pa), .val (.int pb), .val (.int pc), .val (.int pd), .val (.int pe), .val (.int pm), .val (.int j18_s0), .val (.int j38_s0), .val (.int j58_s0), .val (.int j79_s0), .val (.int ((pe &&& (255 : Int32)).toUInt32.toUInt16.toUInt32.toInt32)), .val (.int (((pm.toUInt32 >>> ((4 : Int32) &&& 31).toUInt32).toInt32) &&& (7 : Int32))), .val (.ref b105), .val (.ref g111), .unset] []))
                  refine own_stW (fun _ k => XS.iconst X111.here hx rfl (hb hby at_177) k) ?_
                  show own_GoW p e below s _ _ _ _ _ (T111.setTop (mkF m 178 #[.val (.int pa), .val (.int pb), .val (.int pc), .val (.int pd), .val (.int pe), .val (.int pm), .val (.int j18_s0), .val (.int j38_s0), .val (.int j58_s0), .val (.int j79_s0), .val (.int ((pe &&& (255 : Int32)).toUInt32.toUInt16.toUInt32.toInt32)), .val (.int (((pm.toUInt32 >>> ((4 : Int32) &&& 31).toUInt32).toInt32) &&& (7 : Int32))), .val (.ref b105), .val (.ref g111), .unset] [(.int (0 : Int32))]))
                  exact J178 _ _ _ X111 e111 N111 (Or.inr (Or.inr (Or.inr (Or.inr (Or.inl ⟨c119, c120, rfl⟩)))))
              · refine own_stW (fun _ k => XS.icmpYes X111.here hx rfl (pc0 := 142) (pc' := 177) rfl (hb hby at_142) rfl (feq c119).2 (by decide) (by decide) k) ?_
                show own_GoW p e below s _ _ _ _ _ (T111.setTop (mkF m 177 #[.val (.int pa), .val (.int pb), .val (.int pc), .val (.int pd), .val (.int pe), .val (.int pm), .val (.int j18_s0), .val (.int j38_s0), .val (.int j58_s0), .val (.int j79_s0), .val (.int ((pe &&& (255 : Int32)).toUInt32.toUInt16.toUInt32.toInt32)), .val (.int (((pm.toUInt32 >>> ((4 : Int32) &&& 31).toUInt32).toInt32) &&& (7 : Int32))), .val (.ref b105), .val (.ref g111), .unset] []))
                refine own_stW (fun _ k => XS.iconst X111.here hx rfl (hb hby at_177) k) ?_
                show own_GoW p e below s _ _ _ _ _ (T111.setTop (mkF m 178 #[.val (.int pa), .val (.int pb), .val (.int pc), .val (.int pd), .val (.int pe), .val (.int pm), .val (.int j18_s0), .val (.int j38_s0), .val (.int j58_s0), .val (.int j79_s0), .val (.int ((pe &&& (255 : Int32)).toUInt32.toUInt16.toUInt32.toInt32)), .val (.int (((pm.toUInt32 >>> ((4 : Int32) &&& 31).toUInt32).toInt32) &&& (7 : Int32))), .val (.ref b105), .val (.ref g111), .unset] [(.int (0 : Int32))]))
                exact J178 _ _ _ X111 e111 N111 (Or.inr (Or.inr (Or.inr (Or.inr (Or.inr ⟨c119, rfl⟩)))))
            · show own_GoW p e below s _ _ _ _ _ (T111.setTop (mkF m 121 #[.val (.int pa), .val (.int pb), .val (.int pc), .val (.int pd), .val (.int pe), .val (.int pm), .val (.int j18_s0), .val (.int j38_s0), .val (.int j58_s0), .val (.int j79_s0), .val (.int ((pe &&& (255 : Int32)).toUInt32.toUInt16.toUInt32.toInt32)), .val (.int (((pm.toUInt32 >>> ((4 : Int32) &&& 31).toUInt32).toInt32) &&& (7 : Int32))), .val (.ref b105), .unset, .unset] [(.ref b105)]))
              refine own_stW (fun _ k => XS.astore X111.here hx rfl (hb hby at_121) rfl rfl (l' := #[.val (.int pa), .val (.int pb), .val (.int pc), .val (.int pd), .val (.int pe), .val (.int pm), .val (.int j18_s0), .val (.int j38_s0), .val (.int j58_s0), .val (.int j79_s0), .val (.int ((pe &&& (255 : Int32)).toUInt32.toUInt16.toUInt32.toInt32)), .val (.int (((pm.toUInt32 >>> ((4 : Int32) &&& 31).toUInt32).toInt32) &&& (7 : Int32))), .val (.ref b105), .val (.ref b105), .unset]) rfl k) ?_
              show own_GoW p e below s _ _ _ _ _ (T111.setTop (mkF m 123 #[.val (.int pa), .val (.int pb), .val (.int pc), .val (.int pd), .val (.int pe), .val (.int pm), .val (.int j18_s0), .val (.int j38_s0), .val (.int j58_s0), .val (.int j79_s0), .val (.int ((pe &&& (255 : Int32)).toUInt32.toUInt16.toUInt32.toInt32)), .val (.int (((pm.toUInt32 >>> ((4 : Int32) &&& 31).toUInt32).toInt32) &&& (7 : Int32))), .val (.ref b105), .val (.ref b105), .unset] []))
              refine own_stW (fun _ k => XS.aload X111.here hx rfl (hb hby at_123) rfl rfl k) ?_
              show own_GoW p e below s _ _ _ _ _ (T111.setTop (mkF m 125 #[.val (.int pa), .val (.int pb), .val (.int pc), .val (.int pd), .val (.int pe), .val (.int pm), .val (.int j18_s0), .val (.int j38_s0), .val (.int j58_s0), .val (.int j79_s0), .val (.int ((pe &&& (255 : Int32)).toUInt32.toUInt16.toUInt32.toInt32)), .val (.int (((pm.toUInt32 >>> ((4 : Int32) &&& 31).toUInt32).toInt32) &&& (7 : Int32))), .val (.ref b105), .val (.ref b105), .unset] [(.ref b105)]))
              refine own_stW (fun _ k => XS.ifnonnullYes X111.here hx rfl (pc0 := 125) (pc' := 139) rfl (hb hby at_125) rfl (by decide) (by decide) k) ?_
              show own_GoW p e below s _ _ _ _ _ (T111.setTop (mkF m 139 #[.val (.int pa), .val (.int pb), .val (.int pc), .val (.int pd), .val (.int pe), .val (.int pm), .val (.int j18_s0), .val (.int j38_s0), .val (.int j58_s0), .val (.int j79_s0), .val (.int ((pe &&& (255 : Int32)).toUInt32.toUInt16.toUInt32.toInt32)), .val (.int (((pm.toUInt32 >>> ((4 : Int32) &&& 31).toUInt32).toInt32) &&& (7 : Int32))), .val (.ref b105), .val (.ref b105), .unset] []))
              refine own_stW (fun _ k => XS.iload X111.here hx rfl (hb hby at_139) rfl k) ?_
              show own_GoW p e below s _ _ _ _ _ (T111.setTop (mkF m 141 #[.val (.int pa), .val (.int pb), .val (.int pc), .val (.int pd), .val (.int pe), .val (.int pm), .val (.int j18_s0), .val (.int j38_s0), .val (.int j58_s0), .val (.int j79_s0), .val (.int ((pe &&& (255 : Int32)).toUInt32.toUInt16.toUInt32.toInt32)), .val (.int (((pm.toUInt32 >>> ((4 : Int32) &&& 31).toUInt32).toInt32) &&& (7 : Int32))), .val (.ref b105), .val (.ref b105), .unset] [(.int (((pm.toUInt32 >>> ((4 : Int32) &&& 31).toUInt32).toInt32) &&& (7 : Int32)))]))
              refine own_stW (fun _ k => XS.iconst X111.here hx rfl (hb hby at_141) k) ?_
              show own_GoW p e below s _ _ _ _ _ (T111.setTop (mkF m 142 #[.val (.int pa), .val (.int pb), .val (.int pc), .val (.int pd), .val (.int pe), .val (.int pm), .val (.int j18_s0), .val (.int j38_s0), .val (.int j58_s0), .val (.int j79_s0), .val (.int ((pe &&& (255 : Int32)).toUInt32.toUInt16.toUInt32.toInt32)), .val (.int (((pm.toUInt32 >>> ((4 : Int32) &&& 31).toUInt32).toInt32) &&& (7 : Int32))), .val (.ref b105), .val (.ref b105), .unset] [(.int (4 : Int32)), (.int (((pm.toUInt32 >>> ((4 : Int32) &&& 31).toUInt32).toInt32) &&& (7 : Int32)))]))
              have J178 : ∀ (Tj : State) (Lj : List Loc) (j178_s0 : Int32), Stand p l e room_1 (s.setVm T111.vm) m #[(.int pa), (.int pb), (.int pc), (.int pd), (.int pe), (.int pm)] below meth c Tj Lj 8 50 → Tj.heap = h111 → Fr n0 Lj → (((((pm.toUInt32 >>> ((4 : Int32) &&& 31).toUInt32).toInt32) &&& (7 : Int32)) = (4 : Int32) ∧ j18_s0 = (72 : Int32) ∧ j38_s0 = (69 : Int32) ∧ j58_s0 = (65 : Int32) ∧ j79_s0 = (68 : Int32) ∧ j178_s0 = (1 : Int32)) ∨ ((((pm.toUInt32 >>> ((4 : Int32) &&& 31).toUInt32).toInt32) &&& (7 : Int32)) = (4 : Int32) ∧ j18_s0 = (72 : Int32) ∧ j38_s0 = (69 : Int32) ∧ j58_s0 = (65 : Int32) ∧ ¬ (j79_s0 = (68 : Int32)) ∧ j178_s0 = (0 : Int32)) ∨ ((((pm.toUInt32 >>> ((4 : Int32) &&& 31).toUInt32).toInt32) &&& (7 : Int32)) = (4 : Int32) ∧ j18_s0 = (72 : Int32) ∧ j38_s0 = (69 : Int32) ∧ ¬ (j58_s0 = (65 : Int32)) ∧ j178_s0 = (0 : Int32)) ∨ ((((pm.toUInt32 >>> ((4 : Int32) &&& 31).toUInt32).toInt32) &&& (7 : Int32)) = (4 : Int32) ∧ j18_s0 = (72 : Int32) ∧ ¬ (j38_s0 = (69 : Int32)) ∧ j178_s0 = (0 : Int32)) ∨ ((((pm.toUInt32 >>> ((4 : Int32) &&& 31).toUInt32).toInt32) &&& (7 : Int32)) = (4 : Int32) ∧ ¬ (j18_s0 = (72 : Int32)) ∧ j178_s0 = (0 : Int32)) ∨ (¬ ((((pm.toUInt32 >>> ((4 : Int32) &&& 31).toUInt32).toInt32) &&& (7 : Int32)) = (4 : Int32)) ∧ j178_s0 = (0 : Int32))) → own_GoW p e below s Z h0 (fun v h L => v = some (.int 1) ∧ Fr n0 L) room_1.cells room_1.slots (Tj.setTop (mkF m 178 #[.val (.int pa), .val (.int pb), .val (.int pc), .val (.int pd), .val (.int pe), .val (.int pm), .val (.int j18_s0), .val (.int j38_s0), .val (.int j58_s0), .val (.int j79_s0), .val (.int ((pe &&& (255 : Int32)).toUInt32.toUInt16.toUInt32.toInt32)), .val (.int (((pm.toUInt32 >>> ((4 : Int32) &&& 31).toUInt32).toInt32) &&& (7 : Int32))), .val (.ref b105), .val (.ref b105), .unset] [(.int j178_s0)])) := by
                intro TJ124 LJ124 j178_s0 XJ124 eJ124 NJ124 hJ178
                refine own_stW (fun _ k => XS.istore XJ124.here hx rfl (hb hby at_178) rfl (l' := #[.val (.int pa), .val (.int pb), .val (.int pc), .val (.int pd), .val (.int pe), .val (.int pm), .val (.int j18_s0), .val (.int j38_s0), .val (.int j58_s0), .val (.int j79_s0), .val (.int ((pe &&& (255 : Int32)).toUInt32.toUInt16.toUInt32.toInt32)), .val (.int (((pm.toUInt32 >>> ((4 : Int32) &&& 31).toUInt32).toInt32) &&& (7 : Int32))), .val (.ref b105), .val (.ref b105), .val (.int j178_s0)]) rfl k) ?_
                show own_GoW p e below s _ _ _ _ _ (TJ124.setTop (mkF m 180 #[.val (.int pa), .val (.int pb), .val (.int pc), .val (.int pd), .val (.int pe), .val (.int pm), .val (.int j18_s0), .val (.int j38_s0), .val (.int j58_s0), .val (.int j79_s0), .val (.int ((pe &&& (255 : Int32)).toUInt32.toUInt16.toUInt32.toInt32)), .val (.int (((pm.toUInt32 >>> ((4 : Int32) &&& 31).toUInt32).toInt32) &&& (7 : Int32))), .val (.ref b105), .val (.ref b105), .val (.int j178_s0)] []))
                refine own_stW (fun _ k => XS.iload XJ124.here hx rfl (hb hby at_180) rfl k) ?_
                show own_GoW p e below s _ _ _ _ _ (TJ124.setTop (mkF m 182 #[.val (.int pa), .val (.int pb), .val (.int pc), .val (.int pd), .val (.int pe), .val (.int pm), .val (.int j18_s0), .val (.int j38_s0), .val (.int j58_s0), .val (.int j79_s0), .val (.int ((pe &&& (255 : Int32)).toUInt32.toUInt16.toUInt32.toInt32)), .val (.int (((pm.toUInt32 >>> ((4 : Int32) &&& 31).toUInt32).toInt32) &&& (7 : Int32))), .val (.ref b105), .val (.ref b105), .val (.int j178_s0)] [(.int j178_s0)]))
                refine own_stW (fun _ k => XS.ifYes XJ124.here hx rfl (pc0 := 182) (pc' := 238) rfl (hb hby at_182) rfl ((if0 _ _).trans (teq (by
                  rcases hJ178 with ⟨q0, q1, q2, q3, q4, rfl⟩ | ⟨q0, q1, q2, q3, q, rfl⟩ | ⟨q0, q1, q2, q, rfl⟩ | ⟨q0, q1, q, rfl⟩ | ⟨q0, q, rfl⟩ | ⟨q, rfl⟩
                  · exact absurd ((own_mkHead hm105).mpr ⟨q0, q1, q2, q3, q4⟩) hh111
                  · rfl
                  · rfl
                  · rfl
                  · rfl
                  · rfl)).1) (by decide) (by decide) k) ?_
                show own_GoW p e below s _ _ _ _ _ (TJ124.setTop (mkF m 238 #[.val (.int pa), .val (.int pb), .val (.int pc), .val (.int pd), .val (.int pe), .val (.int pm), .val (.int j18_s0), .val (.int j38_s0), .val (.int j58_s0), .val (.int j79_s0), .val (.int ((pe &&& (255 : Int32)).toUInt32.toUInt16.toUInt32.toInt32)), .val (.int (((pm.toUInt32 >>> ((4 : Int32) &&& 31).toUInt32).toInt32) &&& (7 : Int32))), .val (.ref b105), .val (.ref b105), .val (.int j178_s0)] []))
                refine own_stW (fun _ k => XS.aload XJ124.here hx rfl (hb hby at_238) rfl rfl k) ?_
                show own_GoW p e below s _ _ _ _ _ (TJ124.setTop (mkF m 240 #[.val (.int pa), .val (.int pb), .val (.int pc), .val (.int pd), .val (.int pe), .val (.int pm), .val (.int j18_s0), .val (.int j38_s0), .val (.int j58_s0), .val (.int j79_s0), .val (.int ((pe &&& (255 : Int32)).toUInt32.toUInt16.toUInt32.toInt32)), .val (.int (((pm.toUInt32 >>> ((4 : Int32) &&& 31).toUInt32).toInt32) &&& (7 : Int32))), .val (.ref b105), .val (.ref b105), .val (.int j178_s0)] [(.ref b105)]))
                refine own_stW (fun _ k => XS.ifnullNo XJ124.here hx rfl (hb hby at_240) rfl k) ?_
                show own_GoW p e below s _ _ _ _ _ (TJ124.setTop (mkF m 243 #[.val (.int pa), .val (.int pb), .val (.int pc), .val (.int pd), .val (.int pe), .val (.int pm), .val (.int j18_s0), .val (.int j38_s0), .val (.int j58_s0), .val (.int j79_s0), .val (.int ((pe &&& (255 : Int32)).toUInt32.toUInt16.toUInt32.toInt32)), .val (.int (((pm.toUInt32 >>> ((4 : Int32) &&& 31).toUInt32).toInt32) &&& (7 : Int32))), .val (.ref b105), .val (.ref b105), .val (.int j178_s0)] []))
                refine own_stW (fun _ k => XS.aload XJ124.here hx rfl (hb hby at_243) rfl rfl k) ?_
                show own_GoW p e below s _ _ _ _ _ (TJ124.setTop (mkF m 245 #[.val (.int pa), .val (.int pb), .val (.int pc), .val (.int pd), .val (.int pe), .val (.int pm), .val (.int j18_s0), .val (.int j38_s0), .val (.int j58_s0), .val (.int j79_s0), .val (.int ((pe &&& (255 : Int32)).toUInt32.toUInt16.toUInt32.toInt32)), .val (.int (((pm.toUInt32 >>> ((4 : Int32) &&& 31).toUInt32).toInt32) &&& (7 : Int32))), .val (.ref b105), .val (.ref b105), .val (.int j178_s0)] [(.ref b105)]))
                refine own_stW (fun _ k => XS.aload XJ124.here hx rfl (hb hby at_245) rfl rfl k) ?_
                show own_GoW p e below s _ _ _ _ _ (TJ124.setTop (mkF m 247 #[.val (.int pa), .val (.int pb), .val (.int pc), .val (.int pd), .val (.int pe), .val (.int pm), .val (.int j18_s0), .val (.int j38_s0), .val (.int j58_s0), .val (.int j79_s0), .val (.int ((pe &&& (255 : Int32)).toUInt32.toUInt16.toUInt32.toInt32)), .val (.int (((pm.toUInt32 >>> ((4 : Int32) &&& 31).toUInt32).toInt32) &&& (7 : Int32))), .val (.ref b105), .val (.ref b105), .val (.int j178_s0)] [(.ref b105), (.ref b105)]))
                have f125 := (S105.keep ((Keep.refl h105 []).trans K111 all0) nin0)
                have O126 : Old Z n0 h111 := O110.keep ((Keep.refl h105 []).trans K111 all0) all0
                have f128 := (A105.keep ((Keep.refl h105 []).trans K111 all0))
                obtain ⟨T127, v127, L127, h127, X127, e127, q127, st127⟩ := own_callV XJ124 hx hZ (y := (⟨"java/lang/String", "equals", "(Ljava/lang/Object;)Z"⟩ : MethodName)) (z := (⟨"java/lang/String", "equals", "(Ljava/lang/Object;)Z"⟩ : MethodName)) hown (hw _ (List.mem_of_getElem? (i := 42) rfl)) (hw _ (List.mem_of_getElem? (i := 32) rfl)) (notFace_of_selects (args := #[]) (mvT hZ (hw _ (List.mem_of_getElem? (i := 34) rfl)))) (hw _ (List.mem_of_getElem? (i := 34) rfl)) (hw _ (List.mem_of_getElem? (i := 33) rfl)) (by decide) (own_eqB (W := 0) hZ (own_wEq hw) (kI := 4) (hw _ (List.mem_of_getElem? (i := 5) rfl)) O126 CS f125 f125 (by decide) (by decide)) eJ124 f128 (by decide) (by decide) (g := (mkF m 247 #[.val (.int pa), .val (.int pb), .val (.int pc), .val (.int pd), .val (.int pe), .val (.int pm), .val (.int j18_s0), .val (.int j38_s0), .val (.int j58_s0), .val (.int j79_s0), .val (.int ((pe &&& (255 : Int32)).toUInt32.toUInt16.toUInt32.toInt32)), .val (.int (((pm.toUInt32 >>> ((4 : Int32) &&& 31).toUInt32).toInt32) &&& (7 : Int32))), .val (.ref b105), .val (.ref b105), .val (.int j178_s0)] [(.ref b105), (.ref b105)])) rfl (by rw [hml]; rfl) (argsL := [(.ref b105)]) (rest := []) (lenOf pd__28Ljava_2flang_2fObject_3b_29Z rfl) rfl rfl (by show 2 * 0 + _ ≤ _; exact Nat.le_of_eq rfl) (hb hby at_247)
                obtain ⟨rfl, N127q, hq127⟩ := q127
                replace e127 := e127.trans hq127
                refine own_stW st127 ?_
                have N127 := Fr.app NJ124 N127q
                show own_GoW p e below s _ _ _ _ _ (T127.setTop (mkF m 250 #[.val (.int pa), .val (.int pb), .val (.int pc), .val (.int pd), .val (.int pe), .val (.int pm), .val (.int j18_s0), .val (.int j38_s0), .val (.int j58_s0), .val (.int j79_s0), .val (.int ((pe &&& (255 : Int32)).toUInt32.toUInt16.toUInt32.toInt32)), .val (.int (((pm.toUInt32 >>> ((4 : Int32) &&& 31).toUInt32).toInt32) &&& (7 : Int32))), .val (.ref b105), .val (.ref b105), .val (.int j178_s0)] [(.int (if cs105 = cs105 then (1 : Int32) else 0))]))
                refine own_stW (fun _ k => XS.ifNo X127.here hx rfl (hb hby at_250) rfl ((if0 _ _).trans (feq (by rw [if_pos rfl]; decide)).1) k) ?_
                show own_GoW p e below s _ _ _ _ _ (T127.setTop (mkF m 253 #[.val (.int pa), .val (.int pb), .val (.int pc), .val (.int pd), .val (.int pe), .val (.int pm), .val (.int j18_s0), .val (.int j38_s0), .val (.int j58_s0), .val (.int j79_s0), .val (.int ((pe &&& (255 : Int32)).toUInt32.toUInt16.toUInt32.toInt32)), .val (.int (((pm.toUInt32 >>> ((4 : Int32) &&& 31).toUInt32).toInt32) &&& (7 : Int32))), .val (.ref b105), .val (.ref b105), .val (.int j178_s0)] []))
                refine own_stW (fun _ k => XS.iconst X127.here hx rfl (hb hby at_253) k) ?_
                show own_GoW p e below s _ _ _ _ _ (T127.setTop (mkF m 254 #[.val (.int pa), .val (.int pb), .val (.int pc), .val (.int pd), .val (.int pe), .val (.int pm), .val (.int j18_s0), .val (.int j38_s0), .val (.int j58_s0), .val (.int j79_s0), .val (.int ((pe &&& (255 : Int32)).toUInt32.toUInt16.toUInt32.toInt32)), .val (.int (((pm.toUInt32 >>> ((4 : Int32) &&& 31).toUInt32).toInt32) &&& (7 : Int32))), .val (.ref b105), .val (.ref b105), .val (.int j178_s0)] [(.int (1 : Int32))]))
                refine own_stW (fun _ k => XS.goto X127.here hx rfl (pc0 := 254) (pc' := 258) rfl (hb hby at_254) (by decide) (by decide) k) ?_
                show own_GoW p e below s _ _ _ _ _ (T127.setTop (mkF m 258 #[.val (.int pa), .val (.int pb), .val (.int pc), .val (.int pd), .val (.int pe), .val (.int pm), .val (.int j18_s0), .val (.int j38_s0), .val (.int j58_s0), .val (.int j79_s0), .val (.int ((pe &&& (255 : Int32)).toUInt32.toUInt16.toUInt32.toInt32)), .val (.int (((pm.toUInt32 >>> ((4 : Int32) &&& 31).toUInt32).toInt32) &&& (7 : Int32))), .val (.ref b105), .val (.ref b105), .val (.int j178_s0)] [(.int (1 : Int32))]))
                exact own_retW X127 hx hlk e127 hZ hEL hS (by omega) CR112 hret (by decide) (Or.inl ⟨rfl, Or.inr (Or.inl rfl), _, rfl⟩) (hb hby at_258) (by decide) (by decide) ⟨rfl, N127⟩
              by_cases c129 : (((pm.toUInt32 >>> ((4 : Int32) &&& 31).toUInt32).toInt32) &&& (7 : Int32)) = (4 : Int32)
              · refine own_stW (fun _ k => XS.icmpNo X111.here hx rfl (hb hby at_142) rfl (teq c129).2 k) ?_
                show own_GoW p e below s _ _ _ _ _ (T111.setTop (mkF m 145 #[.val (.int pa), .val (.int pb), .val (.int pc), .val (.int pd), .val (.int pe), .val (.int pm), .val (.int j18_s0), .val (.int j38_s0), .val (.int j58_s0), .val (.int j79_s0), .val (.int ((pe &&& (255 : Int32)).toUInt32.toUInt16.toUInt32.toInt32)), .val (.int (((pm.toUInt32 >>> ((4 : Int32) &&& 31).toUInt32).toInt32) &&& (7 : Int32))), .val (.ref b105), .val (.ref b105), .unset] []))
                refine own_stW (fun _ k => XS.iload X111.here hx rfl (hb hby at_145) rfl k) ?_
                show own_GoW p e below s _ _ _ _ _ (T111.setTop (mkF m 147 #[.val (.int pa), .val (.int pb), .val (.int pc), .val (.int pd), .val (.int pe), .val (.int pm), .val (.int j18_s0), .val (.int j38_s0), .val (.int j58_s0), .val (.int j79_s0), .val (.int ((pe &&& (255 : Int32)).toUInt32.toUInt16.toUInt32.toInt32)), .val (.int (((pm.toUInt32 >>> ((4 : Int32) &&& 31).toUInt32).toInt32) &&& (7 : Int32))), .val (.ref b105), .val (.ref b105), .unset] [(.int j18_s0)]))
                refine own_stW (fun _ k => XS.bipush X111.here hx rfl (hb hby at_147) k) ?_
                show own_GoW p e below s _ _ _ _ _ (T111.setTop (mkF m 149 #[.val (.int pa), .val (.int pb), .val (.int pc), .val (.int pd), .val (.int pe), .val (.int pm), .val (.int j18_s0), .val (.int j38_s0), .val (.int j58_s0), .val (.int j79_s0), .val (.int ((pe &&& (255 : Int32)).toUInt32.toUInt16.toUInt32.toInt32)), .val (.int (((pm.toUInt32 >>> ((4 : Int32) &&& 31).toUInt32).toInt32) &&& (7 : Int32))), .val (.ref b105), .val (.ref b105), .unset] [(.int (72 : Int32)), (.int j18_s0)]))
                by_cases c130 : j18_s0 = (72 : Int32)
                · refine own_stW (fun _ k => XS.icmpNo X111.here hx rfl (hb hby at_149) rfl (teq c130).2 k) ?_
                  show own_GoW p e below s _ _ _ _ _ (T111.setTop (mkF m 152 #[.val (.int pa), .val (.int pb), .val (.int pc), .val (.int pd), .val (.int pe), .val (.int pm), .val (.int j18_s0), .val (.int j38_s0), .val (.int j58_s0), .val (.int j79_s0), .val (.int ((pe &&& (255 : Int32)).toUInt32.toUInt16.toUInt32.toInt32)), .val (.int (((pm.toUInt32 >>> ((4 : Int32) &&& 31).toUInt32).toInt32) &&& (7 : Int32))), .val (.ref b105), .val (.ref b105), .unset] []))
                  refine own_stW (fun _ k => XS.iload X111.here hx rfl (hb hby at_152) rfl k) ?_
                  show own_GoW p e below s _ _ _ _ _ (T111.setTop (mkF m 154 #[.val (.int pa), .val (.int pb), .val (.int pc), .val (.int pd), .val (.int pe), .val (.int pm), .val (.int j18_s0), .val (.int j38_s0), .val (.int j58_s0), .val (.int j79_s0), .val (.int ((pe &&& (255 : Int32)).toUInt32.toUInt16.toUInt32.toInt32)), .val (.int (((pm.toUInt32 >>> ((4 : Int32) &&& 31).toUInt32).toInt32) &&& (7 : Int32))), .val (.ref b105), .val (.ref b105), .unset] [(.int j38_s0)]))
                  refine own_stW (fun _ k => XS.bipush X111.here hx rfl (hb hby at_154) k) ?_
                  show own_GoW p e below s _ _ _ _ _ (T111.setTop (mkF m 156 #[.val (.int pa), .val (.int pb), .val (.int pc), .val (.int pd), .val (.int pe), .val (.int pm), .val (.int j18_s0), .val (.int j38_s0), .val (.int j58_s0), .val (.int j79_s0), .val (.int ((pe &&& (255 : Int32)).toUInt32.toUInt16.toUInt32.toInt32)), .val (.int (((pm.toUInt32 >>> ((4 : Int32) &&& 31).toUInt32).toInt32) &&& (7 : Int32))), .val (.ref b105), .val (.ref b105), .unset] [(.int (69 : Int32)), (.int j38_s0)]))
                  by_cases c131 : j38_s0 = (69 : Int32)
                  · refine own_stW (fun _ k => XS.icmpNo X111.here hx rfl (hb hby at_156) rfl (teq c131).2 k) ?_
                    show own_GoW p e below s _ _ _ _ _ (T111.setTop (mkF m 159 #[.val (.int pa), .val (.int pb), .val (.int pc), .val (.int pd), .val (.int pe), .val (.int pm), .val (.int j18_s0), .val (.int j38_s0), .val (.int j58_s0), .val (.int j79_s0), .val (.int ((pe &&& (255 : Int32)).toUInt32.toUInt16.toUInt32.toInt32)), .val (.int (((pm.toUInt32 >>> ((4 : Int32) &&& 31).toUInt32).toInt32) &&& (7 : Int32))), .val (.ref b105), .val (.ref b105), .unset] []))
                    refine own_stW (fun _ k => XS.iload X111.here hx rfl (hb hby at_159) rfl k) ?_
                    show own_GoW p e below s _ _ _ _ _ (T111.setTop (mkF m 161 #[.val (.int pa), .val (.int pb), .val (.int pc), .val (.int pd), .val (.int pe), .val (.int pm), .val (.int j18_s0), .val (.int j38_s0), .val (.int j58_s0), .val (.int j79_s0), .val (.int ((pe &&& (255 : Int32)).toUInt32.toUInt16.toUInt32.toInt32)), .val (.int (((pm.toUInt32 >>> ((4 : Int32) &&& 31).toUInt32).toInt32) &&& (7 : Int32))), .val (.ref b105), .val (.ref b105), .unset] [(.int j58_s0)]))
                    refine own_stW (fun _ k => XS.bipush X111.here hx rfl (hb hby at_161) k) ?_
                    show own_GoW p e below s _ _ _ _ _ (T111.setTop (mkF m 163 #[.val (.int pa), .val (.int pb), .val (.int pc), .val (.int pd), .val (.int pe), .val (.int pm), .val (.int j18_s0), .val (.int j38_s0), .val (.int j58_s0), .val (.int j79_s0), .val (.int ((pe &&& (255 : Int32)).toUInt32.toUInt16.toUInt32.toInt32)), .val (.int (((pm.toUInt32 >>> ((4 : Int32) &&& 31).toUInt32).toInt32) &&& (7 : Int32))), .val (.ref b105), .val (.ref b105), .unset] [(.int (65 : Int32)), (.int j58_s0)]))
                    by_cases c132 : j58_s0 = (65 : Int32)
                    · refine own_stW (fun _ k => XS.icmpNo X111.here hx rfl (hb hby at_163) rfl (teq c132).2 k) ?_
                      show own_GoW p e below s _ _ _ _ _ (T111.setTop (mkF m 166 #[.val (.int pa), .val (.int pb), .val (.int pc), .val (.int pd), .val (.int pe), .val (.int pm), .val (.int j18_s0), .val (.int j38_s0), .val (.int j58_s0), .val (.int j79_s0), .val (.int ((pe &&& (255 : Int32)).toUInt32.toUInt16.toUInt32.toInt32)), .val (.int (((pm.toUInt32 >>> ((4 : Int32) &&& 31).toUInt32).toInt32) &&& (7 : Int32))), .val (.ref b105), .val (.ref b105), .unset] []))
                      refine own_stW (fun _ k => XS.iload X111.here hx rfl (hb hby at_166) rfl k) ?_
                      show own_GoW p e below s _ _ _ _ _ (T111.setTop (mkF m 168 #[.val (.int pa), .val (.int pb), .val (.int pc), .val (.int pd), .val (.int pe), .val (.int pm), .val (.int j18_s0), .val (.int j38_s0), .val (.int j58_s0), .val (.int j79_s0), .val (.int ((pe &&& (255 : Int32)).toUInt32.toUInt16.toUInt32.toInt32)), .val (.int (((pm.toUInt32 >>> ((4 : Int32) &&& 31).toUInt32).toInt32) &&& (7 : Int32))), .val (.ref b105), .val (.ref b105), .unset] [(.int j79_s0)]))
                      refine own_stW (fun _ k => XS.bipush X111.here hx rfl (hb hby at_168) k) ?_
                      show own_GoW p e below s _ _ _ _ _ (T111.setTop (mkF m 170 #[.val (.int pa), .val (.int pb), .val (.int pc), .val (.int pd), .val (.int pe), .val (.int pm), .val (.int j18_s0), .val (.int j38_s0), .val (.int j58_s0), .val (.int j79_s0), .val (.int ((pe &&& (255 : Int32)).toUInt32.toUInt16.toUInt32.toInt32)), .val (.int (((pm.toUInt32 >>> ((4 : Int32) &&& 31).toUInt32).toInt32) &&& (7 : Int32))), .val (.ref b105), .val (.ref b105), .unset] [(.int (68 : Int32)), (.int j79_s0)]))
                      by_cases c133 : j79_s0 = (68 : Int32)
                      · refine own_stW (fun _ k => XS.icmpNo X111.here hx rfl (hb hby at_170) rfl (teq c133).2 k) ?_
                        show own_GoW p e below s _ _ _ _ _ (T111.setTop (mkF m 173 #[.val (.int pa), .val (.int pb), .val (.int pc), .val (.int pd), .val (.int pe), .val (.int pm), .val (.int j18_s0), .val (.int j38_s0), .val (.int j58_s0), .val (.int j79_s0), .val (.int ((pe &&& (255 : Int32)).toUInt32.toUInt16.toUInt32.toInt32)), .val (.int (((pm.toUInt32 >>> ((4 : Int32) &&& 31).toUInt32).toInt32) &&& (7 : Int32))), .val (.ref b105), .val (.ref b105), .unset] []))
                        refine own_stW (fun _ k => XS.iconst X111.here hx rfl (hb hby at_173) k) ?_
                        show own_GoW p e below s _ _ _ _ _ (T111.setTop (mkF m 174 #[.val (.int pa), .val (.int pb), .val (.int pc), .val (.int pd), .val (.int pe), .val (.int pm), .val (.int j18_s0), .val (.int j38_s0), .val (.int j58_s0), .val (.int j79_s0), .val (.int ((pe &&& (255 : Int32)).toUInt32.toUInt16.toUInt32.toInt32)), .val (.int (((pm.toUInt32 >>> ((4 : Int32) &&& 31).toUInt32).toInt32) &&& (7 : Int32))), .val (.ref b105), .val (.ref b105), .unset] [(.int (1 : Int32))]))
                        refine own_stW (fun _ k => XS.goto X111.here hx rfl (pc0 := 174) (pc' := 178) rfl (hb hby at_174) (by decide) (by decide) k) ?_
                        show own_GoW p e below s _ _ _ _ _ (T111.setTop (mkF m 178 #[.val (.int pa), .val (.int pb), .val (.int pc), .val (.int pd), .val (.int pe), .val (.int pm), .val (.int j18_s0), .val (.int j38_s0), .val (.int j58_s0), .val (.int j79_s0), .val (.int ((pe &&& (255 : Int32)).toUInt32.toUInt16.toUInt32.toInt32)), .val (.int (((pm.toUInt32 >>> ((4 : Int32) &&& 31).toUInt32).toInt32) &&& (7 : Int32))), .val (.ref b105), .val (.ref b105), .unset] [(.int (1 : Int32))]))
                        exact J178 _ _ _ X111 e111 N111 (Or.inl ⟨c129, c130, c131, c132, c133, rfl⟩)
                      · refine own_stW (fun _ k => XS.icmpYes X111.here hx rfl (pc0 := 170) (pc' := 177) rfl (hb hby at_170) rfl (feq c133).2 (by decide) (by decide) k) ?_
                        show own_GoW p e below s _ _ _ _ _ (T111.setTop (mkF m 177 #[.val (.int pa), .val (.int pb), .val (.int pc), .val (.int pd), .val (.int pe), .val (.int pm), .val (.int j18_s0), .val (.int j38_s0), .val (.int j58_s0), .val (.int j79_s0), .val (.int ((pe &&& (255 : Int32)).toUInt32.toUInt16.toUInt32.toInt32)), .val (.int (((pm.toUInt32 >>> ((4 : Int32) &&& 31).toUInt32).toInt32) &&& (7 : Int32))), .val (.ref b105), .val (.ref b105), .unset] []))
                        refine own_stW (fun _ k => XS.iconst X111.here hx rfl (hb hby at_177) k) ?_
                        show own_GoW p e below s _ _ _ _ _ (T111.setTop (mkF m 178 #[.val (.int pa), .val (.int pb), .val (.int pc), .val (.int pd), .val (.int pe), .val (.int pm), .val (.int j18_s0), .val (.int j38_s0), .val (.int j58_s0), .val (.int j79_s0), .val (.int ((pe &&& (255 : Int32)).toUInt32.toUInt16.toUInt32.toInt32)), .val (.int (((pm.toUInt32 >>> ((4 : Int32) &&& 31).toUInt32).toInt32) &&& (7 : Int32))), .val (.ref b105), .val (.ref b105), .unset] [(.int (0 : Int32))]))
                        exact J178 _ _ _ X111 e111 N111 (Or.inr (Or.inl ⟨c129, c130, c131, c132, c133, rfl⟩))
                    · refine own_stW (fun _ k => XS.icmpYes X111.here hx rfl (pc0 := 163) (pc' := 177) rfl (hb hby at_163) rfl (feq c132).2 (by decide) (by decide) k) ?_
                      show own_GoW p e below s _ _ _ _ _ (T111.setTop (mkF m 177 #[.val (.int pa), .val (.int pb), .val (.int pc), .val (.int pd), .val (.int pe), .val (.int pm), .val (.int j18_s0), .val (.int j38_s0), .val (.int j58_s0), .val (.int j79_s0), .val (.int ((pe &&& (255 : Int32)).toUInt32.toUInt16.toUInt32.toInt32)), .val (.int (((pm.toUInt32 >>> ((4 : Int32) &&& 31).toUInt32).toInt32) &&& (7 : Int32))), .val (.ref b105), .val (.ref b105), .unset] []))
                      refine own_stW (fun _ k => XS.iconst X111.here hx rfl (hb hby at_177) k) ?_
                      show own_GoW p e below s _ _ _ _ _ (T111.setTop (mkF m 178 #[.val (.int pa), .val (.int pb), .val (.int pc), .val (.int pd), .val (.int pe), .val (.int pm), .val (.int j18_s0), .val (.int j38_s0), .val (.int j58_s0), .val (.int j79_s0), .val (.int ((pe &&& (255 : Int32)).toUInt32.toUInt16.toUInt32.toInt32)), .val (.int (((pm.toUInt32 >>> ((4 : Int32) &&& 31).toUInt32).toInt32) &&& (7 : Int32))), .val (.ref b105), .val (.ref b105), .unset] [(.int (0 : Int32))]))
                      exact J178 _ _ _ X111 e111 N111 (Or.inr (Or.inr (Or.inl ⟨c129, c130, c131, c132, rfl⟩)))
                  · refine own_stW (fun _ k => XS.icmpYes X111.here hx rfl (pc0 := 156) (pc' := 177) rfl (hb hby at_156) rfl (feq c131).2 (by decide) (by decide) k) ?_
                    show own_GoW p e below s _ _ _ _ _ (T111.setTop (mkF m 177 #[.val (.int pa), .val (.int pb), .val (.int pc), .val (.int pd), .val (.int pe), .val (.int pm), .val (.int j18_s0), .val (.int j38_s0), .val (.int j58_s0), .val (.int j79_s0), .val (.int ((pe &&& (255 : Int32)).toUInt32.toUInt16.toUInt32.toInt32)), .val (.int (((pm.toUInt32 >>> ((4 : Int32) &&& 31).toUInt32).toInt32) &&& (7 : Int32))), .val (.ref b105), .val (.ref b105), .unset] []))
                    refine own_stW (fun _ k => XS.iconst X111.here hx rfl (hb hby at_177) k) ?_
                    show own_GoW p e below s _ _ _ _ _ (T111.setTop (mkF m 178 #[.val (.int pa), .val (.int pb), .val (.int pc), .val (.int pd), .val (.int pe), .val (.int pm), .val (.int j18_s0), .val (.int j38_s0), .val (.int j58_s0), .val (.int j79_s0), .val (.int ((pe &&& (255 : Int32)).toUInt32.toUInt16.toUInt32.toInt32)), .val (.int (((pm.toUInt32 >>> ((4 : Int32) &&& 31).toUInt32).toInt32) &&& (7 : Int32))), .val (.ref b105), .val (.ref b105), .unset] [(.int (0 : Int32))]))
                    exact J178 _ _ _ X111 e111 N111 (Or.inr (Or.inr (Or.inr (Or.inl ⟨c129, c130, c131, rfl⟩))))
                · refine own_stW (fun _ k => XS.icmpYes X111.here hx rfl (pc0 := 149) (pc' := 177) rfl (hb hby at_149) rfl (feq c130).2 (by decide) (by decide) k) ?_
                  show own_GoW p e below s _ _ _ _ _ (T111.setTop (mkF m 177 #[.val (.int pa), .val (.int pb), .val (.int pc), .val (.int pd), .val (.int pe), .val (.int pm), .val (.int j18_s0), .val (.int j38_s0), .val (.int j58_s0), .val (.int j79_s0), .val (.int ((pe &&& (255 : Int32)).toUInt32.toUInt16.toUInt32.toInt32)), .val (.int (((pm.toUInt32 >>> ((4 : Int32) &&& 31).toUInt32).toInt32) &&& (7 : Int32))), .val (.ref b105), .val (.ref b105), .unset] []))
                  refine own_stW (fun _ k => XS.iconst X111.here hx rfl (hb hby at_177) k) ?_
                  show own_GoW p e below s _ _ _ _ _ (T111.setTop (mkF m 178 #[.val (.int pa), .val (.int pb), .val (.int pc), .val (.int pd), .val (.int pe), .val (.int pm), .val (.int j18_s0), .val (.int j38_s0), .val (.int j58_s0), .val (.int j79_s0), .val (.int ((pe &&& (255 : Int32)).toUInt32.toUInt16.toUInt32.toInt32)), .val (.int (((pm.toUInt32 >>> ((4 : Int32) &&& 31).toUInt32).toInt32) &&& (7 : Int32))), .val (.ref b105), .val (.ref b105), .unset] [(.int (0 : Int32))]))
                  exact J178 _ _ _ X111 e111 N111 (Or.inr (Or.inr (Or.inr (Or.inr (Or.inl ⟨c129, c130, rfl⟩)))))
              · refine own_stW (fun _ k => XS.icmpYes X111.here hx rfl (pc0 := 142) (pc' := 177) rfl (hb hby at_142) rfl (feq c129).2 (by decide) (by decide) k) ?_
                show own_GoW p e below s _ _ _ _ _ (T111.setTop (mkF m 177 #[.val (.int pa), .val (.int pb), .val (.int pc), .val (.int pd), .val (.int pe), .val (.int pm), .val (.int j18_s0), .val (.int j38_s0), .val (.int j58_s0), .val (.int j79_s0), .val (.int ((pe &&& (255 : Int32)).toUInt32.toUInt16.toUInt32.toInt32)), .val (.int (((pm.toUInt32 >>> ((4 : Int32) &&& 31).toUInt32).toInt32) &&& (7 : Int32))), .val (.ref b105), .val (.ref b105), .unset] []))
                refine own_stW (fun _ k => XS.iconst X111.here hx rfl (hb hby at_177) k) ?_
                show own_GoW p e below s _ _ _ _ _ (T111.setTop (mkF m 178 #[.val (.int pa), .val (.int pb), .val (.int pc), .val (.int pd), .val (.int pe), .val (.int pm), .val (.int j18_s0), .val (.int j38_s0), .val (.int j58_s0), .val (.int j79_s0), .val (.int ((pe &&& (255 : Int32)).toUInt32.toUInt16.toUInt32.toInt32)), .val (.int (((pm.toUInt32 >>> ((4 : Int32) &&& 31).toUInt32).toInt32) &&& (7 : Int32))), .val (.ref b105), .val (.ref b105), .unset] [(.int (0 : Int32))]))
                exact J178 _ _ _ X111 e111 N111 (Or.inr (Or.inr (Or.inr (Or.inr (Or.inr ⟨c129, rfl⟩)))))
        by_cases c134 : (pm &&& (8 : Int32)) = (0 : Int32)
        · refine own_stW (fun _ k => XS.ifYes XJ103.here hx rfl (pc0 := 65) (pc' := 73) rfl (hb hby at_65) rfl ((if0 _ _).trans (teq c134).1) (by decide) (by decide) k) ?_
          show own_GoW p e below s _ _ _ _ _ (TJ103.setTop (mkF m 73 #[.val (.int pa), .val (.int pb), .val (.int pc), .val (.int pd), .val (.int pe), .val (.int pm), .val (.int j18_s0), .val (.int j38_s0), .val (.int j58_s0), .unset, .unset, .unset, .unset, .unset, .unset] []))
          refine own_stW (fun _ k => XS.iloadN XJ103.here hx rfl (hb hby at_73) rfl k) ?_
          show own_GoW p e below s _ _ _ _ _ (TJ103.setTop (mkF m 74 #[.val (.int pa), .val (.int pb), .val (.int pc), .val (.int pd), .val (.int pe), .val (.int pm), .val (.int j18_s0), .val (.int j38_s0), .val (.int j58_s0), .unset, .unset, .unset, .unset, .unset, .unset] [(.int pd)]))
          refine own_stW (fun _ k => XS.sipush XJ103.here hx rfl (hb hby at_74) k) ?_
          show own_GoW p e below s _ _ _ _ _ (TJ103.setTop (mkF m 77 #[.val (.int pa), .val (.int pb), .val (.int pc), .val (.int pd), .val (.int pe), .val (.int pm), .val (.int j18_s0), .val (.int j38_s0), .val (.int j58_s0), .unset, .unset, .unset, .unset, .unset, .unset] [(.int (255 : Int32)), (.int pd)]))
          refine own_stW (fun _ k => XS.iand XJ103.here hx rfl (hb hby at_77) rfl k) ?_
          show own_GoW p e below s _ _ _ _ _ (TJ103.setTop (mkF m 78 #[.val (.int pa), .val (.int pb), .val (.int pc), .val (.int pd), .val (.int pe), .val (.int pm), .val (.int j18_s0), .val (.int j38_s0), .val (.int j58_s0), .unset, .unset, .unset, .unset, .unset, .unset] [(.int (pd &&& (255 : Int32)))]))
          refine own_stW (fun _ k => XS.i2c XJ103.here hx rfl (hb hby at_78) rfl k) ?_
          show own_GoW p e below s _ _ _ _ _ (TJ103.setTop (mkF m 79 #[.val (.int pa), .val (.int pb), .val (.int pc), .val (.int pd), .val (.int pe), .val (.int pm), .val (.int j18_s0), .val (.int j38_s0), .val (.int j58_s0), .unset, .unset, .unset, .unset, .unset, .unset] [(.int ((pd &&& (255 : Int32)).toUInt32.toUInt16.toUInt32.toInt32))]))
          exact J79 _ _ _ XJ103 eJ103 NJ103 (Or.inl ⟨c134, rfl⟩)
        · refine own_stW (fun _ k => XS.ifNo XJ103.here hx rfl (hb hby at_65) rfl ((if0 _ _).trans (feq c134).1) k) ?_
          show own_GoW p e below s _ _ _ _ _ (TJ103.setTop (mkF m 68 #[.val (.int pa), .val (.int pb), .val (.int pc), .val (.int pd), .val (.int pe), .val (.int pm), .val (.int j18_s0), .val (.int j38_s0), .val (.int j58_s0), .unset, .unset, .unset, .unset, .unset, .unset] []))
          refine own_stW (fun _ k => XS.bipush XJ103.here hx rfl (hb hby at_68) k) ?_
          show own_GoW p e below s _ _ _ _ _ (TJ103.setTop (mkF m 70 #[.val (.int pa), .val (.int pb), .val (.int pc), .val (.int pd), .val (.int pe), .val (.int pm), .val (.int j18_s0), .val (.int j38_s0), .val (.int j58_s0), .unset, .unset, .unset, .unset, .unset, .unset] [(.int (68 : Int32))]))
          refine own_stW (fun _ k => XS.goto XJ103.here hx rfl (pc0 := 70) (pc' := 79) rfl (hb hby at_70) (by decide) (by decide) k) ?_
          show own_GoW p e below s _ _ _ _ _ (TJ103.setTop (mkF m 79 #[.val (.int pa), .val (.int pb), .val (.int pc), .val (.int pd), .val (.int pe), .val (.int pm), .val (.int j18_s0), .val (.int j38_s0), .val (.int j58_s0), .unset, .unset, .unset, .unset, .unset, .unset] [(.int (68 : Int32))]))
          exact J79 _ _ _ XJ103 eJ103 NJ103 (Or.inr ⟨c134, rfl⟩)
      by_cases c135 : (pm &&& (4 : Int32)) = (0 : Int32)
      · refine own_stW (fun _ k => XS.ifYes XJ102.here hx rfl (pc0 := 44) (pc' := 52) rfl (hb hby at_44) rfl ((if0 _ _).trans (teq c135).1) (by decide) (by decide) k) ?_
        show own_GoW p e below s _ _ _ _ _ (TJ102.setTop (mkF m 52 #[.val (.int pa), .val (.int pb), .val (.int pc), .val (.int pd), .val (.int pe), .val (.int pm), .val (.int j18_s0), .val (.int j38_s0), .unset, .unset, .unset, .unset, .unset, .unset, .unset] []))
        refine own_stW (fun _ k => XS.iloadN XJ102.here hx rfl (hb hby at_52) rfl k) ?_
        show own_GoW p e below s _ _ _ _ _ (TJ102.setTop (mkF m 53 #[.val (.int pa), .val (.int pb), .val (.int pc), .val (.int pd), .val (.int pe), .val (.int pm), .val (.int j18_s0), .val (.int j38_s0), .unset, .unset, .unset, .unset, .unset, .unset, .unset] [(.int pc)]))
        refine own_stW (fun _ k => XS.sipush XJ102.here hx rfl (hb hby at_53) k) ?_
        show own_GoW p e below s _ _ _ _ _ (TJ102.setTop (mkF m 56 #[.val (.int pa), .val (.int pb), .val (.int pc), .val (.int pd), .val (.int pe), .val (.int pm), .val (.int j18_s0), .val (.int j38_s0), .unset, .unset, .unset, .unset, .unset, .unset, .unset] [(.int (255 : Int32)), (.int pc)]))
        refine own_stW (fun _ k => XS.iand XJ102.here hx rfl (hb hby at_56) rfl k) ?_
        show own_GoW p e below s _ _ _ _ _ (TJ102.setTop (mkF m 57 #[.val (.int pa), .val (.int pb), .val (.int pc), .val (.int pd), .val (.int pe), .val (.int pm), .val (.int j18_s0), .val (.int j38_s0), .unset, .unset, .unset, .unset, .unset, .unset, .unset] [(.int (pc &&& (255 : Int32)))]))
        refine own_stW (fun _ k => XS.i2c XJ102.here hx rfl (hb hby at_57) rfl k) ?_
        show own_GoW p e below s _ _ _ _ _ (TJ102.setTop (mkF m 58 #[.val (.int pa), .val (.int pb), .val (.int pc), .val (.int pd), .val (.int pe), .val (.int pm), .val (.int j18_s0), .val (.int j38_s0), .unset, .unset, .unset, .unset, .unset, .unset, .unset] [(.int ((pc &&& (255 : Int32)).toUInt32.toUInt16.toUInt32.toInt32))]))
        exact J58 _ _ _ XJ102 eJ102 NJ102 (Or.inl ⟨c135, rfl⟩)
      · refine own_stW (fun _ k => XS.ifNo XJ102.here hx rfl (hb hby at_44) rfl ((if0 _ _).trans (feq c135).1) k) ?_
        show own_GoW p e below s _ _ _ _ _ (TJ102.setTop (mkF m 47 #[.val (.int pa), .val (.int pb), .val (.int pc), .val (.int pd), .val (.int pe), .val (.int pm), .val (.int j18_s0), .val (.int j38_s0), .unset, .unset, .unset, .unset, .unset, .unset, .unset] []))
        refine own_stW (fun _ k => XS.bipush XJ102.here hx rfl (hb hby at_47) k) ?_
        show own_GoW p e below s _ _ _ _ _ (TJ102.setTop (mkF m 49 #[.val (.int pa), .val (.int pb), .val (.int pc), .val (.int pd), .val (.int pe), .val (.int pm), .val (.int j18_s0), .val (.int j38_s0), .unset, .unset, .unset, .unset, .unset, .unset, .unset] [(.int (65 : Int32))]))
        refine own_stW (fun _ k => XS.goto XJ102.here hx rfl (pc0 := 49) (pc' := 58) rfl (hb hby at_49) (by decide) (by decide) k) ?_
        show own_GoW p e below s _ _ _ _ _ (TJ102.setTop (mkF m 58 #[.val (.int pa), .val (.int pb), .val (.int pc), .val (.int pd), .val (.int pe), .val (.int pm), .val (.int j18_s0), .val (.int j38_s0), .unset, .unset, .unset, .unset, .unset, .unset, .unset] [(.int (65 : Int32))]))
        exact J58 _ _ _ XJ102 eJ102 NJ102 (Or.inr ⟨c135, rfl⟩)
    by_cases c136 : (pm &&& (2 : Int32)) = (0 : Int32)
    · refine own_stW (fun _ k => XS.ifYes XJ101.here hx rfl (pc0 := 24) (pc' := 32) rfl (hb hby at_24) rfl ((if0 _ _).trans (teq c136).1) (by decide) (by decide) k) ?_
      show own_GoW p e below s _ _ _ _ _ (TJ101.setTop (mkF m 32 #[.val (.int pa), .val (.int pb), .val (.int pc), .val (.int pd), .val (.int pe), .val (.int pm), .val (.int j18_s0), .unset, .unset, .unset, .unset, .unset, .unset, .unset, .unset] []))
      refine own_stW (fun _ k => XS.iloadN XJ101.here hx rfl (hb hby at_32) rfl k) ?_
      show own_GoW p e below s _ _ _ _ _ (TJ101.setTop (mkF m 33 #[.val (.int pa), .val (.int pb), .val (.int pc), .val (.int pd), .val (.int pe), .val (.int pm), .val (.int j18_s0), .unset, .unset, .unset, .unset, .unset, .unset, .unset, .unset] [(.int pb)]))
      refine own_stW (fun _ k => XS.sipush XJ101.here hx rfl (hb hby at_33) k) ?_
      show own_GoW p e below s _ _ _ _ _ (TJ101.setTop (mkF m 36 #[.val (.int pa), .val (.int pb), .val (.int pc), .val (.int pd), .val (.int pe), .val (.int pm), .val (.int j18_s0), .unset, .unset, .unset, .unset, .unset, .unset, .unset, .unset] [(.int (255 : Int32)), (.int pb)]))
      refine own_stW (fun _ k => XS.iand XJ101.here hx rfl (hb hby at_36) rfl k) ?_
      show own_GoW p e below s _ _ _ _ _ (TJ101.setTop (mkF m 37 #[.val (.int pa), .val (.int pb), .val (.int pc), .val (.int pd), .val (.int pe), .val (.int pm), .val (.int j18_s0), .unset, .unset, .unset, .unset, .unset, .unset, .unset, .unset] [(.int (pb &&& (255 : Int32)))]))
      refine own_stW (fun _ k => XS.i2c XJ101.here hx rfl (hb hby at_37) rfl k) ?_
      show own_GoW p e below s _ _ _ _ _ (TJ101.setTop (mkF m 38 #[.val (.int pa), .val (.int pb), .val (.int pc), .val (.int pd), .val (.int pe), .val (.int pm), .val (.int j18_s0), .unset, .unset, .unset, .unset, .unset, .unset, .unset, .unset] [(.int ((pb &&& (255 : Int32)).toUInt32.toUInt16.toUInt32.toInt32))]))
      exact J38 _ _ _ XJ101 eJ101 NJ101 (Or.inl ⟨c136, rfl⟩)
    · refine own_stW (fun _ k => XS.ifNo XJ101.here hx rfl (hb hby at_24) rfl ((if0 _ _).trans (feq c136).1) k) ?_
      show own_GoW p e below s _ _ _ _ _ (TJ101.setTop (mkF m 27 #[.val (.int pa), .val (.int pb), .val (.int pc), .val (.int pd), .val (.int pe), .val (.int pm), .val (.int j18_s0), .unset, .unset, .unset, .unset, .unset, .unset, .unset, .unset] []))
      refine own_stW (fun _ k => XS.bipush XJ101.here hx rfl (hb hby at_27) k) ?_
      show own_GoW p e below s _ _ _ _ _ (TJ101.setTop (mkF m 29 #[.val (.int pa), .val (.int pb), .val (.int pc), .val (.int pd), .val (.int pe), .val (.int pm), .val (.int j18_s0), .unset, .unset, .unset, .unset, .unset, .unset, .unset, .unset] [(.int (69 : Int32))]))
      refine own_stW (fun _ k => XS.goto XJ101.here hx rfl (pc0 := 29) (pc' := 38) rfl (hb hby at_29) (by decide) (by decide) k) ?_
      show own_GoW p e below s _ _ _ _ _ (TJ101.setTop (mkF m 38 #[.val (.int pa), .val (.int pb), .val (.int pc), .val (.int pd), .val (.int pe), .val (.int pm), .val (.int j18_s0), .unset, .unset, .unset, .unset, .unset, .unset, .unset, .unset] [(.int (69 : Int32))]))
      exact J38 _ _ _ XJ101 eJ101 NJ101 (Or.inr ⟨c136, rfl⟩)
  by_cases c137 : (pm &&& (1 : Int32)) = (0 : Int32)
  · refine own_stW (fun _ k => XS.ifYes X0.here hx rfl (pc0 := 4) (pc' := 12) rfl (hb hby at_4) rfl ((if0 _ _).trans (teq c137).1) (by decide) (by decide) k) ?_
    show own_GoW p e below s _ _ _ _ _ (T0.setTop (mkF m 12 #[.val (.int pa), .val (.int pb), .val (.int pc), .val (.int pd), .val (.int pe), .val (.int pm), .unset, .unset, .unset, .unset, .unset, .unset, .unset, .unset, .unset] []))
    refine own_stW (fun _ k => XS.iloadN X0.here hx rfl (hb hby at_12) rfl k) ?_
    show own_GoW p e below s _ _ _ _ _ (T0.setTop (mkF m 13 #[.val (.int pa), .val (.int pb), .val (.int pc), .val (.int pd), .val (.int pe), .val (.int pm), .unset, .unset, .unset, .unset, .unset, .unset, .unset, .unset, .unset] [(.int pa)]))
    refine own_stW (fun _ k => XS.sipush X0.here hx rfl (hb hby at_13) k) ?_
    show own_GoW p e below s _ _ _ _ _ (T0.setTop (mkF m 16 #[.val (.int pa), .val (.int pb), .val (.int pc), .val (.int pd), .val (.int pe), .val (.int pm), .unset, .unset, .unset, .unset, .unset, .unset, .unset, .unset, .unset] [(.int (255 : Int32)), (.int pa)]))
    refine own_stW (fun _ k => XS.iand X0.here hx rfl (hb hby at_16) rfl k) ?_
    show own_GoW p e below s _ _ _ _ _ (T0.setTop (mkF m 17 #[.val (.int pa), .val (.int pb), .val (.int pc), .val (.int pd), .val (.int pe), .val (.int pm), .unset, .unset, .unset, .unset, .unset, .unset, .unset, .unset, .unset] [(.int (pa &&& (255 : Int32)))]))
    refine own_stW (fun _ k => XS.i2c X0.here hx rfl (hb hby at_17) rfl k) ?_
    show own_GoW p e below s _ _ _ _ _ (T0.setTop (mkF m 18 #[.val (.int pa), .val (.int pb), .val (.int pc), .val (.int pd), .val (.int pe), .val (.int pm), .unset, .unset, .unset, .unset, .unset, .unset, .unset, .unset, .unset] [(.int ((pa &&& (255 : Int32)).toUInt32.toUInt16.toUInt32.toInt32))]))
    exact J18 _ _ _ X0 e0 N0 (Or.inl ⟨c137, rfl⟩)
  · refine own_stW (fun _ k => XS.ifNo X0.here hx rfl (hb hby at_4) rfl ((if0 _ _).trans (feq c137).1) k) ?_
    show own_GoW p e below s _ _ _ _ _ (T0.setTop (mkF m 7 #[.val (.int pa), .val (.int pb), .val (.int pc), .val (.int pd), .val (.int pe), .val (.int pm), .unset, .unset, .unset, .unset, .unset, .unset, .unset, .unset, .unset] []))
    refine own_stW (fun _ k => XS.bipush X0.here hx rfl (hb hby at_7) k) ?_
    show own_GoW p e below s _ _ _ _ _ (T0.setTop (mkF m 9 #[.val (.int pa), .val (.int pb), .val (.int pc), .val (.int pd), .val (.int pe), .val (.int pm), .unset, .unset, .unset, .unset, .unset, .unset, .unset, .unset, .unset] [(.int (72 : Int32))]))
    refine own_stW (fun _ k => XS.goto X0.here hx rfl (pc0 := 9) (pc' := 18) rfl (hb hby at_9) (by decide) (by decide) k) ?_
    show own_GoW p e below s _ _ _ _ _ (T0.setTop (mkF m 18 #[.val (.int pa), .val (.int pb), .val (.int pc), .val (.int pd), .val (.int pe), .val (.int pm), .unset, .unset, .unset, .unset, .unset, .unset, .unset, .unset, .unset] [(.int (72 : Int32))]))
    exact J18 _ _ _ X0 e0 N0 (Or.inr ⟨c137, rfl⟩)
set_option maxRecDepth 65536 in
set_option maxHeartbeats 40000000 in
theorem comes_1 {Post : Tables → Env → Array Value → State → Outcome → State → Prop} (hpost : ∀ tb e args s v u, (limb_1_1.after args s (.returned v) u = true ∧ limb_1_2.after args s (.returned v) u = true ∧ True) → ReturnedEndW s (.returned v) u (Jvm.fieldLocs frame_1_writes args s ++ Jvm.arrayLocs frame_1_arrays args s ++ Jvm.staticLocs frame_1_statics s) 24 3200 → Post tb e args s (.returned v) u) :
    ArmFor flags0 classFile x code maxLocals ret World_1 tables_1 room_1 Calls_1 rest_1 Pre_1 Post := by
  intro l hfl _ _ p e ha hc hk s m args below hf hA hF happ hP
  obtain ⟨hcalls, hrest, hpre⟩ := hP
  obtain ⟨-, -, -, hnamed, -, -, -, hat⟩ := (Spec.applies_iff hf).mp happ
  obtain ⟨hg, hn⟩ := and_e (Cond.before_iff.mp (show (Jvm.Cond.and given_1 narrow_1).before args s = true from hpre))
  obtain ⟨g2, g3⟩ := and_e hg
  obtain ⟨g4, g5⟩ := and_e g3
  obtain ⟨g6, g7⟩ := and_e g5
  obtain ⟨g8, g9⟩ := and_e g7
  obtain ⟨g10, g11⟩ := and_e g9
  obtain ⟨g12, g13⟩ := and_e g11
  obtain ⟨w0, w1, w2, w3, w4, w5, rfl⟩ : ∃ w0 w1 w2 w3 w4 w5 : Value, args = #[w0, w1, w2, w3, w4, w5] := by
    have hs : args.size = 6 := by simpa [Cond.value, given_1] using g2
    obtain ⟨L⟩ := args
    match L, hs with
    | [w0, w1, w2, w3, w4, w5], _ => exact ⟨w0, w1, w2, w3, w4, w5, rfl⟩
  have hw := fun d (hd : d ∈ tables_1) => atoms_spec (ws := Jvm.Cond.code x code maxLocals ret :: tables_1) hat d (List.mem_cons_of_mem _ hd)
  have hfit : Fit s := fun {y c} hc i hi => by
    obtain ⟨ha, rfl⟩ := Array.getElem?_eq_some_iff.mp hc
    have q := List.all_eq_true.mp ((Array.all_eq_true_iff_forall_mem.mp hF) _ (Array.getElem_mem ha)) i (List.mem_range.mpr hi)
    simpa [Array.getElem?_eq_getElem hi] using q
  obtain ⟨hsets, hown0⟩ := atoms_of _ (rest_1_c_eq ▸ (show rest_1_c.before _ s = true from hrest))
  have hr0 := Cond.before_iff.mp hown0
  obtain ⟨i0, ei0⟩ := is_v g4
  obtain rfl : w0 = (.int i0) := Option.some.inj ei0
  obtain ⟨i1, ei1⟩ := is_v g6
  obtain rfl : w1 = (.int i1) := Option.some.inj ei1
  obtain ⟨i2, ei2⟩ := is_v g8
  obtain rfl : w2 = (.int i2) := Option.some.inj ei2
  obtain ⟨i3, ei3⟩ := is_v g10
  obtain rfl : w3 = (.int i3) := Option.some.inj ei3
  obtain ⟨i4, ei4⟩ := is_v g12
  obtain rfl : w4 = (.int i4) := Option.some.inj ei4
  obtain ⟨i5, ei5⟩ := is_v g13
  obtain rfl : w5 = (.int i5) := Option.some.inj ei5
  have n5 := not_v (Cond.before_iff.mp (hsets _ (List.mem_of_getElem? (i := 2) rfl)))
  obtain ⟨zc, ezc⟩ := is_v (Cond.before_iff.mp (hsets _ (List.mem_of_getElem? (i := 1) rfl)))
  have CS : own_CS s := ⟨zc, Sta.start ezc (Or.inl (hsets _ (List.mem_of_getElem? (i := 0) rfl))), gotF (Cond.eq_ints ezc (Term.int_eval (0))) n5⟩
  obtain ⟨fmv, efm, rfm⟩ := isR_v (Cond.before_iff.mp (hsets _ (List.mem_of_getElem? (i := 8) rfl)))
  have FM : own_FM s := ⟨fmv, Sta.start efm (Or.inl (hsets _ (List.mem_of_getElem? (i := 7) rfl))), rfm⟩
  have hCH : CHv s own_EL s.vm s.heap := CHv.start (own_hEL hw) (fun p hp => (show Jvm.Lit.constHeld s p.1 p.2 from hcalls.1 p (by simpa [consts_1, own_EL] using hp))) (show Jvm.Lit.compactW.before _ s = true from (hsets _ (List.mem_of_getElem? (i := 2) rfl))) (hw _ (List.mem_of_getElem? (i := 19) rfl)) (hw _ (List.mem_of_getElem? (i := 5) rfl))
  obtain ⟨n, o, h1, h2, h3, _, L, rfl, ⟨rfl, N⟩, -, hq⟩ := lawW l s _ hw tables_1 i0 i1 i2 i3 i4 i5 s.heap s.heap.size (Old.start s) CS FM p e ha hc hk s m _ below hf ((Spec.applies_iff_loose hf).mp happ).1 ⟨rfl, State.Warmed39.refl s, rfl, hCH⟩ trivial
  refine ⟨n, _, h1, h2, h3, hpost _ _ _ _ _ _ ⟨Cond.after_iff.mpr rfl, Cond.after_iff.mpr (eq_i res_at (Term.int_eval (1)) rfl), trivial⟩ ⟨hq.1, hq.2.1, hq.2.2.1, (hq.2.2.2.sift fun y hy => Or.inr (N y hy)).mono (by decide) (by decide)⟩⟩
theorem main_1_1 : Claimed_1_1 := comes_1 fun _ _ _ _ _ _ h hF => ⟨h.1, hF⟩
theorem main_1_2 : Claimed_1_2 := comes_1 fun _ _ _ _ _ _ h hF => ⟨h.2.1, hF⟩
end Jvm.Pilot.@@N@@
namespace Jvm.Pilot.@@N@@
open Jvm Jvm.ClassFile Sem Op Lib Jvm.Free Jvm.Stand Jvm.Pilot.@@N@@.Jvm.D
/-! MADE BY PROGRAM (witnessworld.py) out of the Statement's table words and the real class files: 21 classes; the members and pool entries that the words name. The judged class is class 1, her method 2. -/
namespace start1
open Jvm.ClassFile
def u (s : String) : CpInfo := .utf8 (stringToUtf16 s)
/-- a pool by its gaps: so many unusable entries, then the entry; so many at the end -/
def gap : Nat → List CpInfo → List CpInfo
  | 0, r => r
  | n + 1, r => .unusable :: gap n r
def poolList (es : List (Nat × CpInfo)) (last : Nat) : List CpInfo := es.foldr (fun e r => gap e.1 (e.2 :: r)) (gap last [])
def pool (es : List (Nat × CpInfo)) (last : Nat) : Array CpInfo := ⟨poolList es last⟩
def fileOf (pool : Array CpInfo) (this : Nat) (attrs : Array Attribute := #[]) (ms : Array MethodInfo := #[]) (fl : Nat := 33) (sup : Nat := 0) (ifs : Array Nat := #[]) (fds : Array FieldInfo := #[]) : ClassFile where
  minorVersion := 0
  majorVersion := 65
  constantPool := pool
  accessFlags := fl
  thisClass := this
  superClass := sup
  interfaces := ifs
  fields := fds
  methods := ms
  attributes := attrs
def plain (name : String) (sup : Option ClassId) : Class where
  name := name
  kind := .ordinary
  loader := none
  accessFlags := 33
  super := sup
  interfaces := #[]
  cf := none
  fields := #[]
  methods := #[]
  instanceTypes := #[]
  staticTypes := #[]
  resolved := #[]
  callSites := []
  init := .initialized
  statics := none
  mirror := none

def pool0 : Array CpInfo := pool [(5, u "<init>"), (0, u "()V"), (1, .class_ 10), (1, u "java/lang/Object")] 113

def k0c0 : Code := { maxStack := 0, maxLocals := 1, code := object_method_1_code, exceptionTable := #[], attributes := #[] }
def k0m0 : Method := { name := "<init>", desc := "()V", sig := { parameters := [], returnType := none }, accessFlags := 1, code := some k0c0 }
/-- java/lang/Object -/
def k0 : Class := { plain "java/lang/Object" none with
  accessFlags := 33
  interfaces := #[]
  cf := some (fileOf pool0 8 #[] #[{ accessFlags := 1, nameIndex := 5, descriptorIndex := 6, attributes := #[] }] 33 0 #[] #[])
  fields := #[]
  methods := #[k0m0]
  instanceTypes := #[]
  staticTypes := #[]
  resolved := Array.replicate 124 none
  statics := none }

def pool1 : Array CpInfo := pool [(2, .class_ 4), (1, u "java/lang/Object"), (0, u "<init>"), (0, u "()V"), (0, .class_ 8), (0, u "java/lang/String"), (0, .methodref 7 10), (0, .nameAndType 5 11), (0, u "([C)V"), (0, .methodref 13 14), (0, .class_ 15), (0, .nameAndType 16 17), (0, u "com/example/kaname/kaname/config/ActionDeclarationRouteMethodPinLaw"), (0, u "make"), (0, u "(ICCCCC)Ljava/lang/String;"), (0, .methodref 19 20), (0, .class_ 21), (0, .nameAndType 22 23), (0, u "com/example/kaname/kaname/config/ActionDeclaration"), (0, u "routeMethod"), (0, u "(Ljava/lang/String;)Ljava/lang/String;"), (0, .methodref 7 25), (0, .nameAndType 26 27), (0, u "length"), (0, u "()I"), (0, .methodref 7 29), (0, .nameAndType 30 31), (0, u "charAt"), (0, u "(I)C"), (0, .methodref 7 33), (0, .nameAndType 34 35), (0, u "equals"), (0, u "(Ljava/lang/Object;)Z"), (3, u "law"), (0, u "(IIIIII)Z")] 2

def k1m0 : Method := { name := "<init>", desc := "()V", sig := { parameters := [], returnType := none }, accessFlags := 1, code := none }
def k1c1 : Code := { maxStack := 6, maxLocals := 6, code := method_2_code, exceptionTable := #[], attributes := #[] }
def k1m1 : Method := { name := "make", desc := "(ICCCCC)Ljava/lang/String;", sig := { parameters := [.int, .char, .char, .char, .char, .char], returnType := some (.object "java/lang/String") }, accessFlags := 10, code := some k1c1 }
def k1c2 : Code := { maxStack := 6, maxLocals := 15, code := code, exceptionTable := #[], attributes := #[] }
def k1m2 : Method := { name := "law", desc := "(IIIIII)Z", sig := { parameters := [.int, .int, .int, .int, .int, .int], returnType := some .boolean }, accessFlags := 9, code := some k1c2 }
/-- com/example/kaname/kaname/config/ActionDeclarationRouteMethodPinLaw -/
def k1 : Class := { plain "com/example/kaname/kaname/config/ActionDeclarationRouteMethodPinLaw" (some 0) with
  accessFlags := 49
  interfaces := #[]
  cf := some (fileOf pool1 13 #[] #[{ accessFlags := 1, nameIndex := 5, descriptorIndex := 6, attributes := #[] }, { accessFlags := 10, nameIndex := 16, descriptorIndex := 17, attributes := #[] }, { accessFlags := 9, nameIndex := 39, descriptorIndex := 40, attributes := #[] }] 49 2 #[] #[])
  fields := #[]
  methods := #[k1m0, k1m1, k1m2]
  instanceTypes := #[]
  staticTypes := #[]
  resolved := Array.replicate 43 none
  statics := none }

def pool2 : Array CpInfo := pool [(1, .class_ 2), (0, u "java/io/Serializable"), (0, .class_ 4), (0, u "java/lang/Object")] 2

/-- java/io/Serializable -/
def k2 : Class := { plain "java/io/Serializable" (some 0) with
  accessFlags := 1537
  interfaces := #[]
  cf := some (fileOf pool2 1 #[] #[] 1537 3 #[] #[])
  fields := #[]
  methods := #[]
  instanceTypes := #[]
  staticTypes := #[]
  resolved := Array.replicate 7 none
  statics := none }

def pool3 : Array CpInfo := pool [(1, .class_ 2), (0, u "java/lang/Comparable"), (0, .class_ 4), (0, u "java/lang/Object")] 7

/-- java/lang/Comparable -/
def k3 : Class := { plain "java/lang/Comparable" (some 0) with
  accessFlags := 1537
  interfaces := #[]
  cf := some (fileOf pool3 1 #[] #[] 1537 3 #[] #[])
  fields := #[]
  methods := #[]
  instanceTypes := #[]
  staticTypes := #[]
  resolved := Array.replicate 12 none
  statics := none }

def pool4 : Array CpInfo := pool [(2, .class_ 4), (1, u "java/lang/CharSequence"), (42, .class_ 48), (0, u "java/lang/CharSequence$1CodePointIterator"), (10, .class_ 60), (0, u "java/lang/CharSequence$1CharIterator"), (5, .class_ 67), (0, u "java/lang/Object")] 63

/-- java/lang/CharSequence -/
def k4 : Class := { plain "java/lang/CharSequence" (some 0) with
  accessFlags := 1537
  interfaces := #[]
  cf := some (fileOf pool4 2 #[.nestMembers #[47, 59]] #[] 1537 66 #[] #[])
  fields := #[]
  methods := #[]
  instanceTypes := #[]
  staticTypes := #[]
  resolved := Array.replicate 131 none
  statics := none }

def pool5 : Array CpInfo := pool [(1, .class_ 2), (0, u "java/lang/constant/Constable"), (0, .class_ 4), (0, u "java/lang/Object")] 6

/-- java/lang/constant/Constable -/
def k5 : Class := { plain "java/lang/constant/Constable" (some 0) with
  accessFlags := 1537
  interfaces := #[]
  cf := some (fileOf pool5 1 #[] #[] 1537 3 #[] #[])
  fields := #[]
  methods := #[]
  instanceTypes := #[]
  staticTypes := #[]
  resolved := Array.replicate 11 none
  statics := none }

def pool6 : Array CpInfo := pool [(1, .class_ 2), (0, u "java/lang/constant/ConstantDesc"), (0, .class_ 4), (0, u "java/lang/Object")] 32

/-- java/lang/constant/ConstantDesc -/
def k6 : Class := { plain "java/lang/constant/ConstantDesc" (some 0) with
  accessFlags := 1537
  interfaces := #[]
  cf := some (fileOf pool6 1 #[] #[] 1537 3 #[] #[])
  fields := #[]
  methods := #[]
  instanceTypes := #[]
  staticTypes := #[]
  resolved := Array.replicate 37 none
  statics := none }

def pool7 : Array CpInfo := pool [(1, .methodref 2 3), (0, .class_ 4), (0, .nameAndType 5 6), (0, u "java/lang/Object"), (0, u "<init>"), (0, u "()V"), (0, .string 8), (0, u ""), (0, .fieldref 10 11), (0, .class_ 12), (0, .nameAndType 13 14), (0, u "java/lang/String"), (0, u "value"), (0, u "[B"), (0, .fieldref 10 16), (0, .nameAndType 17 18), (0, u "coder"), (0, u "B"), (2, u "hash"), (0, u "I"), (2, u "hashIsZero"), (0, u "Z"), (0, .methodref 10 28), (0, .nameAndType 5 29), (0, u "([CIILjava/lang/Void;)V"), (8, .fieldref 10 39), (0, .nameAndType 40 26), (0, u "COMPACT_STRINGS"), (1, .class_ 44), (1, u "java/lang/StringUTF16"), (0, u "compress"), (1, .methodref 42 48), (0, .nameAndType 49 50), (0, u "coderFromArrayLen"), (0, u "([BI)B"), (56, .class_ 109), (1, u "java/lang/StringLatin1"), (32, u "()Z"), (34, .methodref 42 178), (0, .nameAndType 45 179), (0, u "([CII)[B"), (154, u "()I"), (0, .methodref 10 336), (0, .nameAndType 17 337), (0, u "()B"), (25, u "([BI)C"), (27, u "(II)V"), (35, u "(I)C"), (64, .methodref 10 493), (0, .nameAndType 494 142), (0, u "isLatin1"), (0, .methodref 107 496), (0, .nameAndType 497 363), (0, u "charAt"), (3, u "checkIndex"), (5, u "length"), (33, .methodref 107 542), (0, .nameAndType 543 544), (0, u "equals"), (0, u "([B[B)Z"), (28, u "(Ljava/lang/Object;)Z"), (1, .class_ 576), (0, u "java/lang/CharSequence"), (22, u "CASE_INSENSITIVE_ORDER"), (0, u "Ljava/util/Comparator;"), (409, u "([C)V"), (42, .fieldref 1054 1055), (0, .class_ 1056), (0, .nameAndType 1057 1058), (0, u "jdk/internal/util/Preconditions"), (0, u "SIOOBE_FORMATTER"), (0, u "Ljava/util/function/BiFunction;"), (0, .methodref 1054 1060), (0, .nameAndType 501 1061), (0, u "(IILjava/util/function/BiFunction;)I"), (39, u "serialPersistentFields"), (0, u "[Ljava/io/ObjectStreamField;"), (0, .class_ 1104), (0, u "java/lang/String$CaseInsensitiveComparator"), (1, .class_ 1107), (0, u "java/io/Serializable"), (0, .class_ 1109), (0, u "java/lang/Comparable"), (0, .class_ 1111), (0, u "java/lang/constant/Constable"), (0, .class_ 1113), (0, u "java/lang/constant/ConstantDesc"), (2, u "serialVersionUID"), (0, u "J"), (3, u "REPL"), (0, u "C"), (2, u "LATIN1"), (1, u "UTF16")] 323

def k7m0 : Method := { name := "<init>", desc := "()V", sig := { parameters := [], returnType := none }, accessFlags := 1, code := none }
def k7c1 : Code := { maxStack := 5, maxLocals := 2, code := jdk_42_method_3_code, exceptionTable := #[], attributes := #[] }
def k7m1 : Method := { name := "<init>", desc := "([C)V", sig := { parameters := [(.array .char)], returnType := none }, accessFlags := 1, code := some k7c1 }
def k7c2 : Code := { maxStack := 2, maxLocals := 1, code := jdk_42_method_54_code, exceptionTable := #[], attributes := #[] }
def k7m2 : Method := { name := "length", desc := "()I", sig := { parameters := [], returnType := some .int }, accessFlags := 1, code := some k7c2 }
def k7c3 : Code := { maxStack := 2, maxLocals := 2, code := jdk_42_method_56_code, exceptionTable := #[], attributes := #[] }
def k7m3 : Method := { name := "charAt", desc := "(I)C", sig := { parameters := [.int], returnType := some .char }, accessFlags := 1, code := some k7c3 }
def k7c4 : Code := { maxStack := 2, maxLocals := 3, code := jdk_42_method_66_code, exceptionTable := #[], attributes := #[] }
def k7m4 : Method := { name := "equals", desc := "(Ljava/lang/Object;)Z", sig := { parameters := [(.object "java/lang/Object")], returnType := some .boolean }, accessFlags := 1, code := some k7c4 }
def k7c5 : Code := { maxStack := 4, maxLocals := 6, code := jdk_42_method_149_code, exceptionTable := #[], attributes := #[] }
def k7m5 : Method := { name := "<init>", desc := "([CIILjava/lang/Void;)V", sig := { parameters := [(.array .char), .int, .int, (.object "java/lang/Void")], returnType := none }, accessFlags := 2, code := some k7c5 }
def k7c6 : Code := { maxStack := 1, maxLocals := 1, code := jdk_42_method_152_code, exceptionTable := #[], attributes := #[] }
def k7m6 : Method := { name := "coder", desc := "()B", sig := { parameters := [], returnType := some .byte }, accessFlags := 0, code := some k7c6 }
def k7c7 : Code := { maxStack := 1, maxLocals := 1, code := jdk_42_method_154_code, exceptionTable := #[], attributes := #[] }
def k7m7 : Method := { name := "isLatin1", desc := "()Z", sig := { parameters := [], returnType := some .boolean }, accessFlags := 0, code := some k7c7 }
def k7c8 : Code := { maxStack := 3, maxLocals := 2, code := jdk_42_method_155_code, exceptionTable := #[], attributes := #[] }
def k7m8 : Method := { name := "checkIndex", desc := "(II)V", sig := { parameters := [.int, .int], returnType := none }, accessFlags := 8, code := some k7c8 }
/-- java/lang/String -/
def k7 : Class := { plain "java/lang/String" (some 0) with
  accessFlags := 49
  interfaces := #[2, 3, 4, 5, 6]
  cf := some (fileOf pool7 10 #[.nestMembers #[1103]] #[{ accessFlags := 1, nameIndex := 5, descriptorIndex := 6, attributes := #[] }, { accessFlags := 1, nameIndex := 5, descriptorIndex := 1010, attributes := #[] }, { accessFlags := 1, nameIndex := 507, descriptorIndex := 334, attributes := #[] }, { accessFlags := 1, nameIndex := 497, descriptorIndex := 427, attributes := #[] }, { accessFlags := 1, nameIndex := 543, descriptorIndex := 573, attributes := #[] }, { accessFlags := 2, nameIndex := 5, descriptorIndex := 29, attributes := #[] }, { accessFlags := 0, nameIndex := 17, descriptorIndex := 337, attributes := #[] }, { accessFlags := 0, nameIndex := 494, descriptorIndex := 142, attributes := #[] }, { accessFlags := 8, nameIndex := 501, descriptorIndex := 391, attributes := #[] }] 49 2 #[1106, 1108, 575, 1110, 1112] #[{ accessFlags := 18, nameIndex := 13, descriptorIndex := 14, attributes := #[] }, { accessFlags := 18, nameIndex := 17, descriptorIndex := 18, attributes := #[] }, { accessFlags := 2, nameIndex := 21, descriptorIndex := 22, attributes := #[] }, { accessFlags := 2, nameIndex := 25, descriptorIndex := 26, attributes := #[] }, { accessFlags := 26, nameIndex := 1116, descriptorIndex := 1117, attributes := #[] }, { accessFlags := 24, nameIndex := 40, descriptorIndex := 26, attributes := #[] }, { accessFlags := 26, nameIndex := 1101, descriptorIndex := 1102, attributes := #[] }, { accessFlags := 26, nameIndex := 1121, descriptorIndex := 1122, attributes := #[] }, { accessFlags := 25, nameIndex := 599, descriptorIndex := 600, attributes := #[] }, { accessFlags := 24, nameIndex := 1125, descriptorIndex := 18, attributes := #[] }, { accessFlags := 24, nameIndex := 1127, descriptorIndex := 18, attributes := #[] }])
  fields := #[{ name := "value", type := (.array .byte), accessFlags := 18, slot := 0, constantValue := 0 }, { name := "coder", type := .byte, accessFlags := 18, slot := 1, constantValue := 0 }, { name := "hash", type := .int, accessFlags := 2, slot := 2, constantValue := 0 }, { name := "hashIsZero", type := .boolean, accessFlags := 2, slot := 3, constantValue := 0 }, { name := "serialVersionUID", type := .long, accessFlags := 26, slot := 0, constantValue := 0 }, { name := "COMPACT_STRINGS", type := .boolean, accessFlags := 24, slot := 1, constantValue := 0 }, { name := "serialPersistentFields", type := (.array (.object "java/io/ObjectStreamField")), accessFlags := 26, slot := 2, constantValue := 0 }, { name := "REPL", type := .char, accessFlags := 26, slot := 3, constantValue := 0 }, { name := "CASE_INSENSITIVE_ORDER", type := (.object "java/util/Comparator"), accessFlags := 25, slot := 4, constantValue := 0 }, { name := "LATIN1", type := .byte, accessFlags := 24, slot := 5, constantValue := 0 }, { name := "UTF16", type := .byte, accessFlags := 24, slot := 6, constantValue := 0 }]
  methods := #[k7m0, k7m1, k7m2, k7m3, k7m4, k7m5, k7m6, k7m7, k7m8]
  instanceTypes := #[(.array .byte), .byte, .int, .boolean]
  staticTypes := #[.long, .boolean, (.array (.object "java/io/ObjectStreamField")), .char, (.object "java/util/Comparator"), .byte, .byte]
  resolved := Array.replicate 1451 none
  statics := some 0 }

def pool8 : Array CpInfo := pool [(2, .class_ 4), (1, u "java/lang/Object"), (0, u "<init>"), (0, u "()V"), (0, .class_ 8), (0, u "java/lang/Record")] 13

def k8m0 : Method := { name := "<init>", desc := "()V", sig := { parameters := [], returnType := none }, accessFlags := 4, code := none }
/-- java/lang/Record -/
def k8 : Class := { plain "java/lang/Record" (some 0) with
  accessFlags := 1057
  interfaces := #[]
  cf := some (fileOf pool8 7 #[] #[{ accessFlags := 4, nameIndex := 5, descriptorIndex := 6, attributes := #[] }] 1057 2 #[] #[])
  fields := #[]
  methods := #[k8m0]
  instanceTypes := #[]
  staticTypes := #[]
  resolved := Array.replicate 22 none
  statics := none }

def pool9 : Array CpInfo := pool [(2, .class_ 4), (1, u "java/lang/Record"), (9, .class_ 16), (1, u "com/example/kaname/kaname/config/ActionDeclaration"), (0, u "method"), (0, u "Ljava/lang/String;"), (2, u "path"), (2, u "className"), (2, u "form"), (2, u "input"), (2, u "inputScreen"), (2, u "line"), (0, u "I"), (2, u "outcomes"), (0, u "Ljava/util/List;"), (0, .string 43), (0, u "HEAD"), (0, .methodref 45 46), (0, .class_ 47), (0, .nameAndType 48 49), (0, u "java/lang/String"), (0, u "equals"), (0, u "(Ljava/lang/Object;)Z"), (0, .string 51), (0, u "GET"), (79, u "METHODS"), (0, u "Ljava/util/Set;"), (8, u "routeMethod"), (0, u "(Ljava/lang/String;)Ljava/lang/String;")] 48

def k9c0 : Code := { maxStack := 2, maxLocals := 1, code := prog_24_method_2_code, exceptionTable := #[], attributes := #[] }
def k9m0 : Method := { name := "routeMethod", desc := "(Ljava/lang/String;)Ljava/lang/String;", sig := { parameters := [(.object "java/lang/String")], returnType := some (.object "java/lang/String") }, accessFlags := 9, code := some k9c0 }
/-- com/example/kaname/kaname/config/ActionDeclaration -/
def k9 : Class := { plain "com/example/kaname/kaname/config/ActionDeclaration" (some 8) with
  accessFlags := 49
  interfaces := #[]
  cf := some (fileOf pool9 14 #[] #[{ accessFlags := 9, nameIndex := 141, descriptorIndex := 142, attributes := #[] }] 49 2 #[] #[{ accessFlags := 18, nameIndex := 17, descriptorIndex := 18, attributes := #[] }, { accessFlags := 18, nameIndex := 21, descriptorIndex := 18, attributes := #[] }, { accessFlags := 18, nameIndex := 24, descriptorIndex := 18, attributes := #[] }, { accessFlags := 18, nameIndex := 27, descriptorIndex := 18, attributes := #[] }, { accessFlags := 18, nameIndex := 30, descriptorIndex := 18, attributes := #[] }, { accessFlags := 18, nameIndex := 33, descriptorIndex := 18, attributes := #[] }, { accessFlags := 18, nameIndex := 36, descriptorIndex := 37, attributes := #[] }, { accessFlags := 18, nameIndex := 40, descriptorIndex := 41, attributes := #[] }, { accessFlags := 25, nameIndex := 131, descriptorIndex := 132, attributes := #[] }])
  fields := #[{ name := "method", type := (.object "java/lang/String"), accessFlags := 18, slot := 0, constantValue := 0 }, { name := "path", type := (.object "java/lang/String"), accessFlags := 18, slot := 1, constantValue := 0 }, { name := "className", type := (.object "java/lang/String"), accessFlags := 18, slot := 2, constantValue := 0 }, { name := "form", type := (.object "java/lang/String"), accessFlags := 18, slot := 3, constantValue := 0 }, { name := "input", type := (.object "java/lang/String"), accessFlags := 18, slot := 4, constantValue := 0 }, { name := "inputScreen", type := (.object "java/lang/String"), accessFlags := 18, slot := 5, constantValue := 0 }, { name := "line", type := .int, accessFlags := 18, slot := 6, constantValue := 0 }, { name := "outcomes", type := (.object "java/util/List"), accessFlags := 18, slot := 7, constantValue := 0 }, { name := "METHODS", type := (.object "java/util/Set"), accessFlags := 25, slot := 0, constantValue := 0 }]
  methods := #[k9m0]
  instanceTypes := #[(.object "java/lang/String"), (.object "java/lang/String"), (.object "java/lang/String"), (.object "java/lang/String"), (.object "java/lang/String"), (.object "java/lang/String"), .int, (.object "java/util/List")]
  staticTypes := #[(.object "java/util/Set")]
  resolved := Array.replicate 191 none
  statics := none }

def pool10 : Array CpInfo := pool [(1, .class_ 2), (0, u "java/lang/String"), (1, .class_ 6), (1, u "java/lang/Object"), (0, u "<init>"), (0, u "()V"), (0, .methodref 1 10), (0, .nameAndType 11 12), (0, u "checkIndex"), (0, u "(II)V"), (1, .class_ 16), (1, u "java/lang/StringLatin1"), (36, u "([BI)C"), (67, u "$assertionsDisabled"), (0, u "Z"), (98, .class_ 223), (1, u "java/lang/StringLatin1$LinesSpliterator"), (28, u "charAt"), (28, u "equals"), (0, u "([B[B)Z"), (107, .class_ 391), (0, u "java/lang/StringLatin1$CharsSpliterator")] 3

def k10m0 : Method := { name := "<init>", desc := "()V", sig := { parameters := [], returnType := none }, accessFlags := 0, code := none }
def k10c1 : Code := { maxStack := 2, maxLocals := 2, code := jdk_43_method_2_code, exceptionTable := #[], attributes := #[] }
def k10m1 : Method := { name := "charAt", desc := "([BI)C", sig := { parameters := [(.array .byte), .int], returnType := some .char }, accessFlags := 9, code := some k10c1 }
def k10c2 : Code := { maxStack := 3, maxLocals := 3, code := jdk_43_method_13_code, exceptionTable := #[], attributes := #[] }
def k10m2 : Method := { name := "equals", desc := "([B[B)Z", sig := { parameters := [(.array .byte), (.array .byte)], returnType := some .boolean }, accessFlags := 9, code := some k10c2 }
/-- java/lang/StringLatin1 -/
def k10 : Class := { plain "java/lang/StringLatin1" (some 0) with
  accessFlags := 48
  interfaces := #[]
  cf := some (fileOf pool10 14 #[.nestMembers #[390, 221]] #[{ accessFlags := 0, nameIndex := 7, descriptorIndex := 8, attributes := #[] }, { accessFlags := 9, nameIndex := 252, descriptorIndex := 53, attributes := #[] }, { accessFlags := 9, nameIndex := 281, descriptorIndex := 282, attributes := #[] }] 48 4 #[] #[{ accessFlags := 4120, nameIndex := 121, descriptorIndex := 122, attributes := #[] }])
  fields := #[{ name := "$assertionsDisabled", type := .boolean, accessFlags := 4120, slot := 0, constantValue := 0 }]
  methods := #[k10m0, k10m1, k10m2]
  instanceTypes := #[]
  staticTypes := #[.boolean]
  resolved := Array.replicate 395 none
  statics := none }

def pool11 : Array CpInfo := pool [(6, .class_ 8), (1, u "java/lang/Object"), (0, u "<init>"), (0, u "()V"), (1, .class_ 14), (1, u "java/lang/StringUTF16"), (31, u "$assertionsDisabled"), (0, u "Z"), (13, u "HI_BYTE_SHIFT"), (0, u "I"), (2, u "LO_BYTE_SHIFT"), (49, .methodref 12 116), (0, .nameAndType 117 118), (0, u "compress"), (0, u "([CI[BII)I"), (3, u "([CII)[B"), (138, u "coderFromArrayLen"), (0, u "([BI)B"), (106, .class_ 371), (1, u "java/lang/StringUTF16$LinesSpliterator"), (58, u "MAX_LENGTH"), (196, .class_ 628), (0, u "java/lang/StringUTF16$CodePointsSpliterator"), (0, .class_ 630), (0, u "java/lang/StringUTF16$CharsSpliterator")] 4

def k11m0 : Method := { name := "<init>", desc := "()V", sig := { parameters := [], returnType := none }, accessFlags := 0, code := none }
def k11c1 : Code := { maxStack := 2, maxLocals := 2, code := jdk_52_method_15_code, exceptionTable := #[], attributes := #[] }
def k11m1 : Method := { name := "coderFromArrayLen", desc := "([BI)B", sig := { parameters := [(.array .byte), .int], returnType := some .byte }, accessFlags := 8, code := some k11c1 }
def k11c2 : Code := { maxStack := 5, maxLocals := 6, code := jdk_52_method_16_code, exceptionTable := #[], attributes := #[] }
def k11m2 : Method := { name := "compress", desc := "([CII)[B", sig := { parameters := [(.array .char), .int, .int], returnType := some (.array .byte) }, accessFlags := 9, code := some k11c2 }
def k11c3 : Code := { maxStack := 3, maxLocals := 7, code := jdk_52_method_21_code, exceptionTable := #[], attributes := #[] }
def k11m3 : Method := { name := "compress", desc := "([CI[BII)I", sig := { parameters := [(.array .char), .int, (.array .byte), .int, .int], returnType := some .int }, accessFlags := 9, code := some k11c3 }
/-- java/lang/StringUTF16 -/
def k11 : Class := { plain "java/lang/StringUTF16" (some 0) with
  accessFlags := 48
  interfaces := #[]
  cf := some (fileOf pool11 12 #[.nestMembers #[627, 629, 369]] #[{ accessFlags := 0, nameIndex := 9, descriptorIndex := 10, attributes := #[] }, { accessFlags := 8, nameIndex := 261, descriptorIndex := 262, attributes := #[] }, { accessFlags := 9, nameIndex := 117, descriptorIndex := 122, attributes := #[] }, { accessFlags := 9, nameIndex := 117, descriptorIndex := 118, attributes := #[] }] 48 6 #[] #[{ accessFlags := 26, nameIndex := 61, descriptorIndex := 62, attributes := #[] }, { accessFlags := 26, nameIndex := 65, descriptorIndex := 62, attributes := #[] }, { accessFlags := 24, nameIndex := 430, descriptorIndex := 62, attributes := #[] }, { accessFlags := 4120, nameIndex := 46, descriptorIndex := 47, attributes := #[] }])
  fields := #[{ name := "HI_BYTE_SHIFT", type := .int, accessFlags := 26, slot := 0, constantValue := 0 }, { name := "LO_BYTE_SHIFT", type := .int, accessFlags := 26, slot := 1, constantValue := 0 }, { name := "MAX_LENGTH", type := .int, accessFlags := 24, slot := 2, constantValue := 0 }, { name := "$assertionsDisabled", type := .boolean, accessFlags := 4120, slot := 3, constantValue := 0 }]
  methods := #[k11m0, k11m1, k11m2, k11m3]
  instanceTypes := #[]
  staticTypes := #[.int, .int, .int, .boolean]
  resolved := Array.replicate 635 none
  statics := none }

def pool12 : Array CpInfo := pool [(2, .class_ 4), (1, u "java/lang/Object"), (0, u "<init>"), (0, u "()V"), (17, .class_ 26), (1, u "jdk/internal/util/Preconditions"), (6, u "checkIndex"), (21, .class_ 56), (0, u "jdk/internal/util/Preconditions$4"), (57, .class_ 115), (0, u "jdk/internal/util/Preconditions$1"), (7, u "SIOOBE_FORMATTER"), (0, u "Ljava/util/function/BiFunction;"), (0, .class_ 126), (0, u "jdk/internal/util/Preconditions$2"), (3, u "AIOOBE_FORMATTER"), (0, .class_ 132), (0, u "jdk/internal/util/Preconditions$3"), (3, u "IOOBE_FORMATTER"), (41, u "(IILjava/util/function/BiFunction;)I")] 15

def k12m0 : Method := { name := "<init>", desc := "()V", sig := { parameters := [], returnType := none }, accessFlags := 1, code := none }
def k12c1 : Code := { maxStack := 3, maxLocals := 3, code := jdk_41_method_11_code, exceptionTable := #[], attributes := #[] }
def k12m1 : Method := { name := "checkIndex", desc := "(IILjava/util/function/BiFunction;)I", sig := { parameters := [.int, .int, (.object "java/util/function/BiFunction")], returnType := some .int }, accessFlags := 9, code := some k12c1 }
/-- jdk/internal/util/Preconditions -/
def k12 : Class := { plain "jdk/internal/util/Preconditions" (some 0) with
  accessFlags := 33
  interfaces := #[]
  cf := some (fileOf pool12 24 #[.nestMembers #[55, 131, 125, 114]] #[{ accessFlags := 1, nameIndex := 5, descriptorIndex := 6, attributes := #[] }, { accessFlags := 9, nameIndex := 33, descriptorIndex := 178, attributes := #[] }] 33 2 #[] #[{ accessFlags := 25, nameIndex := 123, descriptorIndex := 124, attributes := #[] }, { accessFlags := 25, nameIndex := 130, descriptorIndex := 124, attributes := #[] }, { accessFlags := 25, nameIndex := 136, descriptorIndex := 124, attributes := #[] }])
  fields := #[{ name := "SIOOBE_FORMATTER", type := (.object "java/util/function/BiFunction"), accessFlags := 25, slot := 0, constantValue := 0 }, { name := "AIOOBE_FORMATTER", type := (.object "java/util/function/BiFunction"), accessFlags := 25, slot := 1, constantValue := 0 }, { name := "IOOBE_FORMATTER", type := (.object "java/util/function/BiFunction"), accessFlags := 25, slot := 2, constantValue := 0 }]
  methods := #[k12m0, k12m1]
  instanceTypes := #[]
  staticTypes := #[(.object "java/util/function/BiFunction"), (.object "java/util/function/BiFunction"), (.object "java/util/function/BiFunction")]
  resolved := Array.replicate 194 none
  statics := some 1 }

def pool13 : Array CpInfo := pool [(9, u "<init>"), (6, .class_ 18), (1, u "java/lang/Object"), (0, u "()V"), (1, .class_ 23), (1, u "jdk/internal/util/ArraysSupport"), (0, u "LOG2_ARRAY_LONG_INDEX_SCALE"), (0, u "I"), (2, u "U"), (0, u "Ljdk/internal/misc/Unsafe;"), (8, u "BIG_ENDIAN"), (0, u "Z"), (8, u "LOG2_BYTE_BIT_SIZE"), (4, u "LOG2_ARRAY_INT_INDEX_SCALE"), (54, u "JLA"), (0, u "Ljdk/internal/access/JavaLangAccess;"), (11, u "LOG2_ARRAY_BOOLEAN_INDEX_SCALE"), (9, u "LOG2_ARRAY_BYTE_INDEX_SCALE"), (5, u "LOG2_ARRAY_CHAR_INDEX_SCALE"), (5, u "LOG2_ARRAY_SHORT_INDEX_SCALE"), (18, u "LOG2_ARRAY_FLOAT_INDEX_SCALE"), (24, u "LOG2_ARRAY_DOUBLE_INDEX_SCALE"), (89, u "T_BOOLEAN"), (2, u "T_CHAR"), (1, u "T_FLOAT"), (1, u "T_DOUBLE"), (1, u "T_BYTE"), (1, u "T_SHORT"), (1, u "T_INT"), (1, u "T_LONG"), (1, u "SOFT_MAX_ARRAY_LENGTH")] 83

def k13m0 : Method := { name := "<init>", desc := "()V", sig := { parameters := [], returnType := none }, accessFlags := 2, code := none }
/-- jdk/internal/util/ArraysSupport -/
def k13 : Class := { plain "jdk/internal/util/ArraysSupport" (some 0) with
  accessFlags := 33
  interfaces := #[]
  cf := some (fileOf pool13 21 #[] #[{ accessFlags := 2, nameIndex := 9, descriptorIndex := 19, attributes := #[] }] 33 16 #[] #[{ accessFlags := 24, nameIndex := 28, descriptorIndex := 29, attributes := #[] }, { accessFlags := 26, nameIndex := 38, descriptorIndex := 39, attributes := #[] }, { accessFlags := 25, nameIndex := 121, descriptorIndex := 25, attributes := #[] }, { accessFlags := 25, nameIndex := 131, descriptorIndex := 25, attributes := #[] }, { accessFlags := 25, nameIndex := 137, descriptorIndex := 25, attributes := #[] }, { accessFlags := 25, nameIndex := 143, descriptorIndex := 25, attributes := #[] }, { accessFlags := 25, nameIndex := 53, descriptorIndex := 25, attributes := #[] }, { accessFlags := 25, nameIndex := 24, descriptorIndex := 25, attributes := #[] }, { accessFlags := 25, nameIndex := 162, descriptorIndex := 25, attributes := #[] }, { accessFlags := 25, nameIndex := 187, descriptorIndex := 25, attributes := #[] }, { accessFlags := 26, nameIndex := 48, descriptorIndex := 25, attributes := #[] }, { accessFlags := 25, nameIndex := 277, descriptorIndex := 25, attributes := #[] }, { accessFlags := 25, nameIndex := 280, descriptorIndex := 25, attributes := #[] }, { accessFlags := 25, nameIndex := 282, descriptorIndex := 25, attributes := #[] }, { accessFlags := 25, nameIndex := 284, descriptorIndex := 25, attributes := #[] }, { accessFlags := 25, nameIndex := 286, descriptorIndex := 25, attributes := #[] }, { accessFlags := 25, nameIndex := 288, descriptorIndex := 25, attributes := #[] }, { accessFlags := 25, nameIndex := 290, descriptorIndex := 25, attributes := #[] }, { accessFlags := 25, nameIndex := 292, descriptorIndex := 25, attributes := #[] }, { accessFlags := 26, nameIndex := 108, descriptorIndex := 109, attributes := #[] }, { accessFlags := 25, nameIndex := 294, descriptorIndex := 25, attributes := #[] }])
  fields := #[{ name := "U", type := (.object "jdk/internal/misc/Unsafe"), accessFlags := 24, slot := 0, constantValue := 0 }, { name := "BIG_ENDIAN", type := .boolean, accessFlags := 26, slot := 1, constantValue := 0 }, { name := "LOG2_ARRAY_BOOLEAN_INDEX_SCALE", type := .int, accessFlags := 25, slot := 2, constantValue := 0 }, { name := "LOG2_ARRAY_BYTE_INDEX_SCALE", type := .int, accessFlags := 25, slot := 3, constantValue := 0 }, { name := "LOG2_ARRAY_CHAR_INDEX_SCALE", type := .int, accessFlags := 25, slot := 4, constantValue := 0 }, { name := "LOG2_ARRAY_SHORT_INDEX_SCALE", type := .int, accessFlags := 25, slot := 5, constantValue := 0 }, { name := "LOG2_ARRAY_INT_INDEX_SCALE", type := .int, accessFlags := 25, slot := 6, constantValue := 0 }, { name := "LOG2_ARRAY_LONG_INDEX_SCALE", type := .int, accessFlags := 25, slot := 7, constantValue := 0 }, { name := "LOG2_ARRAY_FLOAT_INDEX_SCALE", type := .int, accessFlags := 25, slot := 8, constantValue := 0 }, { name := "LOG2_ARRAY_DOUBLE_INDEX_SCALE", type := .int, accessFlags := 25, slot := 9, constantValue := 0 }, { name := "LOG2_BYTE_BIT_SIZE", type := .int, accessFlags := 26, slot := 10, constantValue := 0 }, { name := "T_BOOLEAN", type := .int, accessFlags := 25, slot := 11, constantValue := 0 }, { name := "T_CHAR", type := .int, accessFlags := 25, slot := 12, constantValue := 0 }, { name := "T_FLOAT", type := .int, accessFlags := 25, slot := 13, constantValue := 0 }, { name := "T_DOUBLE", type := .int, accessFlags := 25, slot := 14, constantValue := 0 }, { name := "T_BYTE", type := .int, accessFlags := 25, slot := 15, constantValue := 0 }, { name := "T_SHORT", type := .int, accessFlags := 25, slot := 16, constantValue := 0 }, { name := "T_INT", type := .int, accessFlags := 25, slot := 17, constantValue := 0 }, { name := "T_LONG", type := .int, accessFlags := 25, slot := 18, constantValue := 0 }, { name := "JLA", type := (.object "jdk/internal/access/JavaLangAccess"), accessFlags := 26, slot := 19, constantValue := 0 }, { name := "SOFT_MAX_ARRAY_LENGTH", type := .int, accessFlags := 25, slot := 20, constantValue := 0 }]
  methods := #[k13m0]
  instanceTypes := #[]
  staticTypes := #[(.object "jdk/internal/misc/Unsafe"), .boolean, .int, .int, .int, .int, .int, .int, .int, .int, .int, .int, .int, .int, .int, .int, .int, .int, .int, (.object "jdk/internal/access/JavaLangAccess"), .int]
  resolved := Array.replicate 378 none
  statics := none }

def pool14 : Array CpInfo := pool [(1, u "java/lang/Cloneable"), (0, .class_ 1), (0, u "java/lang/Object"), (0, .class_ 3)] 3

/-- java/lang/Cloneable -/
def k14 : Class := { plain "java/lang/Cloneable" (some 0) with
  accessFlags := 1537
  interfaces := #[]
  cf := some (fileOf pool14 2 #[] #[] 1537 4 #[] #[])
  fields := #[]
  methods := #[]
  instanceTypes := #[]
  staticTypes := #[]
  resolved := Array.replicate 8 none
  statics := none }

/-- the primitive byte -/
def k15 : Class := { plain "byte" none with kind := .primitive 'B', accessFlags := 0x411 }
/-- [B -/
def k16 : Class := { plain "[B" (some 0) with kind := .array 15 .byte, interfaces := #[14, 2], accessFlags := 1041 }

/-- the primitive char -/
def k17 : Class := { plain "char" none with kind := .primitive 'C', accessFlags := 0x411 }
/-- [C -/
def k18 : Class := { plain "[C" (some 0) with kind := .array 17 .char, interfaces := #[14, 2], accessFlags := 1041 }

/-- the primitive int -/
def k19 : Class := { plain "int" none with kind := .primitive 'I', accessFlags := 0x411 }
/-- [I -/
def k20 : Class := { plain "[I" (some 0) with kind := .array 19 .int, interfaces := #[14, 2], accessFlags := 1041 }

def heap : Heap := #[{ cls := 7, slots := #[.long 0, .int 1, .null, .int 0, .null, .int 0, .int 0], vm := .statics 7 },
  { cls := 12, slots := #[.null, .null, .null], vm := .statics 12 }]
def classes : Array Class := #[k0, k1, k2, k3, k4, k5, k6, k7, k8, k9, k10, k11, k12, k13, k14, k15, k16, k17, k18, k19, k20]
def interned : List (Array UInt16 × Addr) := []
def slotsUsed : Nat := 10
def theMethod : MethodId := ⟨1, 2⟩
def args0 : Array Value := #[.int 5, .int 7, .int 9, .int 1000, .int 3, .int 64]
def aboutOver (below : List Frame) : State where
  vm := { classes := classes, interned := interned.toArray }
  heap := heap
  slotsUsed := slotsUsed
  threads := #[{ frames := .invoking theMethod args0 :: below }]
def below0 : List Frame := [.native { method := ⟨0, 0⟩, args := #[] }]
def about1 : State := aboutOver below0
def p0 : Program := .bare "" "" ""
def e0 : Env := launch0.env 0 0 0
theorem w_frames : about1.frames = Frame.invoking theMethod args0 :: below0 := rfl
set_option maxRecDepth 65536 in
theorem w_args : argsFit about1.vm theMethod args0 = true := by decide +kernel
set_option maxRecDepth 65536 in
theorem w_heap : heapFits about1 = true := by decide +kernel
set_option maxRecDepth 65536 in
theorem w_runnable : about1.curStatus? = some .runnable := by decide +kernel
set_option maxRecDepth 65536 in
theorem w_alone : about1.alone = true := by decide +kernel
set_option maxRecDepth 65536 in
theorem w_named : about1.methodNamed? x = some theMethod := by decide +kernel
set_option maxRecDepth 65536 in
theorem w_hears : about1.hears theMethod below0 = true := by decide +kernel
set_option maxRecDepth 65536 in
theorem w_ripe : about1.ripe theMethod args0 below0 = true := by decide +kernel
theorem w_running : about1.status = .running := rfl
set_option maxRecDepth 65536 in
theorem w_room : about1.hasRoom e0.platform room_1 = true :=
  launch0.hasRoom_least _ room_1 (by decide +kernel) (by decide +kernel) (by decide +kernel) (by decide +kernel) (by decide +kernel) (by decide +kernel)
theorem allAtoms_all (ts : List Jvm.Cond) (a : Array Jvm.Value) (st : Jvm.State) : (allAtoms ts).before a st = ts.all (fun c => c.before a st) := by
  induction ts with
  | nil => rfl
  | cons c t ih =>
    show (Jvm.Cond.and c (allAtoms t)).before a st = _
    rw [Jvm.Cond.before_and, ih, List.all_cons]
def words1 : List Jvm.Cond := Jvm.Cond.code x code maxLocals ret :: tables_1
/-- a 'code' word, met by the world's own term for the bytes: nothing is compared byte by byte -/
theorem code_word {y : MethodName} {bytes : ByteArray} {mx : Nat} {rt : Option FieldType} {a : Array Value} {s : State} {m : MethodId} {meth : Method} {c : Code} (h1 : s.methodNamed? y = some m) (h2 : s.vm.method? m = some meth) (h3 : meth.code = some c) (h4 : c.code = bytes)
    (h5 : (c.maxLocals == mx && c.exceptionTable.isEmpty && decide (c.maxStack ≤ mostOperands) && decide (meth.sig.returnType = rt) && !meth.locks && decide (parseMethodDescriptor y.desc = some meth.sig)) = true) : (Jvm.Cond.code y bytes mx rt).before a s = true := by
  simp only [Bool.and_eq_true, beq_iff_eq, Bool.not_eq_true', decide_eq_true_eq] at h5
  obtain ⟨⟨⟨⟨⟨g1, g2⟩, g3⟩, g4⟩, g5⟩, g6⟩ := h5
  simp [Cond.before, Cond.holds, Cond.value, h1, h2, h3, h4, g1, g2, g3, g4, g5, g6]
def isCode : Jvm.Cond → Bool
  | .code _ _ _ _ => true
  | _ => false
theorem all_split {L : List Jvm.Cond} {P : Jvm.Cond → Bool} (h1 : L.all (fun c => isCode c || P c) = true) (h2 : ∀ c ∈ L.filter isCode, P c = true) : L.all P = true := by
  refine List.all_eq_true.mpr fun c hc => ?_
  have h := List.all_eq_true.mp h1 c hc
  rcases Bool.eq_false_or_eq_true (isCode c) with hi | hi
  · exact h2 c (List.mem_filter.mpr ⟨hc, hi⟩)
  · simpa [hi] using h
set_option maxRecDepth 65536 in
theorem w_c0 : (Jvm.Cond.code x code maxLocals ret).before args0 about1 = true := code_word (m := ⟨1, 2⟩) (meth := k1m2) (c := k1c2) (by decide +kernel) rfl rfl rfl (by decide +kernel)
set_option maxRecDepth 65536 in
theorem w_c1 : (Jvm.Cond.code ({ cls := "com/example/kaname/kaname/config/ActionDeclarationRouteMethodPinLaw", name := "make", desc := "(ICCCCC)Ljava/lang/String;" } : Jvm.MethodName) method_2_code (6 : Nat) (Option.some (Jvm.ClassFile.FieldType.object "java/lang/String"))).before args0 about1 = true := code_word (m := ⟨1, 1⟩) (meth := k1m1) (c := k1c1) (by decide +kernel) rfl rfl rfl (by decide +kernel)
set_option maxRecDepth 65536 in
theorem w_c2 : (Jvm.Cond.code ({ cls := "java/lang/String", name := "<init>", desc := "([C)V" } : Jvm.MethodName) jdk_42_method_3_code (2 : Nat) (Option.none : Option Jvm.ClassFile.FieldType)).before args0 about1 = true := code_word (m := ⟨7, 1⟩) (meth := k7m1) (c := k7c1) (by decide +kernel) rfl rfl rfl (by decide +kernel)
set_option maxRecDepth 65536 in
theorem w_c3 : (Jvm.Cond.code ({ cls := "java/lang/String", name := "<init>", desc := "([CIILjava/lang/Void;)V" } : Jvm.MethodName) jdk_42_method_149_code (6 : Nat) (Option.none : Option Jvm.ClassFile.FieldType)).before args0 about1 = true := code_word (m := ⟨7, 5⟩) (meth := k7m5) (c := k7c5) (by decide +kernel) rfl rfl rfl (by decide +kernel)
set_option maxRecDepth 65536 in
theorem w_c4 : (Jvm.Cond.code ({ cls := "java/lang/Object", name := "<init>", desc := "()V" } : Jvm.MethodName) object_method_1_code (1 : Nat) (Option.none : Option Jvm.ClassFile.FieldType)).before args0 about1 = true := code_word (m := ⟨0, 0⟩) (meth := k0m0) (c := k0c0) (by decide +kernel) rfl rfl rfl (by decide +kernel)
set_option maxRecDepth 65536 in
theorem w_c5 : (Jvm.Cond.code ({ cls := "com/example/kaname/kaname/config/ActionDeclaration", name := "routeMethod", desc := "(Ljava/lang/String;)Ljava/lang/String;" } : Jvm.MethodName) prog_24_method_2_code (1 : Nat) (Option.some (Jvm.ClassFile.FieldType.object "java/lang/String"))).before args0 about1 = true := code_word (m := ⟨9, 0⟩) (meth := k9m0) (c := k9c0) (by decide +kernel) rfl rfl rfl (by decide +kernel)
set_option maxRecDepth 65536 in
theorem w_c6 : (Jvm.Cond.code ({ cls := "java/lang/String", name := "equals", desc := "(Ljava/lang/Object;)Z" } : Jvm.MethodName) jdk_42_method_66_code (3 : Nat) (Option.some Jvm.ClassFile.FieldType.boolean)).before args0 about1 = true := code_word (m := ⟨7, 4⟩) (meth := k7m4) (c := k7c4) (by decide +kernel) rfl rfl rfl (by decide +kernel)
set_option maxRecDepth 65536 in
theorem w_c7 : (Jvm.Cond.code ({ cls := "java/lang/StringLatin1", name := "equals", desc := "([B[B)Z" } : Jvm.MethodName) jdk_43_method_13_code (3 : Nat) (Option.some Jvm.ClassFile.FieldType.boolean)).before args0 about1 = true := code_word (m := ⟨10, 2⟩) (meth := k10m2) (c := k10c2) (by decide +kernel) rfl rfl rfl (by decide +kernel)
set_option maxRecDepth 65536 in
theorem w_c8 : (Jvm.Cond.code ({ cls := "java/lang/StringUTF16", name := "compress", desc := "([CII)[B" } : Jvm.MethodName) jdk_52_method_16_code (6 : Nat) (Option.some (Jvm.ClassFile.FieldType.array Jvm.ClassFile.FieldType.byte))).before args0 about1 = true := code_word (m := ⟨11, 2⟩) (meth := k11m2) (c := k11c2) (by decide +kernel) rfl rfl rfl (by decide +kernel)
set_option maxRecDepth 65536 in
theorem w_c9 : (Jvm.Cond.code ({ cls := "java/lang/StringUTF16", name := "compress", desc := "([CI[BII)I" } : Jvm.MethodName) jdk_52_method_21_code (7 : Nat) (Option.some Jvm.ClassFile.FieldType.int)).before args0 about1 = true := code_word (m := ⟨11, 3⟩) (meth := k11m3) (c := k11c3) (by decide +kernel) rfl rfl rfl (by decide +kernel)
set_option maxRecDepth 65536 in
theorem w_c10 : (Jvm.Cond.code ({ cls := "java/lang/StringUTF16", name := "coderFromArrayLen", desc := "([BI)B" } : Jvm.MethodName) jdk_52_method_15_code (2 : Nat) (Option.some Jvm.ClassFile.FieldType.byte)).before args0 about1 = true := code_word (m := ⟨11, 1⟩) (meth := k11m1) (c := k11c1) (by decide +kernel) rfl rfl rfl (by decide +kernel)
set_option maxRecDepth 65536 in
theorem w_c11 : (Jvm.Cond.code ({ cls := "java/lang/String", name := "length", desc := "()I" } : Jvm.MethodName) jdk_42_method_54_code (1 : Nat) (Option.some Jvm.ClassFile.FieldType.int)).before args0 about1 = true := code_word (m := ⟨7, 2⟩) (meth := k7m2) (c := k7c2) (by decide +kernel) rfl rfl rfl (by decide +kernel)
set_option maxRecDepth 65536 in
theorem w_c12 : (Jvm.Cond.code ({ cls := "java/lang/String", name := "coder", desc := "()B" } : Jvm.MethodName) jdk_42_method_152_code (1 : Nat) (Option.some Jvm.ClassFile.FieldType.byte)).before args0 about1 = true := code_word (m := ⟨7, 6⟩) (meth := k7m6) (c := k7c6) (by decide +kernel) rfl rfl rfl (by decide +kernel)
set_option maxRecDepth 65536 in
theorem w_c13 : (Jvm.Cond.code ({ cls := "java/lang/String", name := "charAt", desc := "(I)C" } : Jvm.MethodName) jdk_42_method_56_code (2 : Nat) (Option.some Jvm.ClassFile.FieldType.char)).before args0 about1 = true := code_word (m := ⟨7, 3⟩) (meth := k7m3) (c := k7c3) (by decide +kernel) rfl rfl rfl (by decide +kernel)
set_option maxRecDepth 65536 in
theorem w_c14 : (Jvm.Cond.code ({ cls := "java/lang/String", name := "isLatin1", desc := "()Z" } : Jvm.MethodName) jdk_42_method_154_code (1 : Nat) (Option.some Jvm.ClassFile.FieldType.boolean)).before args0 about1 = true := code_word (m := ⟨7, 7⟩) (meth := k7m7) (c := k7c7) (by decide +kernel) rfl rfl rfl (by decide +kernel)
set_option maxRecDepth 65536 in
theorem w_c15 : (Jvm.Cond.code ({ cls := "java/lang/StringLatin1", name := "charAt", desc := "([BI)C" } : Jvm.MethodName) jdk_43_method_2_code (2 : Nat) (Option.some Jvm.ClassFile.FieldType.char)).before args0 about1 = true := code_word (m := ⟨10, 1⟩) (meth := k10m1) (c := k10c1) (by decide +kernel) rfl rfl rfl (by decide +kernel)
set_option maxRecDepth 65536 in
theorem w_c16 : (Jvm.Cond.code ({ cls := "java/lang/String", name := "checkIndex", desc := "(II)V" } : Jvm.MethodName) jdk_42_method_155_code (2 : Nat) (Option.none : Option Jvm.ClassFile.FieldType)).before args0 about1 = true := code_word (m := ⟨7, 8⟩) (meth := k7m8) (c := k7c8) (by decide +kernel) rfl rfl rfl (by decide +kernel)
set_option maxRecDepth 65536 in
theorem w_c17 : (Jvm.Cond.code ({ cls := "jdk/internal/util/Preconditions", name := "checkIndex", desc := "(IILjava/util/function/BiFunction;)I" } : Jvm.MethodName) jdk_41_method_11_code (3 : Nat) (Option.some Jvm.ClassFile.FieldType.int)).before args0 about1 = true := code_word (m := ⟨12, 1⟩) (meth := k12m1) (c := k12c1) (by decide +kernel) rfl rfl rfl (by decide +kernel)
def codes1 : List Jvm.Cond := [Jvm.Cond.code x code maxLocals ret, Jvm.Cond.code ({ cls := "com/example/kaname/kaname/config/ActionDeclarationRouteMethodPinLaw", name := "make", desc := "(ICCCCC)Ljava/lang/String;" } : Jvm.MethodName) method_2_code (6 : Nat) (Option.some (Jvm.ClassFile.FieldType.object "java/lang/String")), Jvm.Cond.code ({ cls := "java/lang/String", name := "<init>", desc := "([C)V" } : Jvm.MethodName) jdk_42_method_3_code (2 : Nat) (Option.none : Option Jvm.ClassFile.FieldType), Jvm.Cond.code ({ cls := "java/lang/String", name := "<init>", desc := "([CIILjava/lang/Void;)V" } : Jvm.MethodName) jdk_42_method_149_code (6 : Nat) (Option.none : Option Jvm.ClassFile.FieldType), Jvm.Cond.code ({ cls := "java/lang/Object", name := "<init>", desc := "()V" } : Jvm.MethodName) object_method_1_code (1 : Nat) (Option.none : Option Jvm.ClassFile.FieldType), Jvm.Cond.code ({ cls := "com/example/kaname/kaname/config/ActionDeclaration", name := "routeMethod", desc := "(Ljava/lang/String;)Ljava/lang/String;" } : Jvm.MethodName) prog_24_method_2_code (1 : Nat) (Option.some (Jvm.ClassFile.FieldType.object "java/lang/String")), Jvm.Cond.code ({ cls := "java/lang/String", name := "equals", desc := "(Ljava/lang/Object;)Z" } : Jvm.MethodName) jdk_42_method_66_code (3 : Nat) (Option.some Jvm.ClassFile.FieldType.boolean), Jvm.Cond.code ({ cls := "java/lang/StringLatin1", name := "equals", desc := "([B[B)Z" } : Jvm.MethodName) jdk_43_method_13_code (3 : Nat) (Option.some Jvm.ClassFile.FieldType.boolean), Jvm.Cond.code ({ cls := "java/lang/StringUTF16", name := "compress", desc := "([CII)[B" } : Jvm.MethodName) jdk_52_method_16_code (6 : Nat) (Option.some (Jvm.ClassFile.FieldType.array Jvm.ClassFile.FieldType.byte)), Jvm.Cond.code ({ cls := "java/lang/StringUTF16", name := "compress", desc := "([CI[BII)I" } : Jvm.MethodName) jdk_52_method_21_code (7 : Nat) (Option.some Jvm.ClassFile.FieldType.int), Jvm.Cond.code ({ cls := "java/lang/StringUTF16", name := "coderFromArrayLen", desc := "([BI)B" } : Jvm.MethodName) jdk_52_method_15_code (2 : Nat) (Option.some Jvm.ClassFile.FieldType.byte), Jvm.Cond.code ({ cls := "java/lang/String", name := "length", desc := "()I" } : Jvm.MethodName) jdk_42_method_54_code (1 : Nat) (Option.some Jvm.ClassFile.FieldType.int), Jvm.Cond.code ({ cls := "java/lang/String", name := "coder", desc := "()B" } : Jvm.MethodName) jdk_42_method_152_code (1 : Nat) (Option.some Jvm.ClassFile.FieldType.byte), Jvm.Cond.code ({ cls := "java/lang/String", name := "charAt", desc := "(I)C" } : Jvm.MethodName) jdk_42_method_56_code (2 : Nat) (Option.some Jvm.ClassFile.FieldType.char), Jvm.Cond.code ({ cls := "java/lang/String", name := "isLatin1", desc := "()Z" } : Jvm.MethodName) jdk_42_method_154_code (1 : Nat) (Option.some Jvm.ClassFile.FieldType.boolean), Jvm.Cond.code ({ cls := "java/lang/StringLatin1", name := "charAt", desc := "([BI)C" } : Jvm.MethodName) jdk_43_method_2_code (2 : Nat) (Option.some Jvm.ClassFile.FieldType.char), Jvm.Cond.code ({ cls := "java/lang/String", name := "checkIndex", desc := "(II)V" } : Jvm.MethodName) jdk_42_method_155_code (2 : Nat) (Option.none : Option Jvm.ClassFile.FieldType), Jvm.Cond.code ({ cls := "jdk/internal/util/Preconditions", name := "checkIndex", desc := "(IILjava/util/function/BiFunction;)I" } : Jvm.MethodName) jdk_41_method_11_code (3 : Nat) (Option.some Jvm.ClassFile.FieldType.int)]
set_option maxRecDepth 65536 in
theorem codes_eq : words1.filter isCode = codes1 := rfl
theorem w_codes : ∀ c ∈ words1.filter isCode, c.before args0 about1 = true := by
  rw [codes_eq]
  intro c hc
  simp only [codes1, List.mem_cons, List.not_mem_nil, or_false] at hc
  rcases hc with rfl | rfl | rfl | rfl | rfl | rfl | rfl | rfl | rfl | rfl | rfl | rfl | rfl | rfl | rfl | rfl | rfl | rfl
  · exact w_c0
  · exact w_c1
  · exact w_c2
  · exact w_c3
  · exact w_c4
  · exact w_c5
  · exact w_c6
  · exact w_c7
  · exact w_c8
  · exact w_c9
  · exact w_c10
  · exact w_c11
  · exact w_c12
  · exact w_c13
  · exact w_c14
  · exact w_c15
  · exact w_c16
  · exact w_c17
set_option maxRecDepth 65536 in
theorem w_t1 : (words1.take 24).all (fun c => isCode c || c.before args0 about1) = true := by decide +kernel
set_option maxRecDepth 65536 in
theorem w_t2 : ((words1.drop 24).take 24).all (fun c => isCode c || c.before args0 about1) = true := by decide +kernel
set_option maxRecDepth 65536 in
theorem w_t3 : (((words1.drop 24).drop 24).take 24).all (fun c => isCode c || c.before args0 about1) = true := by decide +kernel
set_option maxRecDepth 65536 in
theorem w_t4 : (((words1.drop 24).drop 24).drop 24).all (fun c => isCode c || c.before args0 about1) = true := by decide +kernel
theorem w_tables : (allAtoms (Jvm.Cond.code x code maxLocals ret :: tables_1)).before args0 about1 = true := by
  rw [allAtoms_all]
  show words1.all (fun c => c.before args0 about1) = true
  refine all_split ?_ w_codes
  rw [← List.take_append_drop 24 words1, List.all_append, w_t1, ← List.take_append_drop 24 (words1.drop 24), List.all_append, w_t2, ← List.take_append_drop 24 ((words1.drop 24).drop 24), List.all_append, w_t3, w_t4]
  rfl
set_option maxRecDepth 65536 in
theorem w_rest : rest_1_c.before args0 about1 = true := by decide +kernel
set_option maxRecDepth 65536 in
theorem w_case : (Jvm.Cond.and given_1 narrow_1).before args0 about1 = true := by decide +kernel
set_option maxRecDepth 65536 in
theorem w_consts : constsHeld consts_1 about1 := Jvm.Lit.constsHeldB_iff.mp (by decide +kernel)
theorem w_applies : (headSpec (Jvm.Cond.code x code maxLocals ret :: tables_1) room_1).applies x e0.platform about1 = true :=
  (Spec.applies_iff w_frames).mpr ⟨w_running, w_runnable, w_alone, w_named, w_hears, w_ripe, w_room, w_tables⟩
theorem atStart : AtStart classFile x code maxLocals ret World_1 tables_1 room_1 Calls_1 rest_1 Pre_1 launch0 p0 e0 about1 theMethod args0 below0 :=
  ⟨lists_1, trivial, launch0.admits_env _ _ _, launch0.least_env, fairChoices_fair.cas, fairChoices_fair.clock, w_frames, w_args, w_heap, w_applies, ⟨w_consts, trivial⟩, w_rest, w_case⟩
end start1
theorem witness_1 : WitnessClaimed_1 := ⟨start1.p0, start1.e0, start1.about1, start1.theMethod, start1.args0, start1.below0, start1.atStart⟩
end Jvm.Pilot.@@N@@
